import PyProof.Rows.All
import Wide.All
import OpenK.AllK
import Wide.FinOn
import PySem.Challenge.RW_dn0257_02
open PySem PySem.W PySem.Calls PyProof.Rows
set_option Elab.async false
namespace Mine
theorem runs_toks {M : Model} {Γ : Ctx} {p : Pos} {t : Sem Fin} {fs : List Frame} {s s' : Shared} {e : End} (h : Runs M Γ p t fs s e s') : s.toks ≤ s'.toks := by
  induction h with
  | done => exact Nat.le_refl _
  | raise => exact Nat.le_refl _
  | yield => exact Nat.le_refl _
  | fresh _ ih => exact Nat.le_trans (Nat.le_succ _) ih
  | call _ _ ih1 ih2 => exact Nat.le_trans ih1 ih2
  | resumeFresh _ _ _ _ ih1 ih2 => exact Nat.le_trans ih1 ih2
  | resumeSuspended _ _ _ _ ih1 ih2 => exact Nat.le_trans ih1 ih2
  | segRet _ _ ih1 ih2 => exact Nat.le_trans ih1 ih2
  | segGen _ _ ih1 ih2 => exact Nat.le_trans ih1 ih2
  | segSuspGen _ _ _ _ ih1 ih2 => exact Nat.le_trans ih1 ih2
  | _ => first | assumption | (rename_i ih; exact ih)
theorem wakes_toks {M : Model} {Γ : Ctx} {p : Pos} {g : Nat} {r : Resume} {s s' : Shared} {res : GenResult} (h : Wakes M Γ p g r s res s') : s.toks ≤ s'.toks := by
  unfold Wakes at h
  split at h
  · exact h.elim
  · split at h
    · obtain ⟨e₁, s₁, h1, _, _, rfl⟩ := h; have h2 := runs_toks h1; exact h2
    · rw [h.2]; exact Nat.le_refl _
    · rw [h.2]; exact Nat.le_refl _
  · obtain ⟨e₁, s₁, h1, _, _, rfl⟩ := h; have h2 := runs_toks h1; exact h2
  · rw [h.2]; exact Nat.le_refl _
  · rw [h.2]; exact Nat.le_refl _
theorem wp_toks {X : Type} (M : Model) (Γ : Ctx) (tree : Sem X) (n : Nat) {post : X → Pos → Shared → Prop} {exc : Value → Pos → Shared → Prop} : ∀ (pos : Pos) (sh : Shared), n ≤ sh.toks →
    Sem.wp M Γ tree post exc pos sh → Sem.wp M Γ tree (fun x p s => post x p s ∧ n ≤ s.toks) (fun v p s => exc v p s ∧ n ≤ s.toks) pos sh := by
  induction tree with
  | pure x => exact fun p s h k => ⟨k, h⟩
  | raise v => exact fun p s h k => ⟨k, h⟩
  | unsupported | finish | yield | fork | await | register => exact fun _ _ _ k => k
  | rule _ k ih | «at» _ k ih | alloc _ k ih | loadIfAlive _ k ih | point _ k ih | ask k ih | os _ _ k ih | handled _ k ih | newGen _ k ih | stack k ih | thread k ih => exact fun p s h k => ih _ _ _ h k
  | fresh k ih => exact fun p s h k => ih _ _ _ (Nat.le_trans h (Nat.le_succ _)) k
  | load a _ k ih | genState a k ih => exact fun p s hn ⟨o, ho, h⟩ => ⟨o, ho, ih _ _ _ hn h⟩
  | update a _ f k ih | choose _ _ k ih => exact fun p s hn ⟨ha, h⟩ => ⟨ha, ih _ _ _ hn h⟩
  | call c h g l k ih => exact fun p s hn ⟨r, s', hr, hk⟩ => ⟨r, s', hr, ih _ _ _ (Nat.le_trans hn (runs_toks hr)) hk⟩
  | resume g r l k ih => exact fun p s hn ⟨res, s', hw, h⟩ => ⟨res, s', hw, ih _ _ _ (Nat.le_trans hn (wakes_toks hw)) h⟩
theorem wpAny_toks {α : Type} {M : Model} {A : Around} {t : Sem α} {Q : α → Shared → Prop} {E : Value → Shared → Prop} {s : Shared} {n : Nat} (hn : n ≤ s.toks) (h : wpAny M A t (fun a s' => n ≤ s'.toks → Q a s') (fun e s' => n ≤ s'.toks → E e s') s) : wpAny M A t Q E s := fun Γ p hΓ =>
  Sem.wp_mono M Γ t (fun _ _ _ k => k.1 k.2) (fun _ _ _ k => k.1 k.2) p s (wp_toks M Γ t n p s hn (h Γ p hΓ))
end Mine
namespace Mine
/-- abstract values -/
inductive V where
  | none
  | bool (b : Bool)
  | int (i : Int)
  | str (s : List Nat)
  | byt (b : Array UInt8)
  | obj (i : Nat)
  | glob (v : Value)
/-- abstract objects -/
inductive O where
  | list (xs : List V)
  | tuple (xs : List V)
  | inst (as : List (String × V))
  | dict (es : List (List Nat × V))
  | range (a b st : Int)
  | slice (a b st : V)
  | clos (cs : List (String × V))
  | ctab
structure St where
  loc : String → Option V
  sto : List O
inductive Res (α : Type) where
  | ok (a : α) (st : St)
  | exc (k : String) (st : St)
  | fail
abbrev PM (α : Type) := St → Res α
def PM.pure {α : Type} (a : α) : PM α := fun st => .ok a st
def PM.bind {α β : Type} (m : PM α) (f : α → PM β) : PM β := fun st => match m st with
  | .ok a st' => f a st'
  | .exc k st' => .exc k st'
  | .fail => .fail
def PM.fail {α : Type} : PM α := fun _ => .fail
theorem bind_ok {α β : Type} {m : PM α} {f : α → PM β} {st st' : St} {b : β} (h : PM.bind m f st = .ok b st') : ∃ a st₁, m st = .ok a st₁ ∧ f a st₁ = .ok b st' := by
  unfold PM.bind at h
  cases e : m st with
  | ok a st₁ => rw [e] at h; exact ⟨a, st₁, rfl, h⟩
  | exc k st₁ => rw [e] at h; cases h
  | fail => rw [e] at h; cases h
theorem pure_ok {α : Type} {a b : α} {st st' : St} (h : PM.pure a st = .ok b st') : b = a ∧ st' = st := by cases h; exact ⟨rfl, rfl⟩
abbrev Map := List (Addr × Addr)
abbrev Led := List (Addr × Obj)
/-- what a step must leave as it is: hidden objects, frozen ones -/
structure Hd where
  h : Led
  z : Led
def okS (l : List Nat) : Prop := ∀ c ∈ l, c < 1114112
inductive VR (ρ : Map) : V → Value → Prop
  | none : VR ρ .none .none
  | bool (b : Bool) : VR ρ (.bool b) (.bool b)
  | int (i : Int) (t : Tok) : VR ρ (.int i) (.int i t)
  | str (l : List Nat) (t : Tok) : okS l → VR ρ (.str l) (.str ⟨l.toArray⟩ t)
  | byt (b : Array UInt8) (t : Tok) : VR ρ (.byt b) (.bytes b t)
  | obj {i : Nat} {p : Addr × Addr} : ρ[i]? = some p → VR ρ (.obj i) (.ref p.1)
  | glob (v : Value) : VR ρ (.glob v) v
theorem get_mono {ρ ρ' : Map} (h : ρ <+: ρ') {i : Nat} {p : Addr × Addr} (e : ρ[i]? = some p) : ρ'[i]? = some p := by
  obtain ⟨t, rfl⟩ := h
  have hi : i < ρ.length := by
    rcases Nat.lt_or_ge i ρ.length with q | q
    · exact q
    · rw [List.getElem?_eq_none q] at e; cases e
  rw [List.getElem?_append_left hi]; exact e
theorem VR.mono {ρ ρ' : Map} (h : ρ <+: ρ') {v : V} {u : Value} (x : VR ρ v u) : VR ρ' v u := by
  cases x with
  | none => exact .none
  | bool b => exact .bool b
  | int i t => exact .int i t
  | str l t h => exact .str l t h
  | byt b t => exact .byt b t
  | obj e => exact .obj (get_mono h e)
  | glob _ => exact .glob _
abbrev VRs (ρ : Map) := Paired (VR ρ)
theorem Paired.imp {α β : Type} {F G : α → β → Prop} (h : ∀ a b, F a b → G a b) : ∀ {l₁ : List α} {l₂ : List β}, Paired F l₁ l₂ → Paired G l₁ l₂
  | _, _, .nil => .nil
  | _, _, .cons x t => .cons (h _ _ x) (Paired.imp h t)
theorem VRs.mono {ρ ρ' : Map} (h : ρ <+: ρ') {vs : List V} {us : List Value} (x : VRs ρ vs us) : VRs ρ' vs us := Paired.imp (fun _ _ => VR.mono h) x
/-- an attribute table and the entries of its dict -/
def AR (ρ : Map) (a : String × V) (e : DictEntry) : Prop := (∃ t, e.key = .str (Str.ofString a.1) t) ∧ VR ρ a.2 e.val
/-- a dict by texts -/
def DR (ρ : Map) (a : List Nat × V) (e : Str × Value) : Prop := e.1 = ⟨a.1.toArray⟩ ∧ VR ρ a.2 e.2
abbrev tupleObj (its : List Value) (n : Nat) : Obj := { cls := .type "tuple", data := .seq its.toArray n }
abbrev listObj (its : List Value) (n : Nat) : Obj := { cls := .type "list", data := .seq its.toArray n }
structure Cx where
  prog : Program
  w : World
  K : Frag
  C : Addr
  p : Program
  loose : List Str
  mg : Str → Option Value
  mb : Str → Option Value
  h₀ : Heap
  L : Addr
  A : Around
  fenv : Env
  env : Env
  base : Heap
  outer : List Env
  os : OsState
  n : Nat
  fm : Str → Option Value
  fzn : Bool
  lam : FuncBody × Arguments × Scope × Str
  tab : Addr × Array Value × Pos
abbrev Cx.M (cx : Cx) : Model := model cx.prog cx.w
/-- a function made in a call: its body, its parameters, its scope, its qualified name; what its cells hold -/
def Lam (ρ : Map) (fz : Led) (f : FuncBody × Arguments × Scope × Str) (cs : List (String × V)) (fd : FuncData) : Prop :=
  fd.body = f.1 ∧ fd.params = f.2.1 ∧ fd.scope = f.2.2.1 ∧ fd.qualname = f.2.2.2 ∧ fd.globals = mainGlobals ∧ fd.builtins = builtinsNs ∧ fd.defaults = .none ∧ fd.kwdefaults = .none ∧
  (∃ c o, fd.code = .ref c ∧ (c, o) ∈ fz ∧ (∃ t vs, o.data = .fields vs ∧ vs[1]? = some (.str fd.qualname t))) ∧
  (∀ n v, cs.lookup n = some v → f.2.2.1.names.lookup (Str.ofString n) = some .free) ∧
  (∀ n v, cs.lookup n = some v → ∃ c o V, fd.closure.lookup (Str.ofString n) = some c ∧ (c, o) ∈ fz ∧ o.data = .cell (some V) ∧ VR ρ v V) ∧
  (∀ x c, fd.closure.lookup x = some c → ∃ o V, (c, o) ∈ fz ∧ o.data = .cell V) ∧ (∀ x y c, fd.closure.lookup x = some c → fd.closure.lookup y = some c → x = y)
def OAt (cx : Cx) (ρ : Map) (fz led : Led) (p : Addr × Addr) : O → Prop
  | .list xs => ∃ Xs n, VRs ρ xs Xs ∧ (p.1, listObj Xs n) ∈ led
  | .tuple xs => ∃ Xs n, VRs ρ xs Xs ∧ (p.1, tupleObj Xs n) ∈ led
  | .inst as => ∃ Es n, Paired (AR ρ) as Es ∧ Es.length ≤ 100 ∧ (p.1, instObj cx.C p.2) ∈ led ∧ (p.2, dictOf Es n) ∈ led
  | .dict es => ∃ o kvs, Paired (DR ρ) es kvs ∧ o.IsDictOf (PySem.strKind cx.prog cx.w) kvs ∧ p.1 ≠ sysModules ∧ (p.1, o) ∈ led
  | .range a b st => ∃ A B S, VR ρ (.int a) A ∧ VR ρ (.int b) B ∧ VR ρ (.int st) S ∧ (p.1, ({ cls := .type "range", data := .fields #[A, B, S] } : Obj)) ∈ led
  | .slice a b st => ∃ A B S, VR ρ a A ∧ VR ρ b B ∧ VR ρ st S ∧ (p.1, ({ cls := .type "slice", data := .fields #[A, B, S] } : Obj)) ∈ led
  | .clos cs => ∃ fd, (p.1, ({ cls := .type "function", data := .func fd } : Obj)) ∈ led ∧ Lam ρ fz cx.lam cs fd
  | .ctab => p.1 = cx.tab.1 ∧ ∃ ps more, ps = cx.tab.2.1 ++ more ∧ TriplesOk ps.toList ∧ (p.1, ({ cls := .none, data := .fields ps } : Obj)) ∈ led ∧
      (codeAmong cx.tab.2.2 ps.toList = none ∨ ∃ c o, codeAmong cx.tab.2.2 ps.toList = some (.ref c) ∧ (c, o) ∈ fz ∧ (∃ t vs, o.data = .fields vs ∧ vs[1]? = some (.str cx.lam.2.2.2 t)))
/-- where the built-in names' module lies -/
def BM (mg : Str → Option Value) (h : Heap) : Prop := ∃ bm ob, mg "__builtins__" = some (.ref bm) ∧ bm ≠ builtinsNs ∧ h.get? bm = some ob ∧ ob.cls = .type "module" ∧ ob.dict = some builtinsNs ∧ ob.data = .plain
theorem BM.keeps {mg : Str → Option Value} {h h' : Heap} (x : BM mg h) (k : ∀ b o, h.get? b = some o → h'.get? b = some o) : BM mg h' := by
  obtain ⟨bm, ob, a1, a2, a3, a4⟩ := x
  exact ⟨bm, ob, a1, a2, k _ _ a3, a4⟩
structure Cx.Ok (cx : Cx) : Prop where
  bmain : BM cx.mg cx.h₀
  kin : cx.K.In cx.h₀
  top : TopRead cx.p cx.loose cx.mg cx.mb cx.h₀
  below : ∃ A₀, Below A₀ cx.base cx.outer cx.h₀
  frames : cx.A.frames = some (cx.fenv :: cx.outer)
  fframe : cx.fenv.frame = some cx.L
  fkind : cx.fenv.scope.kind = .function
  kind : cx.env.scope.kind = .function
  globals : cx.env.globals = mainGlobals
  builtins : cx.env.builtins = builtinsNs
  handled : cx.A.handled = none
  depth : cx.A.depth + 4 * cx.n + 4 < recursionLimit
  units : cx.A.units + 40 * cx.n + 200 < cLine
  cinj : ∀ x y c, cx.env.cells.lookup x = some c → cx.env.cells.lookup y = some c → x = y
def BoundTo (env : Env) (mloc : Str → Option Value) (led : Led) (x : Str) (V : Value) : Prop :=
  (env.kindOf x = some .local ∧ mloc x = some V) ∨
  ((env.kindOf x = some .cell ∨ env.kindOf x = some .free) ∧ ∃ c o, env.cells.lookup x = some c ∧ (c, o) ∈ led ∧ o.data = .cell (some V))
/-- where the current block's own names lie: in the function's frame, or in the dict of a comprehension -/
def LocNs (cx : Cx) (ρ : Map) (hid : Hd) (fz led : Led) (m mloc : Str → Option Value) : Prop :=
  (cx.env.locals = cx.L ∧ mloc = m) ∨
  (cx.env.locals ≠ cx.L ∧ ∃ o es ep, (cx.env.locals, o) ∈ led ∧ o.data = .dict es ep ∧ StrKeys es ∧ (∀ name, nsFind es name = mloc name) ∧
    (∀ p ∈ ρ, p.1 ≠ cx.env.locals ∧ p.2 ≠ cx.env.locals) ∧ (∀ q ∈ hid.h, q.1 ≠ cx.env.locals) ∧ (∀ q ∈ fz, q.1 ≠ cx.env.locals) ∧ (∀ x, cx.env.cells.lookup x ≠ some cx.env.locals))
structure Bear (cx : Cx) (ρ : Map) (hid : Hd) (fz led : Led) (m mloc : Str → Option Value) (st : St) : Prop where
  nd : (led.map (·.1)).Nodup
  cm : cx.env.locals ≠ cx.L → m = cx.fm
  ln : LocNs cx ρ hid fz led m mloc
  len : ρ.length = st.sto.length
  own : ∀ p ∈ ρ, p.1 ∈ led.map (·.1) ∧ p.2 ∈ led.map (·.1)
  obj : ∀ (i : Nat) (o : O) (p : Addr × Addr), st.sto[i]? = some o → ρ[i]? = some p → OAt cx ρ fz led p o
  sep : ∀ (i j : Nat) (p q : Addr × Addr), ρ[i]? = some p → ρ[j]? = some q → i ≠ j → p.1 ≠ q.1 ∧ p.1 ≠ q.2 ∧ p.2 ≠ q.1 ∧ p.2 ≠ q.2
  hin : ∀ q ∈ hid.h, q ∈ led
  hsep : ∀ q ∈ hid.h, ∀ p ∈ ρ, q.1 ≠ p.1 ∧ q.1 ≠ p.2
  cel : ∀ x c, cx.env.cells.lookup x = some c → ∃ o v, (c, o) ∈ led ∧ o.data = .cell v
  csep : ∀ x c, cx.env.cells.lookup x = some c → (∀ q ∈ hid.h, q.1 ≠ c) ∧ (∀ p ∈ ρ, p.1 ≠ c ∧ p.2 ≠ c)
  fin : ∀ q ∈ fz, q ∈ led
  fz0 : ∀ q ∈ hid.z, q ∈ fz
  hfz : ∀ q ∈ hid.h, ∀ r ∈ fz, r.1 ≠ q.1
  fsep : ∀ q ∈ fz, ∀ p ∈ ρ, q.1 ≠ p.1 ∧ q.1 ≠ p.2
  fcel : cx.fzn = false → ∀ q ∈ fz, ∀ x, cx.env.kindOf x = some .cell → cx.env.cells.lookup x ≠ some q.1
  loc : ∀ n v, st.loc n = some v → ∃ V, VR ρ v V ∧ BoundTo cx.env mloc led (Str.ofString n) V
structure RelD (cx : Cx) (ρ : Map) (hid : Hd) (fz led : Led) (m mloc : Str → Option Value) (st : St) (s : Shared) : Prop where
  F : Fr cx.h₀ cx.L s.heap m
  N : News cx.h₀ cx.L s.heap led
  B : Bear cx ρ hid fz led m mloc st
  gens : s.gens = #[]
  os : s.os = cx.os
  tk : 0 < s.toks
def Rel (cx : Cx) (ρ : Map) (hid : Hd) (st : St) (s : Shared) : Prop := ∃ fz led m mloc, RelD cx ρ hid fz led m mloc st s
theorem Rel.pos {cx : Cx} {ρ : Map} {hid : Hd} {st : St} {s : Shared} (x : Rel cx ρ hid st s) : 0 < s.toks := by
  obtain ⟨_, _, _, _, x⟩ := x
  exact x.tk
/-- tokens never shrink -/
theorem lf {α : Type} {M : Model} {A : Around} {t : Sem α} {Q : α → Shared → Prop} {E : Value → Shared → Prop} {s : Shared} (x : 0 < s.toks) (h : wpAny M A t (fun a s' => 0 < s'.toks → Q a s') E s) : wpAny M A t Q E s :=
  wpAny_toks x (wpAny_mono h (fun _ _ k => k) fun _ _ k _ => k)
def Sim {α β : Type} (cx : Cx) (t : Sem α) (m : PM β) (R : Map → β → α → Prop) : Prop :=
  ∀ ρ hid st s, Rel cx ρ hid st s → ∀ b st', m st = .ok b st' →
    wpAny cx.M cx.A t (fun a s' => ∃ ρ', ρ <+: ρ' ∧ Rel cx ρ' hid st' s' ∧ R ρ' b a) (fun _ _ => False) s
abbrev SimV (cx : Cx) (t : Sem Value) (m : PM V) : Prop := Sim cx t m VR
end Mine
namespace Mine
theorem AR.mono {ρ ρ' : Map} (h : ρ <+: ρ') {a : String × V} {e : DictEntry} (x : AR ρ a e) : AR ρ' a e := ⟨x.1, x.2.mono h⟩
theorem DR.mono {ρ ρ' : Map} (h : ρ <+: ρ') {a : List Nat × V} {e : Str × Value} (x : DR ρ a e) : DR ρ' a e := ⟨x.1, x.2.mono h⟩
theorem Lam.mono {ρ ρ' : Map} {fz fz' : Led} {f : FuncBody × Arguments × Scope × Str} {cs : List (String × V)} {fd : FuncData} (h : ρ <+: ρ') (hf : ∀ q ∈ fz, q ∈ fz') (x : Lam ρ fz f cs fd) : Lam ρ' fz' f cs fd := by
  obtain ⟨a1, a2, a3, a4, a5, a6, a7, a8, ⟨c, o, b1, b2, b3⟩, kf, k, kk, ki⟩ := x
  refine ⟨a1, a2, a3, a4, a5, a6, a7, a8, ⟨c, o, b1, hf _ b2, b3⟩, kf, fun n v e => ?_, fun x c e => ?_, ki⟩
  · obtain ⟨c, o, V, k1, k2, k3, k4⟩ := k n v e
    exact ⟨c, o, V, k1, hf _ k2, k3, k4.mono h⟩
  · obtain ⟨o, V, k1, k2⟩ := kk x c e
    exact ⟨o, V, hf _ k1, k2⟩
theorem OAt.mono {cx : Cx} {ρ ρ' : Map} {fz fz' led led' : Led} {p : Addr × Addr} {o : O} (h : ρ <+: ρ') (hf : ∀ q ∈ fz, q ∈ fz')
    (hl : ∀ b ob, (b, ob) ∈ led → b = p.1 ∨ b = p.2 → (b, ob) ∈ led') (x : OAt cx ρ fz led p o) : OAt cx ρ' fz' led' p o := by
  cases o with
  | list xs => obtain ⟨Xs, n, a, b⟩ := x; exact ⟨Xs, n, a.mono h, hl _ _ b (.inl rfl)⟩
  | tuple xs => obtain ⟨Xs, n, a, b⟩ := x; exact ⟨Xs, n, a.mono h, hl _ _ b (.inl rfl)⟩
  | inst as => obtain ⟨Es, n, a, c, b, d⟩ := x; exact ⟨Es, n, Paired.imp (fun _ _ => AR.mono h) a, c, hl _ _ b (.inl rfl), hl _ _ d (.inr rfl)⟩
  | dict es => obtain ⟨o, kvs, a, d, c, b⟩ := x; exact ⟨o, kvs, Paired.imp (fun _ _ => DR.mono h) a, d, c, hl _ _ b (.inl rfl)⟩
  | range a b c => obtain ⟨A, B, S, x1, x2, x3, x4⟩ := x; exact ⟨A, B, S, x1.mono h, x2.mono h, x3.mono h, hl _ _ x4 (.inl rfl)⟩
  | slice a b c => obtain ⟨A, B, S, x1, x2, x3, x4⟩ := x; exact ⟨A, B, S, x1.mono h, x2.mono h, x3.mono h, hl _ _ x4 (.inl rfl)⟩
  | clos cs => obtain ⟨fd, x1, x2⟩ := x; exact ⟨fd, hl _ _ x1 (.inl rfl), x2.mono h hf⟩
  | ctab =>
    obtain ⟨x0, ps, more, x1, x2, x3, x4⟩ := x
    refine ⟨x0, ps, more, x1, x2, hl _ _ x3 (.inl rfl), ?_⟩
    rcases x4 with x4 | ⟨c, o, y1, y2, y3⟩
    · exact .inl x4
    · exact .inr ⟨c, o, y1, hf _ y2, y3⟩
theorem BoundTo.mono {env : Env} {mloc : Str → Option Value} {led led' : Led} {x : Str} {V : Value} (hl : ∀ c o, env.cells.lookup x = some c → (c, o) ∈ led → (c, o) ∈ led') (h : BoundTo env mloc led x V) : BoundTo env mloc led' x V := by
  rcases h with h | ⟨hk, c, o, h1, h2, h3⟩
  · exact .inl h
  · exact .inr ⟨hk, c, o, h1, hl c o h1 h2, h3⟩
theorem mem_of_get {ρ : Map} {i : Nat} {p : Addr × Addr} (h : ρ[i]? = some p) : p ∈ ρ := List.mem_of_getElem? h
/-- one object's place in the ledger bears another object -/
def updL (d : Addr) (ob : Obj) (led : Led) : Led := led.map fun q => if q.1 = d then (d, ob) else q
theorem updL_fst (d : Addr) (ob : Obj) (led : Led) : (updL d ob led).map (·.1) = led.map (·.1) := by
  unfold updL
  rw [List.map_map]
  refine List.map_congr_left fun q _ => ?_
  show (if q.1 = d then (d, ob) else q).1 = q.1
  split
  · rename_i h; exact h.symm
  · rfl
theorem mem_updL_ne {d b : Addr} {ob o : Obj} {led : Led} (h : (b, o) ∈ led) (hne : b ≠ d) : (b, o) ∈ updL d ob led := by
  refine List.mem_map.mpr ⟨(b, o), h, ?_⟩
  show (if b = d then (d, ob) else (b, o)) = (b, o)
  rw [if_neg hne]
theorem mem_updL_self {d : Addr} {ob o : Obj} {led : Led} (h : (d, o) ∈ led) : (d, ob) ∈ updL d ob led := by
  refine List.mem_map.mpr ⟨(d, o), h, ?_⟩
  show (if d = d then (d, ob) else (d, o)) = (d, ob)
  rw [if_pos rfl]
theorem upd_of {d : Addr} {o : Obj} (ob : Obj) : ∀ {led : Led}, (d, o) ∈ led → (led.map (·.1)).Nodup → Upd d o ob led (updL d ob led)
  | q :: r, hm, hn => by
    rw [List.map_cons, List.nodup_cons] at hn
    by_cases hq : q.1 = d
    · have hr : ∀ p ∈ r, p.1 ≠ d := fun p hp e => hn.1 (by rw [hq, ← e]; exact List.mem_map_of_mem hp)
      have hqe : q = (d, o) := by
        rcases List.mem_cons.mp hm with e | e
        · exact e.symm
        · exact absurd rfl (hr _ e)
      subst hqe
      have e : updL d ob ((d, o) :: r) = (d, ob) :: r := by
        unfold updL
        rw [List.map_cons]
        have : r.map (fun q => if q.1 = d then (d, ob) else q) = r := by
          conv => rhs; rw [← List.map_id r]
          exact List.map_congr_left fun p hp => by rw [if_neg (hr p hp)]; rfl
        rw [this]; simp
      rw [e]
      exact .head hr
    · have hm' : (d, o) ∈ r := by
        rcases List.mem_cons.mp hm with e | e
        · exact absurd (by rw [← e]) hq
        · exact e
      have e : updL d ob (q :: r) = q :: updL d ob r := by unfold updL; rw [List.map_cons, if_neg hq]
      rw [e]
      exact .tail hq (upd_of ob hm' hn.2)
theorem nodup_mem {led : Led} (hn : (led.map (·.1)).Nodup) {b : Addr} {o o' : Obj} (h : (b, o) ∈ led) (h' : (b, o') ∈ led) : o = o' := by
  induction led with
  | nil => cases h
  | cons q r ih =>
    rw [List.map_cons, List.nodup_cons] at hn
    rcases List.mem_cons.mp h with e | e <;> rcases List.mem_cons.mp h' with e' | e'
    · exact (Prod.mk.inj (e.trans e'.symm)).2
    · exact absurd (List.mem_map_of_mem (f := (·.1)) e') (by rw [← e] at hn; exact hn.1)
    · exact absurd (List.mem_map_of_mem (f := (·.1)) e) (by rw [← e'] at hn; exact hn.1)
    · exact ih hn.2 e e'
section
variable {cx : Cx} {ρ : Map} {hid : Hd} {fz led : Led} {m mloc : Str → Option Value} {st : St}
/-- an object of the store changes -/
theorem Bear.upd (B : Bear cx ρ hid fz led m mloc st) {i : Nat} {p : Addr × Addr} {d : Addr} {ob : Obj} {o : O} (hp : ρ[i]? = some p) (hd : d = p.1 ∨ d = p.2)
    (ho : OAt cx ρ fz (updL d ob led) p o) : Bear cx ρ hid fz (updL d ob led) m mloc { st with sto := st.sto.set i o } := by
  have hpm := mem_of_get hp
  refine ⟨by rw [updL_fst]; exact B.nd, B.cm, ?_, by rw [List.length_set]; exact B.len, fun q hq => by rw [updL_fst]; exact B.own q hq, fun j o' q hj hq => ?_, B.sep, fun q hq => ?_, B.hsep, fun x c hc => ?_, B.csep, fun q hq => ?_, B.fz0, B.hfz, B.fsep, B.fcel, fun n v hv => ?_⟩
  · rcases B.ln with h | ⟨h1, o', es, ep, h2, h3, h4, h5, h6, h7, h8, h9⟩
    · exact .inl h
    · refine .inr ⟨h1, o', es, ep, mem_updL_ne h2 fun e => ?_, h3, h4, h5, h6, h7, h8, h9⟩
      rcases hd with hd | hd
      · exact (h6 p hpm).1 (hd.symm.trans e.symm)
      · exact (h6 p hpm).2 (hd.symm.trans e.symm)
  · by_cases hij : j = i
    · subst hij
      have : q = p := Option.some.inj (hq.symm.trans hp)
      subst this
      have hlt : j < st.sto.length := by
        rcases Nat.lt_or_ge j st.sto.length with z | z
        · exact z
        · rw [← B.len] at z; rw [List.getElem?_eq_none z] at hp; cases hp
      rw [List.getElem?_set_self hlt] at hj
      cases hj
      exact ho
    · rw [List.getElem?_set_ne (Ne.symm hij)] at hj
      refine (B.obj j o' q hj hq).mono (List.prefix_refl _) (fun _ h => h) fun b ob' hb hbq => mem_updL_ne hb fun e => ?_
      have s := B.sep j i q p hq hp hij
      rcases hbq with rfl | rfl <;> rcases hd with rfl | rfl
      · exact s.1 e
      · exact s.2.1 e
      · exact s.2.2.1 e
      · exact s.2.2.2 e
  · refine mem_updL_ne (B.hin q hq) fun e => ?_
    have := B.hsep q hq p hpm
    rcases hd with rfl | rfl
    · exact this.1 e
    · exact this.2 e
  · obtain ⟨o', v, h1, h2⟩ := B.cel x c hc
    refine ⟨o', v, mem_updL_ne h1 fun e => ?_, h2⟩
    have := (B.csep x c hc).2 p hpm
    rcases hd with rfl | rfl
    · exact this.1 e.symm
    · exact this.2 e.symm
  · refine mem_updL_ne (B.fin q hq) fun e => ?_
    have := B.fsep q hq p hpm
    rcases hd with rfl | rfl
    · exact this.1 e
    · exact this.2 e
  · obtain ⟨V, h1, h2⟩ := B.loc n v hv
    refine ⟨V, h1, h2.mono fun c o' hc hm => mem_updL_ne hm fun e => ?_⟩
    have := (B.csep _ c hc).2 p hpm
    rcases hd with rfl | rfl
    · exact this.1 e.symm
    · exact this.2 e.symm
/-- the ledger grows by something that is not told -/
theorem Bear.more (B : Bear cx ρ hid fz led m mloc st) {a : Addr} {ob : Obj} (ha : ∀ q ∈ led, q.1 ≠ a) : Bear cx ρ hid fz ((a, ob) :: led) m mloc st := by
  refine ⟨?_, B.cm, ?_, B.len, fun q hq => ⟨.tail _ (B.own q hq).1, .tail _ (B.own q hq).2⟩, fun i o p h1 h2 => (B.obj i o p h1 h2).mono (List.prefix_refl _) (fun _ h => h) fun _ _ h _ => .tail _ h, B.sep, fun q hq => .tail _ (B.hin q hq), B.hsep, fun x c hc => ?_, B.csep, fun q hq => .tail _ (B.fin q hq), B.fz0, B.hfz, B.fsep, B.fcel, fun n v hv => ?_⟩
  · rw [List.map_cons, List.nodup_cons]
    refine ⟨fun h => ?_, B.nd⟩
    obtain ⟨q, hq, e⟩ := List.mem_map.mp h
    exact ha q hq e
  · rcases B.ln with h | ⟨h1, o', es, ep, h2, r⟩
    · exact .inl h
    · exact .inr ⟨h1, o', es, ep, .tail _ h2, r⟩
  · obtain ⟨o', v, h1, h2⟩ := B.cel x c hc
    exact ⟨o', v, .tail _ h1, h2⟩
  · obtain ⟨V, h1, h2⟩ := B.loc n v hv
    exact ⟨V, h1, h2.mono fun c o' hc hm => .tail _ hm⟩
/-- something of the ledger enters the store -/
theorem Bear.enter (B : Bear cx ρ hid fz led m mloc st) {p : Addr × Addr} {o : O} (h1 : p.1 ∈ led.map (·.1)) (h2 : p.2 ∈ led.map (·.1)) (hs : ∀ q ∈ ρ, p.1 ≠ q.1 ∧ p.1 ≠ q.2 ∧ p.2 ≠ q.1 ∧ p.2 ≠ q.2)
    (hh : ∀ q ∈ hid.h, q.1 ≠ p.1 ∧ q.1 ≠ p.2) (hf : ∀ q ∈ fz, q.1 ≠ p.1 ∧ q.1 ≠ p.2) (hc : ∀ x c, cx.env.cells.lookup x = some c → p.1 ≠ c ∧ p.2 ≠ c) (hl : cx.env.locals ≠ cx.L → p.1 ≠ cx.env.locals ∧ p.2 ≠ cx.env.locals)
    (ho : OAt cx (ρ ++ [p]) fz led p o) : Bear cx (ρ ++ [p]) hid fz led m mloc { st with sto := st.sto ++ [o] } := by
  have hpre : ρ <+: ρ ++ [p] := List.prefix_append _ _
  have hmem : ∀ q, q ∈ ρ ++ [p] → q ∈ ρ ∨ q = p := fun q hq => by
    rcases List.mem_append.mp hq with h | h
    · exact .inl h
    · exact .inr (List.mem_singleton.mp h)
  have hget : ∀ {i : Nat} {q : Addr × Addr}, (ρ ++ [p])[i]? = some q → (i < ρ.length ∧ ρ[i]? = some q) ∨ (i = ρ.length ∧ q = p) := fun {i q} e => by
    rcases Nat.lt_trichotomy i ρ.length with z | z | z
    · rw [List.getElem?_append_left z] at e; exact .inl ⟨z, e⟩
    · subst z; rw [List.getElem?_append_right (Nat.le_refl _), Nat.sub_self] at e; cases e; exact .inr ⟨rfl, rfl⟩
    · rw [List.getElem?_eq_none (by rw [List.length_append]; exact z)] at e; cases e
  refine ⟨B.nd, B.cm, ?_, by rw [List.length_append, List.length_append, B.len]; rfl, fun q hq => ?_, fun i o' q hi hq => ?_, fun i j q r hq hr hij => ?_, B.hin, fun q hq r hr => ?_, B.cel, fun x c hx => ⟨(B.csep x c hx).1, fun q hq => ?_⟩, B.fin, B.fz0, B.hfz, fun q hq r hr => ?_, B.fcel, fun n v hv => ?_⟩
  · rcases B.ln with h | ⟨g1, o', es, ep, g2, g3, g4, g5, g6, g7⟩
    · exact .inl h
    · refine .inr ⟨g1, o', es, ep, g2, g3, g4, g5, fun q hq => ?_, g7⟩
      rcases hmem q hq with h | rfl
      · exact g6 q h
      · exact hl g1
  · rcases hmem q hq with h | rfl
    · exact B.own q h
    · exact ⟨h1, h2⟩
  · rcases hget hq with ⟨z, e⟩ | ⟨z, rfl⟩
    · rw [List.getElem?_append_left (by rw [← B.len]; exact z)] at hi
      exact (B.obj i o' q hi e).mono hpre (fun _ h => h) fun _ _ h _ => h
    · rw [z, B.len, List.getElem?_append_right (Nat.le_refl _), Nat.sub_self] at hi
      cases hi
      exact ho
  · rcases hget hq with ⟨z, e⟩ | ⟨z, rfl⟩ <;> rcases hget hr with ⟨z', e'⟩ | ⟨z', rfl⟩
    · exact B.sep i j q r e e' hij
    · have := hs q (mem_of_get e); exact ⟨Ne.symm this.1, Ne.symm this.2.2.1, Ne.symm this.2.1, Ne.symm this.2.2.2⟩
    · exact hs r (mem_of_get e')
    · exact absurd (z.trans z'.symm) hij
  · rcases hmem r hr with h | rfl
    · exact B.hsep q hq r h
    · exact hh q hq
  · rcases hmem q hq with h | rfl
    · exact (B.csep x c hx).2 q h
    · exact hc x c hx
  · rcases hmem r hr with h | rfl
    · exact B.fsep q hq r h
    · exact hf q hq
  · obtain ⟨V, a, b⟩ := B.loc n v hv
    exact ⟨V, a.mono hpre, b⟩
/-- a new object of one address -/
theorem Bear.alloc (B : Bear cx ρ hid fz led m mloc st) {a : Addr} {ob : Obj} {o : O} (ha : ∀ q ∈ led, q.1 ≠ a)
    (ho : OAt cx (ρ ++ [(a, a)]) fz ((a, ob) :: led) (a, a) o) : Bear cx (ρ ++ [(a, a)]) hid fz ((a, ob) :: led) m mloc { st with sto := st.sto ++ [o] } := by
  have hin : ∀ b, b ∈ led.map (·.1) → b ≠ a := fun b hb => by
    obtain ⟨q, hq, rfl⟩ := List.mem_map.mp hb
    exact ha q hq
  refine (B.more ha).enter (.head _) (.head _) (fun q hq => ?_) (fun q hq => ?_) (fun q hq => ?_) (fun x c hc => ?_) (fun hl => ?_) ho
  · have := B.own q hq
    exact ⟨Ne.symm (hin _ this.1), Ne.symm (hin _ this.2), Ne.symm (hin _ this.1), Ne.symm (hin _ this.2)⟩
  · exact ⟨ha q (B.hin q hq), ha q (B.hin q hq)⟩
  · exact ⟨ha q (B.fin q hq), ha q (B.fin q hq)⟩
  · obtain ⟨o', v, h1, _⟩ := B.cel x c hc
    exact ⟨Ne.symm (ha _ h1), Ne.symm (ha _ h1)⟩
  · rcases B.ln with h | ⟨_, o', es, ep, h2, _⟩
    · exact absurd h.1 hl
    · exact ⟨Ne.symm (ha _ h2), Ne.symm (ha _ h2)⟩
end
end Mine
namespace Mine
theorem char_inj {a b : Char} (h : a.toNat = b.toNat) : a = b := by
  apply Char.ext
  apply UInt32.toNat_inj.mp
  exact h
theorem ofString_inj {a b : String} (h : Str.ofString a = Str.ofString b) : a = b := by
  rw [Str.ofString_eq_toList, Str.ofString_eq_toList] at h
  have h1 : (a.toList.map Char.toNat) = (b.toList.map Char.toNat) := by
    have := congrArg Str.cps h
    simpa using this
  have h2 : a.toList = b.toList := by
    have : ∀ (l l' : List Char), l.map Char.toNat = l'.map Char.toNat → l = l' := by
      intro l
      induction l with
      | nil => intro l' e; cases l' with | nil => rfl | cons x r => simp at e
      | cons x r ih => intro l' e; cases l' with
        | nil => simp at e
        | cons y r' =>
          simp only [List.map_cons, List.cons.injEq] at e
          rw [char_inj e.1, ih r' e.2]
    exact this _ _ h1
  exact String.toList_inj.mp h2
/-- going on behind a step -/
theorem wp_seq {α β : Type} {cx : Cx} {A : Around} {t : Sem α} {ρ : Map} {hid : Hd} {st' : St} {b : β} {R : Map → β → α → Prop} {s : Shared} {Q : α → Shared → Prop} {E : Value → Shared → Prop}
    (h : wpAny cx.M A t (fun a s' => ∃ ρ', ρ <+: ρ' ∧ Rel cx ρ' hid st' s' ∧ R ρ' b a) (fun _ _ => False) s)
    (k : ∀ a s' ρ', ρ <+: ρ' → Rel cx ρ' hid st' s' → R ρ' b a → Q a s') : wpAny cx.M A t Q E s :=
  wpAny_mono h (fun a s' x => let ⟨ρ', h1, h2, h3⟩ := x; k a s' ρ' h1 h2 h3) (fun _ _ f => f.elim)
theorem pre_refl (ρ : Map) : ρ <+: ρ := List.prefix_refl ρ
theorem pre_trans {a b c : Map} (x : a <+: b) (y : b <+: c) : a <+: c := List.IsPrefix.trans x y
section
variable {cx : Cx} {ρ : Map} {hid : Hd} {fz led : Led} {m mloc : Str → Option Value} {st : St} {s : Shared}
theorem RelD.nl (r : RelD cx ρ hid fz led m mloc st s) : s.heap.Ns cx.env.locals mloc := by
  rcases r.B.ln with ⟨h1, h2⟩ | ⟨_, o, es, ep, h2, h3, h4, h5, _⟩
  · rw [h1, h2]; exact r.F.ns
  · exact ⟨o, es, ep, (r.N _ h2).1, h3, h4, h5⟩
theorem RelD.rel (r : RelD cx ρ hid fz led m mloc st s) : Rel cx ρ hid st s := ⟨fz, led, m, mloc, r⟩
/-- only the heap and the tokens change -/
theorem RelD.go {h' : Heap} {tk : Nat} {ρ' : Map} {fz' led' : Led} {m' mloc' : Str → Option Value} {st' : St} (r : RelD cx ρ hid fz led m mloc st s)
    (F : Fr cx.h₀ cx.L h' m') (N : News cx.h₀ cx.L h' led') (B : Bear cx ρ' hid fz' led' m' mloc' st') (htk : 0 < tk := by first | assumption | exact Nat.succ_pos _ | exact Rel.pos (by assumption) | exact RelD.tk (by assumption)) : RelD cx ρ' hid fz' led' m' mloc' st' { s with heap := h', toks := tk } :=
  ⟨F, N, B, r.gens, r.os, htk⟩
theorem Rel.toks (r : Rel cx ρ hid st s) (tk : Nat) (htk : 0 < tk := by first | assumption | exact Nat.succ_pos _ | exact Rel.pos (by assumption) | exact RelD.tk (by assumption)) : Rel cx ρ hid st { s with toks := tk } := by
  obtain ⟨fz, led, m, mloc, r⟩ := r
  exact ⟨fz, led, m, mloc, r.F, r.N, r.B, r.gens, r.os, htk⟩
theorem News.updL {h₀ h h' : Heap} {L d : Addr} {led : Led} {o ob : Obj} (N : News h₀ L h led) (hm : (d, o) ∈ led) (hs : Heap.SameBut d h h') (ho : h'.get? d = some ob) : News h₀ L h' (updL d ob led) := fun q hq => by
  obtain ⟨p, hp, e⟩ := List.mem_map.mp hq
  by_cases hd : p.1 = d
  · rw [if_pos hd] at e
    subst e
    have := N _ hm
    exact ⟨ho, this.2.1, this.2.2⟩
  · rw [if_neg hd] at e
    subst e
    have := N _ hp
    exact ⟨(hs.2 _ hd).trans this.1, this.2⟩
theorem Fr.sameBut {h₀ h h' : Heap} {L d : Addr} {m : Str → Option Value} (F : Fr h₀ L h m) (hs : Heap.SameBut d h h') (hd : d ≠ L) (hn : h₀.get? d = none) : Fr h₀ L h' m :=
  ⟨F.ns.sameBut hs (Ne.symm hd), fun b o e => (hs.2 b (fun q => by rw [q, hn] at e; cases e)).trans (F.keep b o e), F.above⟩
theorem Bear.setF (B : Bear cx ρ hid fz led m mloc st) (hL : cx.env.locals = cx.L) {n : String} {v : V} {W : Value} (hk : cx.env.kindOf (Str.ofString n) = some .local) (hv : VR ρ v W) :
    Bear cx ρ hid fz led (fun y => if y = Str.ofString n then some W else m y) (fun y => if y = Str.ofString n then some W else m y) { st with loc := fun k => if k = n then some v else st.loc k } := by
  have hm : mloc = m := by
    rcases B.ln with h | h
    · exact h.2
    · exact absurd hL h.1
  refine ⟨B.nd, fun h => absurd hL h, .inl ⟨hL, rfl⟩, B.len, B.own, B.obj, B.sep, B.hin, B.hsep, B.cel, B.csep, B.fin, B.fz0, B.hfz, B.fsep, B.fcel, fun k w hw => ?_⟩
  by_cases hkn : k = n
  · subst hkn
    simp only [if_true] at hw
    cases hw
    exact ⟨W, hv, .inl ⟨hk, by simp⟩⟩
  · simp only [if_neg hkn] at hw
    obtain ⟨V', h1, h2⟩ := B.loc k w hw
    refine ⟨V', h1, ?_⟩
    rcases h2 with ⟨a, b⟩ | b
    · exact .inl ⟨a, (if_neg (fun e => hkn (ofString_inj e))).trans (by rw [← hm]; exact b)⟩
    · exact .inr b
theorem Bear.setC (B : Bear cx ρ hid fz led m mloc st) (hL : cx.env.locals ≠ cx.L) {n : String} {v : V} {W : Value} {o' : Obj} {es' : Array DictEntry} {ep' : Nat} (hk : cx.env.kindOf (Str.ofString n) = some .local) (hv : VR ρ v W)
    (hd : o'.data = .dict es' ep') (hs : StrKeys es') (hf : ∀ y, nsFind es' y = if y = Str.ofString n then some W else mloc y) :
    Bear cx ρ hid fz (Mine.updL cx.env.locals o' led) m (fun y => if y = Str.ofString n then some W else mloc y) { st with loc := fun k => if k = n then some v else st.loc k } := by
  rcases B.ln with h | ⟨_, o, es, ep, g2, g3, g4, g5, g6, g7, g8, g9⟩
  · exact absurd h.1 hL
  refine ⟨by rw [updL_fst]; exact B.nd, B.cm, .inr ⟨hL, o', es', ep', mem_updL_self g2, hd, hs, hf, g6, g7, g8, g9⟩, B.len, fun q hq => by rw [updL_fst]; exact B.own q hq, fun i ob p h1 h2 => ?_, B.sep, fun q hq => mem_updL_ne (B.hin q hq) (g7 q hq), B.hsep, fun x c hc => ?_, B.csep, fun q hq => mem_updL_ne (B.fin q hq) (g8 q hq), B.fz0, B.hfz, B.fsep, B.fcel, fun k w hw => ?_⟩
  · refine (B.obj i ob p h1 h2).mono (pre_refl _) (fun _ h => h) fun b ob' hb hbp => mem_updL_ne hb ?_
    have := g6 p (mem_of_get h2)
    rcases hbp with rfl | rfl
    · exact this.1
    · exact this.2
  · obtain ⟨ob, v', h1, h2⟩ := B.cel x c hc
    exact ⟨ob, v', mem_updL_ne h1 fun e => g9 x (e ▸ hc), h2⟩
  · by_cases hkn : k = n
    · subst hkn
      simp only [if_true] at hw
      cases hw
      exact ⟨W, hv, .inl ⟨hk, by simp⟩⟩
    · simp only [if_neg hkn] at hw
      obtain ⟨V', h1, h2⟩ := B.loc k w hw
      refine ⟨V', h1, ?_⟩
      rcases h2 with ⟨a, b⟩ | ⟨a, c, ob, b1, b2, b3⟩
      · exact .inl ⟨a, (if_neg (fun e => hkn (ofString_inj e))).trans b⟩
      · exact .inr ⟨a, c, ob, b1, mem_updL_ne b2 fun e => g9 _ (e ▸ b1), b3⟩
theorem Bear.setCell (B : Bear cx ρ hid fz led m mloc st) (hci : ∀ x y c, cx.env.cells.lookup x = some c → cx.env.cells.lookup y = some c → x = y) (hfzn : cx.fzn = false) {n : String} {v : V} {W : Value} {c : Addr} {o' : Obj}
    (hk : cx.env.kindOf (Str.ofString n) = some .cell) (hc : cx.env.cells.lookup (Str.ofString n) = some c) (hv : VR ρ v W) (hd : o'.data = .cell (some W)) :
    Bear cx ρ hid fz (Mine.updL c o' led) m mloc { st with loc := fun k => if k = n then some v else st.loc k } := by
  obtain ⟨oc, vc, hcm, hcd⟩ := B.cel _ _ hc
  have hcs := B.csep _ _ hc
  refine ⟨by rw [updL_fst]; exact B.nd, B.cm, ?_, B.len, fun q hq => by rw [updL_fst]; exact B.own q hq, fun i ob p h1 h2 => ?_, B.sep, fun q hq => mem_updL_ne (B.hin q hq) (hcs.1 q hq), B.hsep, fun x d hx => ?_, B.csep, fun q hq => mem_updL_ne (B.fin q hq) fun e => B.fcel hfzn q hq _ hk (e ▸ hc), B.fz0, B.hfz, B.fsep, B.fcel, fun k w hw => ?_⟩
  · rcases B.ln with h | ⟨g1, o, es, ep, g2, g3, g4, g5, g6, g7, g8, g9⟩
    · exact .inl h
    · exact .inr ⟨g1, o, es, ep, mem_updL_ne g2 fun e => g9 _ (e ▸ hc), g3, g4, g5, g6, g7, g8, g9⟩
  · refine (B.obj i ob p h1 h2).mono (pre_refl _) (fun _ h => h) fun b ob' hb hbp => mem_updL_ne hb ?_
    have := hcs.2 p (mem_of_get h2)
    rcases hbp with rfl | rfl
    · exact this.1
    · exact this.2
  · by_cases hdc : d = c
    · subst hdc
      exact ⟨o', some W, mem_updL_self hcm, hd⟩
    · obtain ⟨ob, v', h1, h2⟩ := B.cel x d hx
      exact ⟨ob, v', mem_updL_ne h1 hdc, h2⟩
  · by_cases hkn : k = n
    · subst hkn
      simp only [if_true] at hw
      cases hw
      exact ⟨W, hv, .inr ⟨.inl hk, c, o', hc, mem_updL_self hcm, hd⟩⟩
    · simp only [if_neg hkn] at hw
      obtain ⟨V', h1, h2⟩ := B.loc k w hw
      refine ⟨V', h1, ?_⟩
      rcases h2 with h2 | ⟨a, d, ob, b1, b2, b3⟩
      · exact .inl h2
      · exact .inr ⟨a, d, ob, b1, mem_updL_ne b2 (fun e => hkn (ofString_inj (hci _ _ d b1 (e ▸ hc)))), b3⟩
end
/-- locals -/
def getL (n : String) : PM V := fun st => match st.loc n with
  | some v => .ok v st
  | none => .fail
def setL (n : String) (v : V) : PM Unit := fun st => .ok () { st with loc := fun k => if k = n then some v else st.loc k }
theorem load_name {cx : Cx} (ok : cx.Ok) {n : String} {ρ : Map} {hid : Hd} {st : St} {s : Shared} (r : Rel cx ρ hid st s) {v : V} (hv : st.loc n = some v) (hcd : (Str.ofString n == ("__classdict__" : Str)) = false) {Q : Value → Shared → Prop} {E : Value → Shared → Prop} {A : Around}
    (h : ∀ W, VR ρ v W → Q W s) : wpAny cx.M A (loadName cx.env (Str.ofString n)) Q E s := by
  obtain ⟨fz, led, m, mloc, r⟩ := r
  obtain ⟨W, hw, hb⟩ := r.B.loc n v hv
  rcases hb with ⟨hk, hm⟩ | ⟨hk | hk, c, o, h1, h2, h3⟩
  · exact wpAny_loadName_local ok.kind hk r.nl hm (h W hw)
  · exact wpAny_loadName_cell ok.kind hk h1 ⟨o, (r.N _ h2).1, h3⟩ (h W hw)
  · exact wpAny_loadName_free ok.kind hk h1 ⟨o, (r.N _ h2).1, h3⟩ (h W hw) hcd
theorem sim_Name {cx : Cx} (ok : cx.Ok) {n : String} {pos : Pos} (hd : (Str.ofString n == ("__debug__" : Str)) = false) (hcd : (Str.ofString n == ("__classdict__" : Str)) = false) : SimV cx (eval (.Name (Str.ofString n) pos) cx.env) (getL n) := by
  intro ρ hid st s r v st' e
  unfold getL at e
  cases hv : st.loc n with
  | none => rw [hv] at e; cases e
  | some w =>
    rw [hv] at e
    cases e
    exact wpAny_Name (load_name ok r hv hcd fun W hw => ⟨ρ, pre_refl ρ, r, hw⟩) hd
/-- a name that may be bound: of the block's own, or a cell that no function made here keeps -/
abbrev Asg (cx : Cx) (n : String) : Prop := cx.env.kindOf (Str.ofString n) = some .local ∨ (cx.env.kindOf (Str.ofString n) = some .cell ∧ (cx.env.cells.lookup (Str.ofString n)).isSome = true ∧ cx.fzn = false)
theorem store_name {cx : Cx} (ok : cx.Ok) {n : String} {ρ : Map} {hid : Hd} {st : St} {s : Shared} {v : V} {W : Value} (r : Rel cx ρ hid st s) (hv : VR ρ v W)
    (hk : Asg cx n) {Q : Unit → Shared → Prop} {E : Value → Shared → Prop} {A : Around}
    (h : ∀ s', Rel cx ρ hid { st with loc := fun k => if k = n then some v else st.loc k } s' → Q () s') : wpAny cx.M A (storeName cx.env (Str.ofString n) W) Q E s := by
  obtain ⟨fz, led, m, mloc, r⟩ := r
  rcases hk with hk | ⟨hk, hc, hfzn⟩
  · by_cases hL : cx.env.locals = cx.L
    · refine wpAny_storeName_local hk r.nl (fun h' hn hs => h _ ?_) (by rw [ok.kind]; rfl)
      have hm : mloc = m := by
        rcases r.B.ln with z | z
        · exact z.2
        · exact absurd hL z.1
      subst hm
      refine RelD.rel (r.go ?_ (r.N.set (hL ▸ hs)) (r.B.setF hL hk hv))
      exact r.F.set (hL ▸ hn) (hL ▸ hs)
    · refine wpAny_storeName_local hk r.nl (fun h' hn hs => h _ ?_) (by rw [ok.kind]; rfl)
      obtain ⟨o', es', ep', q1, q2, q3, q4⟩ := hn
      rcases r.B.ln with z | ⟨_, o, es, ep, g2, _⟩
      · exact absurd z.1 hL
      have hg := r.N _ g2
      exact RelD.rel (r.go (Fr.sameBut r.F hs hL hg.2.2) (News.updL r.N g2 hs q1) (r.B.setC hL hk hv q2 q3 q4))
  · obtain ⟨c, hc⟩ := Option.isSome_iff_exists.mp hc
    obtain ⟨o, v₀, g1, g2⟩ := r.B.cel _ _ hc
    have hg := r.N _ g1
    refine wpAny_storeName_cell ok.kind hk hc ⟨o, hg.1, g2⟩ fun h' hcell hs => h _ ?_
    obtain ⟨o', q1, q2⟩ := hcell
    exact RelD.rel (r.go (tk := s.toks) (Fr.sameBut r.F hs hg.2.1 hg.2.2) (News.updL r.N g1 hs q1) (r.B.setCell ok.cinj hfzn hk hc hv q2))
/-- globals and built-ins -/
theorem sim_Global {cx : Cx} (ok : cx.Ok) {x : Str} {pos : Pos} {u : Value} (hx : cx.env.kindOf x = some .globalImplicit) (e : nsIn cx.K mainGlobals x = some (some u)) (hd : (x == ("__debug__" : Str)) = false) :
    SimV cx (eval (.Name x pos) cx.env) (PM.pure (.glob u)) := by
  intro ρ hid st s r v st' h
  cases h
  obtain ⟨fz, led, m, mloc, r'⟩ := id r
  refine Name_function_global ok.kind hx (loadGlobal_global (mg := cx.mg) (v := u) (by rw [ok.globals]; exact ok.top.g.keeps r'.F.keep) (mg_of ok.kin ok.top.g e) ⟨ρ, pre_refl ρ, r, .glob u⟩) hd
theorem sim_Builtin {cx : Cx} (ok : cx.Ok) {x : Str} {pos : Pos} {u : Value} (hx : cx.env.kindOf x = some .globalImplicit) (e : nsIn cx.K mainGlobals x = some none) (hb : bootBuiltins x = some u) (hn : x ≠ "__name__") (hd : (x == ("__debug__" : Str)) = false) :
    SimV cx (eval (.Name x pos) cx.env) (PM.pure (.glob u)) := by
  intro ρ hid st s r v st' h
  cases h
  obtain ⟨fz, led, m, mloc, r'⟩ := id r
  refine Name_function_global ok.kind hx (loadGlobal_builtin (mg := cx.mg) (mb := cx.mb) (v := u) (by rw [ok.globals]; exact ok.top.g.keeps r'.F.keep) (mg_none_of ok.kin ok.top.g e) (by rw [ok.builtins]; exact ok.top.b.keeps r'.F.keep) ((ok.top.builtins x hn).trans hb) ⟨ρ, pre_refl ρ, r, .glob u⟩) hd
/-- literals -/
theorem sim_int {cx : Cx} {i : Int} {k : Nat} {pos : Pos} : SimV cx (eval (.Constant (.int i) k pos) cx.env) (PM.pure (.int i)) := by
  intro ρ hid st s r v st' h; cases h
  exact fun _ _ _ => ⟨ρ, pre_refl ρ, r.toks _, .int i s.toks⟩
theorem sim_bool {cx : Cx} {b : Bool} {k : Nat} {pos : Pos} : SimV cx (eval (.Constant (.bool b) k pos) cx.env) (PM.pure (.bool b)) := by
  intro ρ hid st s r v st' h; cases h
  exact fun _ _ _ => ⟨ρ, pre_refl ρ, r, .bool b⟩
theorem sim_none {cx : Cx} {k : Nat} {pos : Pos} : SimV cx (eval (.Constant .none k pos) cx.env) (PM.pure .none) := by
  intro ρ hid st s r v st' h; cases h
  exact fun _ _ _ => ⟨ρ, pre_refl ρ, r, .none⟩
/-- the signs of a text -/
abbrev cps (x : String) : List Nat := (Str.ofString x).cps.toList
theorem str_cps (x : Str) : x = ⟨x.cps.toList.toArray⟩ := by cases x; simp
theorem cps_ok (x : String) : okS (cps x) := by
  intro c hc
  unfold cps at hc
  rw [Str.ofString_eq_toList] at hc
  simp only [List.mem_map] at hc
  obtain ⟨ch, _, rfl⟩ := hc
  have h := ch.valid
  simp only [UInt32.isValidChar, Nat.isValidChar] at h
  have e : ch.toNat = ch.val.toNat := rfl
  omega
theorem sim_str {cx : Cx} {x : String} {k : Nat} {pos : Pos} : SimV cx (eval (.Constant (.str (Str.ofString x)) k pos) cx.env) (PM.pure (.str (cps x))) := by
  intro ρ hid st s r v st' h; cases h
  refine fun _ _ _ => ⟨ρ, pre_refl ρ, r.toks _, ?_⟩
  have := VR.str (ρ := ρ) (cps x) s.toks (cps_ok x)
  rwa [← str_cps] at this
end Mine
namespace Mine
inductive Fl where
  | next | brk | cont
  | ret (v : V)
inductive FR (ρ : Map) : Fl → Flow → Prop
  | next : FR ρ .next .next
  | brk : FR ρ .brk .brk
  | cont : FR ρ .cont .cont
  | ret {v : V} {W : Value} : VR ρ v W → FR ρ (.ret v) (.ret W)
def BR (_ : Map) (a b : Bool) : Prop := a = b
def UR (_ : Map) (_ _ : Unit) : Prop := True
/-- a primitive of one, of two arguments, of a list of them -/
def P1 {α β : Type} (cx : Cx) (t : Value → Sem α) (f : V → PM β) (R : Map → β → α → Prop) : Prop :=
  ∀ ρ hid st s, Rel cx ρ hid st s → ∀ a A, VR ρ a A → ∀ v st', f a st = .ok v st' →
    wpAny cx.M cx.A (t A) (fun V s' => ∃ ρ', ρ <+: ρ' ∧ Rel cx ρ' hid st' s' ∧ R ρ' v V) (fun _ _ => False) s
def P2 {α β : Type} (cx : Cx) (t : Value → Value → Sem α) (f : V → V → PM β) (R : Map → β → α → Prop) : Prop :=
  ∀ ρ hid st s, Rel cx ρ hid st s → ∀ a A b B, VR ρ a A → VR ρ b B → ∀ v st', f a b st = .ok v st' →
    wpAny cx.M cx.A (t A B) (fun V s' => ∃ ρ', ρ <+: ρ' ∧ Rel cx ρ' hid st' s' ∧ R ρ' v V) (fun _ _ => False) s
def PL {α β : Type} (cx : Cx) (t : List Value → Sem α) (f : List V → PM β) (R : Map → β → α → Prop) : Prop :=
  ∀ ρ hid st s, Rel cx ρ hid st s → ∀ vs Vs, VRs ρ vs Vs → ∀ v st', f vs st = .ok v st' →
    wpAny cx.M cx.A (t Vs) (fun V s' => ∃ ρ', ρ <+: ρ' ∧ Rel cx ρ' hid st' s' ∧ R ρ' v V) (fun _ _ => False) s
section
variable {cx : Cx}
theorem sim_BinOp {l r : Expr} {op : Operator} {pos : Pos} {ma mb : PM V} {f : V → V → PM V} (h1 : SimV cx (eval l cx.env) ma) (h2 : SimV cx (eval r cx.env) mb) (hp : P2 cx (binaryOp op) f VR) :
    SimV cx (eval (.BinOp l op r pos) cx.env) (PM.bind ma fun a => PM.bind mb fun b => f a b) := by
  intro ρ hid st s x v st' h
  obtain ⟨a, st1, e1, h⟩ := bind_ok h
  obtain ⟨b, st2, e2, h⟩ := bind_ok h
  refine wpAny_BinOp (wp_seq (h1 ρ hid st s x a st1 e1) fun A s1 ρ1 p1 r1 v1 => wp_seq (h2 ρ1 hid st1 s1 r1 b st2 e2) fun B s2 ρ2 p2 r2 v2 => wp_seq (hp ρ2 hid st2 s2 r2 a A b B (v1.mono p2) v2 v st' h) fun W s3 ρ3 p3 r3 v3 => ?_)
  exact ⟨ρ3, pre_trans p1 (pre_trans p2 p3), r3, v3⟩
theorem sim_Compare {l r : Expr} {op : CmpOp} {pos : Pos} {ma mb : PM V} {f : V → V → PM V} (h1 : SimV cx (eval l cx.env) ma) (h2 : SimV cx (eval r cx.env) mb) (hp : P2 cx (compareOp op) f VR) (hm : behindInMarks op r = false) :
    SimV cx (eval (.Compare l [op] [r] pos) cx.env) (PM.bind ma fun a => PM.bind mb fun b => f a b) := by
  intro ρ hid st s x v st' h
  obtain ⟨a, st1, e1, h⟩ := bind_ok h
  obtain ⟨b, st2, e2, h⟩ := bind_ok h
  refine wpAny_Compare1 (wp_seq (h1 ρ hid st s x a st1 e1) fun A s1 ρ1 p1 r1 v1 => wp_seq (h2 ρ1 hid st1 s1 r1 b st2 e2) fun B s2 ρ2 p2 r2 v2 => wp_seq (hp ρ2 hid st2 s2 r2 a A b B (v1.mono p2) v2 v st' h) fun W s3 ρ3 p3 r3 v3 => ?_) hm
  exact ⟨ρ3, pre_trans p1 (pre_trans p2 p3), r3, v3⟩
theorem sim_Unary {e : Expr} {op : UnaryOp} {pos : Pos} {ma : PM V} {f : V → PM V} (h1 : SimV cx (eval e cx.env) ma) (hp : P1 cx (unaryOp op) f VR) :
    SimV cx (eval (.UnaryOp op e pos) cx.env) (PM.bind ma f) := by
  intro ρ hid st s x v st' h
  obtain ⟨a, st1, e1, h⟩ := bind_ok h
  rw [arm_eval_UnaryOp]
  refine wpAny_bind (wp_seq (h1 ρ hid st s x a st1 e1) fun A s1 ρ1 p1 r1 v1 => wpAny_bind (wpAny_standAt (wpAny_holding (wp_seq (hp ρ1 hid st1 s1 r1 a A v1 v st' h) fun W s3 ρ3 p3 r3 v3 => ?_))))
  exact ⟨ρ3, pre_trans p1 p3, r3, v3⟩
/-- tests -/
abbrev SimT (cx : Cx) (e : Expr) (m : PM Bool) : Prop := Sim cx (isTrue e cx.env (eval e cx.env)) m BR
theorem sim_test {e : Expr} {ma : PM V} {f : V → PM Bool} (h1 : SimV cx (eval e cx.env) ma) (hp : P1 cx truthy f BR)
    (he : isTrue e cx.env (eval e cx.env) = (do let v ← eval e cx.env; standAt e.pos; holding [v] (truthy v)) := by rfl) : SimT cx e (PM.bind ma f) := by
  intro ρ hid st s x v st' h
  obtain ⟨a, st1, e1, h⟩ := bind_ok h
  rw [he]
  refine wpAny_bind (wp_seq (h1 ρ hid st s x a st1 e1) fun A s1 ρ1 p1 r1 v1 => wpAny_bind (wpAny_standAt (wpAny_holding (wp_seq (hp ρ1 hid st1 s1 r1 a A v1 v st' h) fun W s3 ρ3 p3 r3 v3 => ?_))))
  exact ⟨ρ3, pre_trans p1 p3, r3, v3⟩
theorem sim_test_Compare {l r : Expr} {op : CmpOp} {pos : Pos} {ma mb : PM V} {f : V → V → PM V} {g : V → PM Bool} (h1 : SimV cx (eval l cx.env) ma) (h2 : SimV cx (eval r cx.env) mb) (hp : P2 cx (compareOp op) f VR) (ht : P1 cx truthy g BR) (hm : behindInMarks op r = false) :
    SimT cx (.Compare l [op] [r] pos) (PM.bind ma fun a => PM.bind mb fun b => PM.bind (f a b) g) := by
  intro ρ hid st s x v st' h
  obtain ⟨a, st1, e1, h⟩ := bind_ok h
  obtain ⟨b, st2, e2, h⟩ := bind_ok h
  obtain ⟨c, st3, e3, h⟩ := bind_ok h
  refine wpAny_isTrue_Compare1 (wp_seq (h1 ρ hid st s x a st1 e1) fun A s1 ρ1 p1 r1 v1 => wp_seq (h2 ρ1 hid st1 s1 r1 b st2 e2) fun B s2 ρ2 p2 r2 v2 => wp_seq (hp ρ2 hid st2 s2 r2 a A b B (v1.mono p2) v2 c st3 e3) fun W s3 ρ3 p3 r3 v3 => wp_seq (ht ρ3 hid st3 s3 r3 c W v3 v st' h) fun W s4 ρ4 p4 r4 v4 => ?_) hm
  exact ⟨ρ4, pre_trans p1 (pre_trans p2 (pre_trans p3 p4)), r4, v4⟩
theorem sim_test_Not {e : Expr} {pos : Pos} {m : PM Bool} (h1 : SimT cx e m) : SimT cx (.UnaryOp .Not e pos) (PM.bind m fun b => PM.pure (!b)) := by
  intro ρ hid st s x v st' h
  obtain ⟨b, st1, e1, h⟩ := bind_ok h
  obtain ⟨rfl, rfl⟩ := pure_ok h
  refine wpAny_isTrue_Not (wp_seq (h1 ρ hid st s x b _ e1) fun c s1 ρ1 p1 r1 v1 => ⟨ρ1, p1, r1, ?_⟩)
  cases v1; rfl
def andP (m k : PM Bool) : PM Bool := PM.bind m fun b => match b with | true => k | false => PM.pure false
def orP (m k : PM Bool) : PM Bool := PM.bind m fun b => match b with | true => PM.pure true | false => k
abbrev SimA (cx : Cx) (op : BoolOp) (es : List Expr) (m : PM Bool) : Prop := Sim cx (allTrue op es cx.env) m BR
theorem sim_all_nil_and : SimA cx .And [] (PM.pure true) := by
  intro ρ hid st s x v st' h; cases h
  exact wpAny_pure ⟨ρ, pre_refl ρ, x, rfl⟩
theorem sim_all_and {e : Expr} {es : List Expr} {m k : PM Bool} (h1 : SimT cx e m) (h2 : SimA cx .And es k) : SimA cx .And (e :: es) (andP m k) := by
  intro ρ hid st s x v st' h
  obtain ⟨b, st1, e1, h⟩ := bind_ok h
  rw [arm_allTrue_cons]
  refine wpAny_bind (wp_seq (h1 ρ hid st s x b st1 e1) fun c s1 ρ1 p1 r1 v1 => ?_)
  cases v1
  cases b with
  | true => exact wp_seq (h2 ρ1 hid st1 s1 r1 v st' h) fun d s2 ρ2 p2 r2 v2 => ⟨ρ2, pre_trans p1 p2, r2, v2⟩
  | false => cases h; exact wpAny_pure ⟨ρ1, p1, r1, rfl⟩
theorem sim_test_BoolOp {op : BoolOp} {es : List Expr} {pos : Pos} {m : PM Bool} (h : SimA cx op es m) : SimT cx (.BoolOp op es pos) m := h
/-- and, or as values -/
abbrev SimB (cx : Cx) (pos : Pos) (op : BoolOp) (es : List Expr) (m : PM V) : Prop := SimV cx (boolOp pos op (evalEach es cx.env)) m
theorem sim_val_one {pos : Pos} {op : BoolOp} {e : Expr} {m : PM V} (h : SimV cx (eval e cx.env) m) : SimB cx pos op [e] m := h
theorem sim_val_and {pos : Pos} {e e' : Expr} {es : List Expr} {m k : PM V} {g : V → PM Bool} (h1 : SimV cx (eval e cx.env) m) (ht : P1 cx truthy g BR) (h2 : SimB cx pos .And (e' :: es) k) :
    SimB cx pos .And (e :: e' :: es) (PM.bind m fun v => PM.bind (g v) fun b => match b with | true => k | false => PM.pure v) := by
  intro ρ hid st s x v st' h
  obtain ⟨a, st1, e1, h⟩ := bind_ok h
  obtain ⟨b, st2, e2, h⟩ := bind_ok h
  show wpAny _ _ (boolOp pos .And (eval e cx.env :: eval e' cx.env :: evalEach es cx.env)) _ _ _
  unfold boolOp
  refine wpAny_bind (wp_seq (h1 ρ hid st s x a st1 e1) fun A s1 ρ1 p1 r1 v1 => wpAny_bind (wpAny_standAt (wpAny_bind (wpAny_holding (wp_seq (ht ρ1 hid st1 s1 r1 a A v1 b st2 e2) fun c s2 ρ2 p2 r2 v2 => ?_)))))
  cases v2
  cases b with
  | true => exact wp_seq (h2 ρ2 hid st2 s2 r2 v st' h) fun d s3 ρ3 p3 r3 v3 => ⟨ρ3, pre_trans p1 (pre_trans p2 p3), r3, v3⟩
  | false => cases h; exact wpAny_pure ⟨ρ2, pre_trans p1 p2, r2, v1.mono p2⟩
theorem sim_BoolOp {op : BoolOp} {es : List Expr} {pos : Pos} {m : PM V} (h : SimB cx pos op es m) : SimV cx (eval (.BoolOp op es pos) cx.env) m := h
def iteP {α : Type} (m : PM Bool) (a b : PM α) : PM α := PM.bind m fun c => match c with | true => a | false => b
/-- lists of arguments -/
abbrev SimL (cx : Cx) (pos : Pos) (es : List Expr) (m : PM (List V)) : Prop := Sim cx (spliced (backTo pos (starEach es cx.env))) m VRs
theorem sim_args_nil {pos : Pos} : SimL cx pos [] (PM.pure []) := by
  intro ρ hid st s x v st' h; cases h
  exact spliced_nil ⟨ρ, pre_refl ρ, x, .nil⟩
theorem sim_args_cons {pos : Pos} {e : Expr} {es : List Expr} {m : PM V} {k : PM (List V)} (h1 : SimV cx (eval e cx.env) m) (h2 : SimL cx pos es k) (he : starEach (e :: es) cx.env = (false, eval e cx.env) :: starEach es cx.env) :
    SimL cx pos (e :: es) (PM.bind m fun v => PM.bind k fun vs => PM.pure (v :: vs)) := by
  intro ρ hid st s x v st' h
  obtain ⟨a, st1, e1, h⟩ := bind_ok h
  obtain ⟨b, st2, e2, h⟩ := bind_ok h
  obtain ⟨rfl, rfl⟩ := pure_ok h
  rw [he]
  refine spliced_cons (wp_seq (h1 ρ hid st s x a st1 e1) fun A s1 ρ1 p1 r1 v1 => ?_)
  refine wp_seq (h2 ρ1 hid st1 s1 r1 b st' e2) fun Bs s2 ρ2 p2 r2 v2 => ?_
  exact ⟨ρ2, pre_trans p1 p2, r2, .cons (v1.mono p2) v2⟩
/-- displays -/
def alloc (o : O) : PM V := fun st => .ok (.obj st.sto.length) { st with sto := st.sto ++ [o] }
def allocList (vs : List V) : PM V := fun st => if vs.length ≤ 1000000 then alloc (.list vs) st else .fail
def allocTuple (vs : List V) : PM V := fun st => if vs.length ≤ 1000000 then alloc (.tuple vs) st else .fail
theorem alloc_get (ρ : Map) (p : Addr × Addr) : (ρ ++ [p])[ρ.length]? = some p := by
  rw [List.getElem?_append_right (Nat.le_refl _), Nat.sub_self]; rfl
theorem news_fresh {h₀ h : Heap} {L : Addr} {led : Led} (N : News h₀ L h led) : ∀ q ∈ led, q.1 ≠ h.objs.size := fun q hq => Nat.ne_of_lt (Heap.lt_size (N q hq).1)
/-- a new object, one address, by a step that pushes it -/
theorem rel_push {ρ : Map} {hid : Hd} {st : St} {s : Shared} (x : Rel cx ρ hid st s) {ob : Obj} {o : O} {tk : Nat} (hf : ob.isFreed = false)
    (ho : ∀ fz led, OAt cx (ρ ++ [(s.heap.objs.size, s.heap.objs.size)]) fz ((s.heap.objs.size, ob) :: led) (s.heap.objs.size, s.heap.objs.size) o) (htk : 0 < tk := by first | assumption | exact Nat.succ_pos _ | exact Rel.pos (by assumption) | exact RelD.tk (by assumption)) :
    Rel cx (ρ ++ [(s.heap.objs.size, s.heap.objs.size)]) hid { st with sto := st.sto ++ [o] } { s with heap := s.heap.push ob, toks := tk } ∧
      VR (ρ ++ [(s.heap.objs.size, s.heap.objs.size)]) (.obj st.sto.length) (.ref s.heap.objs.size) := by
  obtain ⟨fz, led, m, mloc, x⟩ := x
  refine ⟨RelD.rel (x.go (tk := tk) (x.F.push ob) (x.N.push x.F ob hf) (x.B.alloc (news_fresh x.N) (ho fz led))), ?_⟩
  have := VR.obj (alloc_get ρ (s.heap.objs.size, s.heap.objs.size))
  rw [x.B.len] at this
  exact this
/-- a new object that is not told -/
theorem rel_garbage {ρ : Map} {hid : Hd} {st : St} {s : Shared} (x : Rel cx ρ hid st s) {ob : Obj} {tk : Nat} (hf : ob.isFreed = false) (htk : 0 < tk := by first | assumption | exact Nat.succ_pos _ | exact Rel.pos (by assumption) | exact RelD.tk (by assumption)) : Rel cx ρ hid st { s with heap := s.heap.push ob, toks := tk } := by
  obtain ⟨fz, led, m, mloc, x⟩ := x
  exact RelD.rel (x.go (tk := tk) (x.F.push ob) (x.N.push x.F ob hf) (x.B.more (news_fresh x.N)))
theorem new_list {ρ : Map} {hid : Hd} {st st' : St} {s : Shared} (x : Rel cx ρ hid st s) {vs : List V} {Vs : List Value} {v : V} (hv : VRs ρ vs Vs) (h : allocList vs st = .ok v st') {Q : Value → Shared → Prop} {E : Value → Shared → Prop} {A : Around}
    (k : ∀ ρ' W s', ρ <+: ρ' → Rel cx ρ' hid st' s' → VR ρ' v W → Q W s') : wpAny cx.M A (newList Vs) Q E s := by
  unfold allocList at h
  split at h
  · rename_i hl
    cases h
    have hlen : Vs.length ≤ sizeLine := by rw [← hv.length]; exact Nat.le_trans hl (by decide)
    refine wpAny_newObj_type ?_ (by show Vs.toArray.size ≤ sizeLine; rw [List.size_toArray]; exact hlen)
    obtain ⟨a, b⟩ := rel_push (tk := s.toks) x (ob := listObj Vs 0) (o := .list vs) rfl fun fz led => ⟨Vs, 0, hv.mono (List.prefix_append _ _), .head _⟩
    exact k _ _ _ (List.prefix_append _ _) a b
  · cases h
theorem sim_List {es : List Expr} {pos : Pos} {m : PM (List V)} (h1 : SimL cx pos es m) : SimV cx (eval (.List es pos) cx.env) (PM.bind m allocList) := by
  intro ρ hid st s x v st' h
  obtain ⟨vs, st1, e1, h⟩ := bind_ok h
  refine List_ (wp_seq (h1 ρ hid st s x vs st1 e1) fun Vs s1 ρ1 p1 r1 v1 => new_list r1 v1 h fun ρ' W s' p2 r2 v2 => ⟨ρ', pre_trans p1 p2, r2, v2⟩)
/-- statements -/
abbrev SimS (cx : Cx) (s : Stmt) (m : PM Fl) : Prop := Sim cx (exec s cx.env) m FR
abbrev SimSs (cx : Cx) (ss : List Stmt) (m : PM Fl) : Prop := Sim cx (execs ss cx.env) m FR
def seqF (m k : PM Fl) : PM Fl := PM.bind m fun f => match f with
  | .next => k
  | .brk => PM.pure .brk
  | .cont => PM.pure .cont
  | .ret v => PM.pure (.ret v)
theorem sim_nil : SimSs cx [] (PM.pure .next) := by
  intro ρ hid st s x v st' h; cases h
  exact wpAny_execs_nil ⟨ρ, pre_refl ρ, x, .next⟩
theorem sim_cons {a : Stmt} {r : List Stmt} {m k : PM Fl} (h1 : SimS cx a m) (h2 : SimSs cx r k) : SimSs cx (a :: r) (seqF m k) := by
  intro ρ hid st s x v st' h
  obtain ⟨f, st1, e1, h⟩ := bind_ok h
  refine wpAny_execs_cons (wp_seq (h1 ρ hid st s x f st1 e1) fun g s1 ρ1 p1 r1 v1 => ?_)
  cases v1 with
  | next => exact wp_seq (h2 ρ1 hid st1 s1 r1 v st' h) fun d s2 ρ2 p2 r2 v2 => ⟨ρ2, pre_trans p1 p2, r2, v2⟩
  | brk => cases h; exact ⟨ρ1, p1, r1, .brk⟩
  | cont => cases h; exact ⟨ρ1, p1, r1, .cont⟩
  | ret hv => cases h; exact ⟨ρ1, p1, r1, .ret hv⟩
theorem sim_one {a : Stmt} {m : PM Fl} (h1 : SimS cx a m) : SimSs cx [a] m := by
  intro ρ hid st s x v st' h
  refine wpAny_execs_cons (wp_seq (h1 ρ hid st s x v st' h) fun g s1 ρ1 p1 r1 v1 => ?_)
  cases v1 with
  | next => exact wpAny_execs_nil ⟨ρ1, p1, r1, .next⟩
  | brk => exact ⟨ρ1, p1, r1, .brk⟩
  | cont => exact ⟨ρ1, p1, r1, .cont⟩
  | ret hv => exact ⟨ρ1, p1, r1, .ret hv⟩
theorem sim_If {t : Expr} {a b : List Stmt} {pos : Pos} {m : PM Bool} {ma mb : PM Fl} (h : SimT cx t m) (h1 : SimSs cx a ma) (h2 : SimSs cx b mb) : SimS cx (.If t a b pos) (iteP m ma mb) := by
  intro ρ hid st s x v st' e
  obtain ⟨c, st1, e1, e⟩ := bind_ok e
  refine wpAny_If (wp_seq (h ρ hid st s x c st1 e1) fun c' s1 ρ1 p1 r1 v1 => ?_)
  cases v1
  cases c with
  | true => exact wp_seq (h1 ρ1 hid st1 s1 r1 v st' e) fun d s2 ρ2 p2 r2 v2 => ⟨ρ2, pre_trans p1 p2, r2, v2⟩
  | false => exact wp_seq (h2 ρ1 hid st1 s1 r1 v st' e) fun d s2 ρ2 p2 r2 v2 => ⟨ρ2, pre_trans p1 p2, r2, v2⟩
theorem sim_Return {e : Expr} {pos : Pos} {m : PM V} (h : SimV cx (eval e cx.env) m) : SimS cx (.Return (some e) pos) (PM.bind m fun v => PM.pure (.ret v)) := by
  intro ρ hid st s x v st' e
  obtain ⟨a, st1, e1, e⟩ := bind_ok e
  obtain ⟨rfl, rfl⟩ := pure_ok e
  exact wpAny_Return_some (wp_seq (h ρ hid st s x a st' e1) fun A s1 ρ1 p1 r1 v1 => ⟨ρ1, p1, r1, .ret v1⟩)
theorem sim_Continue {pos : Pos} : SimS cx (.Continue pos) (PM.pure .cont) := by
  intro ρ hid st s x v st' h; cases h
  exact wpAny_Continue ⟨ρ, pre_refl ρ, x, .cont⟩
theorem sim_Assign (ok : cx.Ok) {n : String} {e : Expr} {pos' pos : Pos} {m : PM V} (h : SimV cx (eval e cx.env) m)
    (hk : Asg cx n)
    (hs : swapsWith e (some (.Name (Str.ofString n) pos')) pos.line cx.env = pure false) : SimS cx (.Assign [.Name (Str.ofString n) pos'] e pos) (PM.bind m fun v => PM.bind (setL n v) fun _ => PM.pure .next) := by
  intro ρ hid st s x v st' e
  obtain ⟨a, st1, e1, e⟩ := bind_ok e
  cases e
  exact wpAny_Assign_Name (wp_seq (h ρ hid st s x a st1 e1) fun A s1 ρ1 p1 r1 v1 => store_name ok r1 v1 hk fun s' r' => ⟨ρ1, p1, r', .next⟩) hs
end
end Mine
namespace Mine
def pAdd : V → V → PM V
  | .int a, .int b => PM.pure (.int (a + b))
  | .str a, .str b => fun st => if a.length + b.length ≤ 1000000 then .ok (.str (a ++ b)) st else .fail
  | .obj i, .obj j => fun st => match st.sto[i]?, st.sto[j]? with
    | some (.list xs), some (.list ys) => allocList (xs ++ ys) st
    | _, _ => .fail
  | _, _ => PM.fail
def pSub : V → V → PM V
  | .int a, .int b => PM.pure (.int (a - b))
  | _, _ => PM.fail
def small (a : Int) : Bool := decide (-18446744073709551616 < a) && decide (a < 18446744073709551616)
def pDiv : V → V → PM V
  | .int a, .int b => fun st => if 0 < b ∧ b < 1000000000 then .ok (.int (a / b)) st else .fail
  | _, _ => PM.fail
def pMod : V → V → PM V
  | .int a, .int b => fun st => if 0 < b then .ok (.int (a % b)) st else .fail
  | _, _ => PM.fail
def pPow : V → V → PM V
  | .int a, .int b => fun st => if small a && (decide (0 ≤ b) && decide (b ≤ 1000)) then .ok (.int (a ^ b.toNat)) st else .fail
  | _, _ => PM.fail
def pNeg : V → PM V
  | .int a => PM.pure (.int (-a))
  | _ => PM.fail
theorem small_iff {a : Int} (h : small a = true) : a.natAbs < 2 ^ 64 := by
  unfold small at h
  rw [Bool.and_eq_true, decide_eq_true_eq, decide_eq_true_eq] at h
  omega
theorem vr_int {ρ : Map} {i : Int} {W : Value} (h : VR ρ (.int i) W) : ∃ t, W = .int i t := by cases h; exact ⟨_, rfl⟩
theorem vr_str {ρ : Map} {l : List Nat} {W : Value} (h : VR ρ (.str l) W) : ∃ t, W = .str ⟨l.toArray⟩ t := by cases h; exact ⟨_, rfl⟩
theorem vr_ok {ρ : Map} {l : List Nat} {W : Value} (h : VR ρ (.str l) W) : okS l := by cases h; assumption
theorem vr_bool {ρ : Map} {b : Bool} {W : Value} (h : VR ρ (.bool b) W) : W = .bool b := by cases h; rfl
theorem vr_none {ρ : Map} {W : Value} (h : VR ρ .none W) : W = .none := by cases h; rfl
theorem vr_obj {ρ : Map} {i : Nat} {W : Value} (h : VR ρ (.obj i) W) : ∃ p, ρ[i]? = some p ∧ W = .ref p.1 := by cases h; rename_i p e; exact ⟨p, e, rfl⟩
theorem vr_glob {ρ : Map} {u W : Value} (h : VR ρ (.glob u) W) : W = u := by cases h; rfl
theorem str_app (a b : List Nat) : (⟨a.toArray⟩ : Str) ++ (⟨b.toArray⟩ : Str) = ⟨(a ++ b).toArray⟩ := by
  show Str.append _ _ = _
  unfold Str.append
  simp
theorem str_len (a : List Nat) : (⟨a.toArray⟩ : Str).length = a.length := by simp [Str.length]
section
variable {cx : Cx}
/-- the end of a step that makes a plain value -/
theorem fin_toks {β : Type} {ρ : Map} {hid : Hd} {st : St} {s : Shared} (x : Rel cx ρ hid st s) {tk : Nat} {R : Map → β → Value → Prop} {b : β} {W : Value} (h : R ρ b W) (htk : 0 < tk := by first | assumption | exact Nat.succ_pos _ | exact Rel.pos (by assumption) | exact RelD.tk (by assumption)) :
    ∃ ρ', ρ <+: ρ' ∧ Rel cx ρ' hid st { s with toks := tk } ∧ R ρ' b W := ⟨ρ, pre_refl ρ, x.toks tk, h⟩
theorem fin_same {β α : Type} {ρ : Map} {hid : Hd} {st : St} {s : Shared} (x : Rel cx ρ hid st s) {R : Map → β → α → Prop} {b : β} {W : α} (h : R ρ b W) :
    ∃ ρ', ρ <+: ρ' ∧ Rel cx ρ' hid st s ∧ R ρ' b W := ⟨ρ, pre_refl ρ, x, h⟩
theorem p_div : P2 cx (binaryOp .FloorDiv) pDiv VR := by
  intro ρ hid st s x a A b B ha hb v st' h
  unfold pDiv at h
  split at h
  · rename_i a b
    obtain ⟨t, rfl⟩ := vr_int ha; obtain ⟨u, rfl⟩ := vr_int hb
    split at h
    · rename_i hp
      cases h
      refine PyProof.Rows.floordiv_int (by omega) ?_ (hp := .inl (PyProof.noPylong_small (by omega)))
      rw [Int.fdiv_eq_ediv_of_nonneg _ (by omega)]
      exact fin_toks x (.int _ _)
    · cases h
  · cases h
theorem p_mod : P2 cx (binaryOp .Mod) pMod VR := by
  intro ρ hid st s x a A b B ha hb v st' h
  unfold pMod at h
  split at h
  · rename_i a b
    obtain ⟨t, rfl⟩ := vr_int ha; obtain ⟨u, rfl⟩ := vr_int hb
    split at h
    · rename_i hp
      cases h
      refine PyProof.Rows.mod_int (by omega) ?_
      rw [Int.fmod_eq_emod_of_nonneg _ (by omega)]
      exact fin_toks x (.int _ _)
    · cases h
  · cases h
theorem p_neg : P1 cx (unaryOp .USub) pNeg VR := by
  intro ρ hid st s x a A ha v st' h
  unfold pNeg at h
  split at h
  · obtain ⟨t, rfl⟩ := vr_int ha
    cases h
    exact PyProof.Rows.neg_int (fin_toks x (.int _ _))
  · cases h
/-- comparisons of ints -/
def pLt : V → V → PM V
  | .int a, .int b => PM.pure (.bool (decide (a < b)))
  | _, _ => PM.fail
def pLe : V → V → PM V
  | .int a, .int b => PM.pure (.bool (decide (a ≤ b)))
  | _, _ => PM.fail
/-- the int that a value counts as in a comparison -/
def asI : V → Option Int
  | .int a => some a
  | .bool b => some (if b then 1 else 0)
  | _ => none
def pGt (a b : V) : PM V := match a, b with
  | .int a, .int b => PM.pure (.bool (decide (b < a)))
  | .bool a, .int b => PM.pure (.bool (decide (b < (if a then 1 else 0))))
  | .int a, .bool b => PM.pure (.bool (decide ((if b then 1 else 0) < a)))
  | .bool a, .bool b => PM.pure (.bool (decide ((if b then (1 : Int) else 0) < (if a then 1 else 0))))
  | _, _ => PM.fail
def pGe : V → V → PM V
  | .int a, .int b => PM.pure (.bool (decide (b ≤ a)))
  | _, _ => PM.fail
theorem p_lt : P2 cx (compareOp .Lt) pLt VR := by
  intro ρ hid st s x a A b B ha hb v st' h
  unfold pLt at h
  split at h
  · obtain ⟨t, rfl⟩ := vr_int ha; obtain ⟨u, rfl⟩ := vr_int hb
    cases h
    exact PyProof.Rows.lt_int (fin_same x (.bool _))
  · cases h
/-- identity -/
def isP : V → V → Option Bool
  | .none, .none => some true
  | .bool _, .none => some false
  | .int _, .none => some false
  | .str _, .none => some false
  | .obj _, .none => some false
  | .bool a, .bool b => some (a == b)
  | .obj i, .obj j => if i = j then some true else none
  | .glob (.type a), .glob (.type b) => some (a == b)
  | _, _ => none
def pIs (a b : V) : PM V := fun st => match isP a b with | some c => .ok (.bool c) st | none => .fail
def pIsNot (a b : V) : PM V := fun st => match isP a b with | some c => .ok (.bool (!c)) st | none => .fail
theorem same_sem {ρ : Map} {a b : V} {A B : Value} {c : Bool} (ha : VR ρ a A) (hb : VR ρ b B) (h : isP a b = some c) {M : Model} {Ar : Around} {Q : Bool → Shared → Prop} {E : Value → Shared → Prop} {s : Shared} (hq : Q c s) :
    wpAny M Ar (isSame A B) Q E s := by
  unfold isP at h
  split at h
  · cases vr_none ha; cases vr_none hb; cases h; exact wpAny_pure hq
  · cases vr_bool ha; cases vr_none hb; cases h; exact wpAny_pure hq
  · obtain ⟨t, rfl⟩ := vr_int ha; cases vr_none hb; cases h; exact wpAny_pure hq
  · obtain ⟨t, rfl⟩ := vr_str ha; cases vr_none hb; cases h; exact wpAny_pure hq
  · obtain ⟨p, _, rfl⟩ := vr_obj ha; cases vr_none hb; cases h; exact wpAny_pure hq
  · rename_i a b
    cases vr_bool ha; cases vr_bool hb; cases h
    have e : (Value.bool a == Value.bool b) = (a == b) := by cases a <;> cases b <;> rfl
    exact wpAny_pure (a := (Value.bool a == Value.bool b)) (by rw [e]; exact hq)
  · split at h
    · rename_i i j e
      subst e
      obtain ⟨p, e1, rfl⟩ := vr_obj ha; obtain ⟨q, e2, rfl⟩ := vr_obj hb
      have : p = q := Option.some.inj (e1.symm.trans e2)
      subst this
      cases h
      unfold isSame
      dsimp only
      rw [if_pos (beq_self_eq_true _)]
      exact wpAny_pure hq
    · cases h
  · rename_i a b
    cases vr_glob ha; cases vr_glob hb; cases h
    have e : (Value.type a == Value.type b) = (a == b) := by
      cases q : a == b with
      | true => rw [beq_iff_eq] at q; subst q; exact beq_self_eq_true _
      | false => rw [beq_eq_false_iff_ne] at q ⊢; exact fun e => q (Value.type.inj e)
    exact wpAny_pure (a := (Value.type a == Value.type b)) (by rw [e]; exact hq)
  · cases h
theorem p_isnot : P2 cx (compareOp .IsNot) pIsNot VR := by
  intro ρ hid st s x a A b B ha hb v st' h
  unfold pIsNot at h
  split at h
  · rename_i c e
    cases h
    exact wpAny_bind (same_sem ha hb e (wpAny_pure (fin_same x (.bool _))))
  · cases h
end
end Mine
namespace Mine
section
variable {cx : Cx} {ρ : Map} {hid : Hd} {fz led : Led} {m mloc : Str → Option Value} {st : St} {s : Shared}
theorem RelD.list_at (x : RelD cx ρ hid fz led m mloc st s) {i : Nat} {xs : List V} {p : Addr × Addr} (hi : st.sto[i]? = some (.list xs)) (hp : ρ[i]? = some p) : ∃ Xs n, VRs ρ xs Xs ∧ (p.1, listOf Xs.toArray n) ∈ led := x.B.obj i _ p hi hp
theorem RelD.tuple_at (x : RelD cx ρ hid fz led m mloc st s) {i : Nat} {xs : List V} {p : Addr × Addr} (hi : st.sto[i]? = some (.tuple xs)) (hp : ρ[i]? = some p) : ∃ Xs n, VRs ρ xs Xs ∧ (p.1, tupleObj Xs n) ∈ led := x.B.obj i _ p hi hp
theorem RelD.put_list (x : RelD cx ρ hid fz led m mloc st s) {i : Nat} {p : Addr × Addr} {ys : List V} {Ys : List Value} {n' : Nat} {h' : Heap} {tk : Nat} {o : Obj} (hp : ρ[i]? = some p) (hm : (p.1, o) ∈ led) (hv : VRs ρ ys Ys)
    (F : Fr cx.h₀ cx.L h' m) (N : News cx.h₀ cx.L h' (updL p.1 (listOf Ys.toArray n') led)) (htk : 0 < tk := by first | assumption | exact Nat.succ_pos _ | exact Rel.pos (by assumption) | exact RelD.tk (by assumption)) : Rel cx ρ hid { st with sto := st.sto.set i (.list ys) } { s with heap := h', toks := tk } :=
  RelD.rel (x.go F N (x.B.upd hp (.inl rfl) ⟨Ys, n', hv, mem_updL_self hm⟩))
end
theorem vrs_length {ρ : Map} {vs : List V} {Vs : List Value} (h : VRs ρ vs Vs) : vs.length = Vs.length := h.length
theorem vrs_append {ρ : Map} : ∀ {a : List V} {A : List Value} {b : List V} {B : List Value}, VRs ρ a A → VRs ρ b B → VRs ρ (a ++ b) (A ++ B)
  | _, _, _, _, .nil, h => h
  | _, _, _, _, .cons x t, h => .cons x (vrs_append t h)
theorem vrs_get {ρ : Map} : ∀ {a : List V} {A : List Value} {k : Nat} {v : V}, VRs ρ a A → a[k]? = some v → ∃ W, A[k]? = some W ∧ VR ρ v W
  | _, _, 0, v, .cons x t, h => by simp at h; subst h; exact ⟨_, rfl, x⟩
  | _, _, k + 1, v, .cons x t, h => by
    simp only [List.getElem?_cons_succ] at h ⊢
    exact vrs_get t h
theorem vrs_take {ρ : Map} : ∀ {a : List V} {A : List Value} (k : Nat), VRs ρ a A → VRs ρ (a.take k) (A.take k)
  | _, _, 0, _ => by simp only [List.take_zero]; exact .nil
  | _, _, k + 1, .nil => by simp only [List.take_nil]; exact .nil
  | _, _, k + 1, .cons x t => by simp only [List.take_succ_cons]; exact .cons x (vrs_take k t)
theorem vrs_drop {ρ : Map} : ∀ {a : List V} {A : List Value} (k : Nat), VRs ρ a A → VRs ρ (a.drop k) (A.drop k)
  | _, _, 0, h => by simp only [List.drop_zero]; exact h
  | _, _, k + 1, .nil => by simp only [List.drop_nil]; exact .nil
  | _, _, k + 1, .cons x t => by simp only [List.drop_succ_cons]; exact vrs_drop k t
theorem vrs_snoc {ρ : Map} {a : List V} {v : V} {B : List Value} (h : VRs ρ (a ++ [v]) B) : ∃ A W, B = A ++ [W] ∧ VRs ρ a A ∧ VR ρ v W := by
  induction a generalizing B with
  | nil => cases h with | cons x t => cases t; exact ⟨[], _, rfl, .nil, x⟩
  | cons y r ih =>
    cases h with
    | cons x t =>
      obtain ⟨A, W, rfl, h1, h2⟩ := ih t
      exact ⟨_ :: A, W, rfl, .cons x h1, h2⟩
/-- methods of lists -/
def cAppend : List V → PM V
  | [.obj i, v] => fun st => match st.sto[i]? with
    | some (.list xs) => if xs.length ≤ 1000000 then .ok .none { st with sto := st.sto.set i (.list (xs ++ [v])) } else .fail
    | _ => .fail
  | _ => PM.fail
def cPop : List V → PM V
  | [.obj i] => fun st => match st.sto[i]? with
    | some (.list xs) => if xs.length ≤ 1000000 then (match xs.getLast? with | some v => .ok v { st with sto := st.sto.set i (.list xs.dropLast) } | none => .fail) else .fail
    | _ => .fail
  | _ => PM.fail
def cExtend : List V → PM V
  | [.obj i, .obj j] => fun st => match st.sto[i]?, st.sto[j]? with
    | some (.list xs), some (.list ys) => if xs.length + ys.length ≤ 1000000 ∧ ys ≠ [] then .ok .none { st with sto := st.sto.set i (.list (xs ++ ys)) } else .fail
    | _, _ => .fail
  | _ => PM.fail
abbrev PC (cx : Cx) (u : Value) (f : List V → PM V) : Prop := PL cx (fun Vs => call u Vs) f VR
theorem vrs_two {ρ : Map} {a b : V} {Vs : List Value} (h : VRs ρ [a, b] Vs) : ∃ A B, Vs = [A, B] ∧ VR ρ a A ∧ VR ρ b B := by
  cases h with | cons x t => cases t with | cons y r => cases r; exact ⟨_, _, rfl, x, y⟩
theorem vrs_one {ρ : Map} {a : V} {Vs : List Value} (h : VRs ρ [a] Vs) : ∃ A, Vs = [A] ∧ VR ρ a A := by
  cases h with | cons x t => cases t; exact ⟨_, rfl, x⟩
theorem list_fits {n : Nat} (h : n ≤ 1000000) : n ≤ sizeLine := Nat.le_trans h (by decide)
theorem size_push_eq (Xs : List Value) (W : Value) : Xs.toArray.push W = (Xs ++ [W]).toArray := by simp
section
variable {cx : Cx}
theorem pc_append : PC cx (.builtin "list.append") cAppend := by
  intro ρ hid st s x vs Vs hv v st' h
  unfold cAppend at h
  split at h
  · rename_i i w
    obtain ⟨A, B, rfl, ha, hb⟩ := vrs_two hv
    obtain ⟨p, hp, rfl⟩ := vr_obj ha
    split at h
    · rename_i xs hi
      split at h
      · rename_i hl
        cases h
        obtain ⟨fz, led, m, mloc, x⟩ := x
        obtain ⟨Xs, n, h1, h2⟩ := x.list_at hi hp
        refine append_K x.F x.N (upd_of _ h2 x.B.nd) (fun h' F' N' => ?_) (by rw [List.size_toArray, ← h1.length]; exact list_fits hl)
        rw [size_push_eq] at N'
        exact ⟨ρ, pre_refl ρ, x.put_list (tk := s.toks) hp h2 (vrs_append h1 (.cons hb .nil)) F' N', .none⟩
      · cases h
    · cases h
  · cases h
theorem kl_last_snoc (A : List Value) (W : Value) : kl_last (A ++ [W]) = some (A, W) := by
  induction A with
  | nil => rfl
  | cons y r ih => show (match kl_last (r ++ [W]) with | some (p, z) => some (y :: p, z) | none => some ([], y)) = _; rw [ih]
theorem pc_pop : PC cx (.builtin "list.pop") cPop := by
  intro ρ hid st s x vs Vs hv v st' h
  unfold cPop at h
  split at h
  · rename_i i
    obtain ⟨A, rfl, ha⟩ := vrs_one hv
    obtain ⟨p, hp, rfl⟩ := vr_obj ha
    split at h
    · rename_i xs hi
      split at h
      · rename_i hl
        split at h
        · rename_i w hw
          cases h
          obtain ⟨fz, led, m, mloc, x⟩ := x
          obtain ⟨Xs, n, h1, h2⟩ := x.list_at hi hp
          have hlen := h1.length
          have hx : xs = xs.dropLast ++ [v] := by
            have hne : xs ≠ [] := by intro e; rw [e] at hw; cases hw
            rw [List.getLast?_eq_some_getLast hne] at hw
            cases hw
            exact (List.dropLast_concat_getLast hne).symm
          rw [hx] at h1
          obtain ⟨Ys, W, rfl, g1, g2⟩ := vrs_snoc h1
          refine kl_pop x.F x.N (p := Ys) (y := W) (by rw [List.toList_toArray]; exact kl_last_snoc Ys W) (upd_of _ h2 x.B.nd) (by rw [← hlen]; exact list_fits hl) (fun h' F' N' => ?_)
          exact ⟨ρ, pre_refl ρ, x.put_list (tk := s.toks) hp h2 g1 F' N', g2⟩
        · cases h
      · cases h
    · cases h
  · cases h
theorem pc_extend : PC cx (.builtin "list.extend") cExtend := by
  intro ρ hid st s x vs Vs hv v st' h
  unfold cExtend at h
  split at h
  · rename_i i j
    obtain ⟨A, B, rfl, ha, hb⟩ := vrs_two hv
    obtain ⟨p, hp, rfl⟩ := vr_obj ha
    obtain ⟨q, hq, rfl⟩ := vr_obj hb
    split at h
    · rename_i xs ys hi hj
      split at h
      · rename_i hl
        cases h
        obtain ⟨fz, led, m, mloc, x⟩ := x
        obtain ⟨Xs, n, h1, h2⟩ := x.list_at hi hp
        obtain ⟨Ys, n2, g1, g2⟩ := x.list_at hj hq
        have hlen := h1.length
        have hlen2 := g1.length
        have hsz : sizeLine = 16777216 := by decide
        refine kl_extend x.F x.N g2 (l := Xs ++ Ys) rfl (by intro e; exact hl.2 (List.length_eq_zero_iff.mp (by rw [hlen2]; exact e))) (upd_of _ h2 x.B.nd) ?_ (by show Xs.length ≤ _; omega) (by rw [List.size_toArray, List.size_toArray]; omega) (fun h' F' N' => ?_)
        · simp only [Builtin.List.listTooLong, List.size_toArray]
          simp; omega
        · exact ⟨ρ, pre_refl ρ, x.put_list (tk := s.toks) hp h2 (vrs_append h1 g1) F' N', .none⟩
      · cases h
    · cases h
  · cases h
/-- len -/
def cLen : List V → PM V
  | [.obj i] => fun st => match st.sto[i]? with
    | some (.list xs) => if xs.length ≤ 1000000 then .ok (.int xs.length) st else .fail
    | some (.tuple xs) => if xs.length ≤ 1000000 then .ok (.int xs.length) st else .fail
    | _ => .fail
  | [.str l] => fun st => if l.length ≤ 1000000 then .ok (.int l.length) st else .fail
  | _ => PM.fail
end
end Mine
namespace Mine
theorem okS_append {a b : List Nat} (h : okS a) (h' : okS b) : okS (a ++ b) := fun c hc => (List.mem_append.mp hc).elim (h c) (h' c)
theorem okS_sub {a b : List Nat} (h : okS a) (hs : ∀ c ∈ b, c ∈ a) : okS b := fun c hc => h c (hs c hc)
theorem okS_take {a : List Nat} (k : Nat) (h : okS a) : okS (a.take k) := okS_sub h fun _ hc => List.mem_of_mem_take hc
theorem okS_drop {a : List Nat} (k : Nat) (h : okS a) : okS (a.drop k) := okS_sub h fun _ hc => List.mem_of_mem_drop hc
/-- a value read as data -/
def toDs (f : V → Option PyData) : List V → Option (List PyData)
  | [] => some []
  | v :: r => match f v, toDs f r with
    | some d, some ds => some (d :: ds)
    | _, _ => none
def toD : Nat → List O → V → Option PyData
  | _, _, .none => some .none
  | _, _, .bool b => some (.bool b)
  | _, _, .int i => some (.int i)
  | _, _, .str l => some (.str ⟨l.toArray⟩)
  | n + 1, sto, .obj i => match sto[i]? with
    | some (.list xs) => (toDs (toD n sto) xs).map .list
    | some (.tuple xs) => (toDs (toD n sto) xs).map .tuple
    | _ => none
  | _, _, _ => none
theorem okS_strOk {l : List Nat} (h : okS l) : PyData.strOk ⟨l.toArray⟩ = true := by
  unfold PyData.strOk
  simp only [List.all_toArray, List.all_eq_true, decide_eq_true_eq]
  exact fun c hc => h c hc
section
variable {cx : Cx} {ρ : Map} {hid : Hd} {fz led : Led} {m mloc : Str → Option Value} {st : St} {s : Shared}
theorem toDs_reads {n : Nat} {f : V → Option PyData} {h : Heap} (hf : ∀ v W d, VR ρ v W → f v = some d → ∃ as, Reads h W d as ∧ d.canLay0 = true ∧ d.depth ≤ n) :
    ∀ {vs : List V} {Vs : List Value} {ds : List PyData}, VRs ρ vs Vs → toDs f vs = some ds → ∃ as, ReadsAll h Vs ds as ∧ PyData.canLayAll0 ds = true ∧ PyData.depthAll ds ≤ n
  | _, _, _, .nil, e => by cases e; exact ⟨[], .nil, rfl, Nat.zero_le _⟩
  | _, _, _, .cons x t, e => by
    unfold toDs at e
    split at e
    · rename_i d ds h1 h2
      cases e
      obtain ⟨as, a1, a2, a3⟩ := hf _ _ _ x h1
      obtain ⟨bs, b1, b2, b3⟩ := toDs_reads hf t h2
      exact ⟨_, .cons a1 b1, by simp [PyData.canLayAll0, a2, b2], by simp only [PyData.depthAll]; omega⟩
    · cases e
theorem toD_reads (x : RelD cx ρ hid fz led m mloc st s) : ∀ (n : Nat) (v : V) (W : Value) (d : PyData), VR ρ v W → toD n st.sto v = some d → ∃ as, Reads s.heap W d as ∧ d.canLay0 = true ∧ d.depth ≤ n
  | n, .none, W, d, h, e => by cases vr_none h; cases n <;> cases e <;> exact ⟨_, .none, rfl, Nat.zero_le _⟩
  | n, .bool b, W, d, h, e => by cases vr_bool h; cases n <;> cases e <;> exact ⟨_, .bool b, rfl, Nat.zero_le _⟩
  | n, .int i, W, d, h, e => by obtain ⟨t, rfl⟩ := vr_int h; cases n <;> cases e <;> exact ⟨_, .int i t, rfl, Nat.zero_le _⟩
  | n, .str l, W, d, h, e => by
    have ho := vr_ok h
    obtain ⟨t, rfl⟩ := vr_str h
    cases n <;> cases e <;> exact ⟨_, .str _ t, okS_strOk ho, Nat.zero_le _⟩
  | n, .byt _, W, d, h, e => by cases n <;> cases e
  | n, .glob _, W, d, h, e => by cases n <;> cases e
  | 0, .obj i, W, d, h, e => by cases e
  | n + 1, .obj i, W, d, h, e => by
    obtain ⟨p, hp, rfl⟩ := vr_obj h
    unfold toD at e
    split at e
    · rename_i xs hi
      obtain ⟨ds, h1, rfl⟩ := Option.map_eq_some_iff.mp e
      obtain ⟨Xs, k, g1, g2⟩ := x.list_at hi hp
      obtain ⟨as, a1, a2, a3⟩ := toDs_reads (fun v W d => toD_reads x n v W d) g1 h1
      exact ⟨_, .list (x.N _ g2).1 rfl rfl a1, a2, by simp only [PyData.depth]; omega⟩
    · rename_i xs hi
      obtain ⟨ds, h1, rfl⟩ := Option.map_eq_some_iff.mp e
      obtain ⟨Xs, k, g1, g2⟩ := x.tuple_at hi hp
      obtain ⟨as, a1, a2, a3⟩ := toDs_reads (fun v W d => toD_reads x n v W d) g1 h1
      exact ⟨_, .tuple (x.N _ g2).1 rfl rfl a1, a2, by simp only [PyData.depth]; omega⟩
    · cases e
end
def eqP (st : St) (a b : V) : Option Bool := match toD 4 st.sto a, toD 4 st.sto b with
  | some x, some y => some (PyData.eqv x y)
  | _, _ => none
def pEq (a b : V) : PM V := fun st => match eqP st a b with | some c => .ok (.bool c) st | none => .fail
def pNe (a b : V) : PM V := fun st => match eqP st a b with | some c => .ok (.bool (!c)) st | none => .fail
/-- is the first a piece of the second -/
def subIn (y x : List Nat) : Bool := (List.range (x.length + 1)).any fun i => (x.drop i).take y.length == y
def inP (st : St) (a c : V) : Option Bool := match c with
  | .obj j => match st.sto[j]? with
    | some (.list xs) => match toDs (toD 4 st.sto) xs, toD 4 st.sto a with
      | some ds, some d => some (ds.any fun y => PyData.eqv y d)
      | _, _ => none
    | _ => none
  | .str l => match a with
    | .str k => some (subIn k l)
    | _ => none
  | _ => none
def pIn (a b : V) : PM V := fun st => match inP st a b with | some c => .ok (.bool c) st | none => .fail
def pNotIn (a b : V) : PM V := fun st => match inP st a b with | some c => .ok (.bool (!c)) st | none => .fail
section
variable {cx : Cx}
theorem p_eq (ok : cx.Ok) : P2 cx (compareOp .Eq) pEq VR := by
  intro ρ hid st s x a A b B ha hb v st' h
  unfold pEq eqP at h
  split at h
  · rename_i c e
    split at e
    · rename_i d d' h1 h2
      cases h; cases e
      obtain ⟨fz, led, m, mloc, x'⟩ := id x
      obtain ⟨as, a1, a2, a3⟩ := toD_reads x' 4 a A d ha h1
      obtain ⟨bs, b1, b2, b3⟩ := toD_reads x' 4 b B d' hb h2
      have hu := ok.units
      exact SeqAt.compareEq_reads a1 b1 a2 b2 (by omega) (fin_same x (.bool _))
    · cases e
  · cases h
theorem p_ne (ok : cx.Ok) : P2 cx (compareOp .NotEq) pNe VR := by
  intro ρ hid st s x a A b B ha hb v st' h
  unfold pNe eqP at h
  split at h
  · rename_i c e
    split at e
    · rename_i d d' h1 h2
      cases h; cases e
      obtain ⟨fz, led, m, mloc, x'⟩ := id x
      obtain ⟨as, a1, a2, a3⟩ := toD_reads x' 4 a A d ha h1
      obtain ⟨bs, b1, b2, b3⟩ := toD_reads x' 4 b B d' hb h2
      have hu := ok.units
      refine ne_dataH a1 b1 ?_ ?_ (by omega) (fin_same x (.bool _))
      · unfold SeqAt.shaped; rw [a2, Bool.true_and]; exact decide_eq_true (by omega)
      · unfold SeqAt.shaped; rw [b2, Bool.true_and]; exact decide_eq_true (by omega)
    · cases e
  · cases h
theorem fits63 {n : Nat} (h : n ≤ 1000000) : (n : Int) < 2 ^ 63 := by omega
/-- truth -/
def pTruthy : V → PM Bool
  | .none => PM.pure false
  | .bool b => PM.pure b
  | .int i => PM.pure (i != 0)
  | .str l => fun st => if l.length ≤ 1000000 then .ok (!l.isEmpty) st else .fail
  | .obj i => fun st => match st.sto[i]? with
    | some (.list xs) => if xs.length ≤ 1000000 then .ok (!xs.isEmpty) st else .fail
    | some (.tuple xs) => if xs.length ≤ 1000000 then .ok (!xs.isEmpty) st else .fail
    | _ => .fail
  | _ => PM.fail
theorem vrs_empty {ρ : Map} {xs : List V} {Xs : List Value} (h : VRs ρ xs Xs) : Xs.toArray.isEmpty = xs.isEmpty := by cases h <;> simp
theorem p_truthy : P1 cx truthy pTruthy BR := by
  intro ρ hid st s x a A ha v st' h
  unfold pTruthy at h
  split at h
  · cases vr_none ha; cases h; exact PyProof.Rows.truthy_none (fin_same x rfl)
  · cases vr_bool ha; cases h; exact wpAny_truthy_bool (fin_same x rfl)
  · obtain ⟨t, rfl⟩ := vr_int ha; cases h; exact PyProof.Rows.truthy_int (fin_same x rfl)
  · obtain ⟨t, rfl⟩ := vr_str ha
    split at h
    · rename_i l hl
      cases h
      refine lf x.pos (PySem.W.KXt.truthy (b := !l.isEmpty) ?_ (by rw [str_len]; omega) fun k htk => ⟨ρ, pre_refl ρ, x.toks k htk, rfl⟩)
      rw [str_len]
      cases l <;> simp
      omega
    · cases h
  · rename_i i
    obtain ⟨p, hp, rfl⟩ := vr_obj ha
    obtain ⟨fz, led, m, mloc, x'⟩ := id x
    split at h
    · rename_i xs hi
      split at h
      · rename_i hl
        cases h
        obtain ⟨Xs, k, g1, g2⟩ := x'.list_at hi hp
        refine wpAny_truthy_list ⟨_, (x'.N _ g2).1, rfl, _, rfl⟩ (by rw [List.size_toArray, ← g1.length]; exact fits63 hl) ?_
        rw [vrs_empty g1]
        exact ⟨ρ, pre_refl ρ, x.toks _, rfl⟩
      · cases h
    · rename_i xs hi
      split at h
      · rename_i hl
        cases h
        obtain ⟨Xs, k, g1, g2⟩ := x'.tuple_at hi hp
        refine PyProof.Rows.truthy_tuple ⟨_, (x'.N _ g2).1, rfl, _, rfl⟩ (by rw [List.size_toArray, ← g1.length]; exact fits63 hl) ?_
        rw [vrs_empty g1]
        exact ⟨ρ, pre_refl ρ, x.toks _, rfl⟩
      · cases h
    · cases h
  · cases h
theorem pc_len : PC cx (.builtin "len") cLen := by
  intro ρ hid st s x vs Vs hv v st' h
  unfold cLen at h
  split at h
  · rename_i i
    obtain ⟨A, rfl, ha⟩ := vrs_one hv
    obtain ⟨p, hp, rfl⟩ := vr_obj ha
    obtain ⟨fz, led, m, mloc, x'⟩ := id x
    split at h
    · rename_i xs hi
      split at h
      · rename_i hl
        cases h
        obtain ⟨Xs, k, g1, g2⟩ := x'.list_at hi hp
        refine call_len_list ⟨_, (x'.N _ g2).1, rfl, _, rfl⟩ (by rw [List.size_toArray, ← g1.length]; exact fits63 hl) ?_
        rw [List.size_toArray, ← g1.length]
        exact ⟨ρ, pre_refl ρ, x.toks _, .int _ _⟩
      · cases h
    · rename_i xs hi
      split at h
      · rename_i hl
        cases h
        obtain ⟨Xs, k, g1, g2⟩ := x'.tuple_at hi hp
        refine PyProof.Rows.len_tuple ⟨_, (x'.N _ g2).1, rfl, _, rfl⟩ (by rw [List.size_toArray, ← g1.length]; exact fits63 hl) ?_
        rw [List.size_toArray, ← g1.length]
        exact ⟨ρ, pre_refl ρ, x.toks _, .int _ _⟩
      · cases h
    · cases h
  · obtain ⟨A, rfl, ha⟩ := vrs_one hv
    obtain ⟨t, rfl⟩ := vr_str ha
    split at h
    · rename_i l hl
      cases h
      refine PyProof.Rows.len_str (by rw [str_len]; have := fits63 hl; omega) ?_
      rw [str_len]
      exact ⟨ρ, pre_refl ρ, x.toks _, .int _ _⟩
    · cases h
  · cases h
end
end Mine
namespace Mine
/-- attributes of instances -/
def putA (n : String) (v : V) : List (String × V) → List (String × V)
  | [] => [(n, v)]
  | a :: r => if a.1 = n then (n, v) :: r else a :: putA n v r
theorem isStr_key {e : DictEntry} {a n : String} {t : Tok} (h : e.key = .str (Str.ofString a) t) : e.key.isStr (Str.ofString n) = decide (a = n) := by
  rw [h]
  show (Str.ofString a == Str.ofString n) = decide (a = n)
  by_cases q : a = n
  · subst q; simp
  · rw [decide_eq_false q]
    rw [beq_eq_false_iff_ne]
    exact fun e => q (ofString_inj e)
theorem ar_get {ρ : Map} {n : String} {w : V} : ∀ {as : List (String × V)} {Es : List DictEntry}, Paired (AR ρ) as Es → as.lookup n = some w → ∃ e ∈ Es, Es.find? (·.key.isStr (Str.ofString n)) = some e ∧ VR ρ w e.val
  | _, _, .cons (a := a) (b := e) x t, h => by
    obtain ⟨⟨tk, hk⟩, hv⟩ := x
    rw [List.find?_cons, isStr_key hk]
    by_cases q : a.1 = n
    · rw [decide_eq_true q]
      rw [List.lookup_cons, beq_iff_eq.mpr q.symm] at h
      cases h
      exact ⟨e, .head _, rfl, hv⟩
    · rw [decide_eq_false q]
      rw [List.lookup_cons, beq_eq_false_iff_ne.mpr (Ne.symm q)] at h
      obtain ⟨e', h1, h2, h3⟩ := ar_get t h
      exact ⟨e', .tail _ h1, h2, h3⟩
theorem ar_noref {ρ : Map} : ∀ {as : List (String × V)} {Es : List DictEntry}, Paired (AR ρ) as Es → Es.any (·.refKey) = false
  | _, _, .nil => rfl
  | _, _, .cons x t => by
    obtain ⟨⟨tk, hk⟩, hv⟩ := x
    rw [List.any_cons, ar_noref t, Bool.or_false]
    unfold DictEntry.refKey
    rw [hk]
theorem ar_put {ρ : Map} {n : String} {v : V} {W : Value} {hs : Int} {tk : Tok} (hv : VR ρ v W) : ∀ {as : List (String × V)} {Es : List DictEntry}, Paired (AR ρ) as Es → Paired (AR ρ) (putA n v as) (putL (Str.ofString n) hs (.str (Str.ofString n) tk) W Es)
  | _, _, .nil => .cons ⟨⟨tk, rfl⟩, hv⟩ .nil
  | _, _, .cons (a := a) (b := e) x t => by
    obtain ⟨⟨tk', hk⟩, hv'⟩ := id x
    unfold putA putL
    rw [isStr_key hk]
    by_cases q : a.1 = n
    · rw [decide_eq_true q, if_pos q, if_pos rfl]
      exact .cons ⟨⟨tk', by rw [hk, q]⟩, hv⟩ t
    · rw [decide_eq_false q, if_neg q, if_neg (by simp)]
      exact .cons x (ar_put hv t)
theorem putA_len (n : String) (v : V) : ∀ as : List (String × V), (putA n v as).length ≤ as.length + 1
  | [] => by simp [putA]
  | a :: r => by
    unfold putA
    split
    · simp
    · have := putA_len n v r
      simp only [List.length_cons]; omega
/-- what the class says of a name: nothing, or something that an instance's own value hides -/
def okAttr (K : Frag) (C : Addr) (name : Str) : Bool := plainGet K C name && hasDictIn K C && match findIn K (.ref C) name with
  | some none => true
  | some (some a) => (match specialIn K a "__get__" with
      | some none => true
      | some (some _) => takesIn K a == some false
      | none => false)
  | none => false
theorem findObj_hides {K : Frag} {C : Addr} {name : Str} {od : Obj} {v : Value} (h : okAttr K C name = true) (hl : lookIn name od = some (some v)) : findObj K C (some od) name = some (.value v) := by
  unfold okAttr at h
  rw [Bool.and_eq_true, Bool.and_eq_true] at h
  obtain ⟨⟨_, hh⟩, h⟩ := h
  obtain ⟨cd, hc, hd⟩ := any_some hh
  have ho : PySem.W.ownOf cd (some od) name = some (some v) := by unfold PySem.W.ownOf; rw [if_pos hd]; exact hl
  unfold findObj
  rw [hc, Option.bind_some]
  split at h
  · rename_i e; rw [e]; simp [ho]
  · rename_i a e
    rw [e, Option.bind_some]
    split at h
    · rename_i g; simp [g, ho]
    · rename_i g q
      have q' : takesIn K a = some false := beq_iff_eq.mp h
      simp [q, q', ho]
    · cases h
  · cases h
def gAttr (n : String) : V → PM V
  | .obj i => fun st => match st.sto[i]? with
    | some (.inst as) => (match as.lookup n with
      | some (.glob _) => .fail
      | some w => .ok w st
      | none => .fail)
    | _ => .fail
  | _ => PM.fail
def sAttr (n : String) (v : V) : V → PM Unit
  | .obj i => fun st => match st.sto[i]? with
    | some (.inst as) => if as.length ≤ 90 then .ok () { st with sto := st.sto.set i (.inst (putA n v as)) } else .fail
    | _ => .fail
  | _ => PM.fail
theorem handed_vr {ρ : Map} {w : V} {W : Value} (h : VR ρ w W) (hg : ∀ u, w ≠ .glob u) : handedIn W = true := by
  cases h with
  | glob _ => exact absurd rfl (hg _)
  | _ => rfl
section
variable {cx : Cx}
theorem inst_at {ρ : Map} {hid : Hd} {fz led : Led} {m mloc : Str → Option Value} {st : St} {s : Shared} (x : RelD cx ρ hid fz led m mloc st s) {i : Nat} {as : List (String × V)} {p : Addr × Addr} (hi : st.sto[i]? = some (.inst as)) (hp : ρ[i]? = some p) :
    ∃ Es n, Paired (AR ρ) as Es ∧ Es.length ≤ 100 ∧ (p.1, instObj cx.C p.2) ∈ led ∧ (p.2, dictOf Es n) ∈ led ∧ InstAt s.heap p.1 (instObj cx.C p.2) cx.C (some (dictOf Es n)) := by
  obtain ⟨Es, n, h1, h2, h3, h4⟩ := x.B.obj i _ p hi hp
  exact ⟨Es, n, h1, h2, h3, h4, InstAt.of_news x.N h3 h4⟩
theorem get_attr (ok : cx.Ok) {n : String} (hc : okAttr cx.K cx.C (Str.ofString n) = true) {ρ : Map} {hid : Hd} {st : St} {s : Shared} (x : Rel cx ρ hid st s) {a : V} {A : Value} (ha : VR ρ a A) {v : V} {st' : St} (h : gAttr n a st = .ok v st') {expr : Bool} {Ar : Around}
    {Q : Value → Shared → Prop} {E : Value → Shared → Prop} (k : ∀ W s', VR ρ v W → Rel cx ρ hid st' s' → Q W s') : wpAny cx.M Ar (getAttr A (Str.ofString n) expr) Q E s := by
  unfold gAttr at h
  split at h
  · rename_i i
    obtain ⟨p, hp, rfl⟩ := vr_obj ha
    split at h
    · rename_i as hi
      split at h
      · cases h
      · rename_i w hg hl
        cases h
        obtain ⟨fz, led, m, mloc, x'⟩ := id x
        obtain ⟨Es, n', h1, h2, h3, h4, I⟩ := inst_at x' hi hp
        obtain ⟨e, _, g1, g2⟩ := ar_get h1 hl
        have pg : plainGet cx.K cx.C (Str.ofString n) = true := by
          unfold okAttr at hc; rw [Bool.and_eq_true, Bool.and_eq_true] at hc; exact hc.1.1
        refine get_value (ok.kin.keeps x'.F.keep) I (plainGet_of pg).1 (findObj_hides hc ?_) (handed_vr g2 fun u e => hg u e) (k _ _ g2 (x.toks _))
        rw [lookIn_dict]
        show (match Es.find? (·.key.isStr (Str.ofString n)) with | some e => some (some e.val) | none => _) = _
        rw [g1]
      · cases h
    · cases h
  · cases h
theorem sim_Attribute {e : Expr} {n : String} {pos : Pos} {ma : PM V} (ok : cx.Ok) (h1 : SimV cx (eval e cx.env) ma) (hc : okAttr cx.K cx.C (Str.ofString n) = true)
    (he : eval (.Attribute e (Str.ofString n) pos) cx.env = (do
      let o ← eval e cx.env
      standAt pos.atName
      let r ← holding [o] (getAttr o (Str.ofString n) true)
      letTemporaryGo e o r
      pure r) := by with_unfolding_all rfl) : SimV cx (eval (.Attribute e (Str.ofString n) pos) cx.env) (PM.bind ma (gAttr n)) := by
  intro ρ hid st s x v st' h
  obtain ⟨a, st1, e1, h⟩ := bind_ok h
  refine Attribute_any_ (wp_seq (h1 ρ hid st s x a st1 e1) fun A s1 ρ1 p1 r1 v1 => ?_) he
  exact get_attr ok hc r1 v1 h fun W s' hw hr => ⟨ρ1, p1, hr, hw⟩
def okSet (K : Frag) (C : Addr) (name : Str) : Bool := (findIn K (.ref C) "__setattr__" == some (some (.builtin "object.__setattr__"))) && plainOver K C && (takerIn K C name == some none) && hasDictIn K C
theorem set_attr (ok : cx.Ok) {n : String} (hc : okSet cx.K cx.C (Str.ofString n) = true) {ρ : Map} {hid : Hd} {st : St} {s : Shared} (x : Rel cx ρ hid st s) {a : V} {A : Value} (ha : VR ρ a A) {w : V} {W : Value} (hw : VR ρ w W) {st' : St} (h : sAttr n w a st = .ok () st') {Ar : Around}
    {Q : Unit → Shared → Prop} {E : Value → Shared → Prop} (k : ∀ s', Rel cx ρ hid st' s' → Q () s') : wpAny cx.M Ar (setAttr A (Str.ofString n) W) Q E s := by
  unfold sAttr at h
  split at h
  · rename_i i
    obtain ⟨p, hp, rfl⟩ := vr_obj ha
    split at h
    · rename_i as hi
      split at h
      · rename_i hlen
        cases h
        obtain ⟨fz, led, m, mloc, x'⟩ := id x
        obtain ⟨Es, n', h1, h2, h3, h4, I⟩ := inst_at x' hi hp
        unfold okSet at hc
        rw [Bool.and_eq_true, Bool.and_eq_true, Bool.and_eq_true] at hc
        obtain ⟨⟨⟨c1, c2⟩, c3⟩, c4⟩ := hc
        have hgl : (PySem.W.getL (Str.ofString n) Es).isSome = true := by
          unfold PySem.W.getL
          cases q : Es.find? (·.key.isStr (Str.ofString n)) with
          | some e => rfl
          | none => rw [ar_noref h1]; rfl
        have hp2 := ar_put (n := n) (hs := PyData.keyHash cx.w.params (Str.ofString n)) (tk := s.toks + 1) hw h1
        have hl2 : (putL (Str.ofString n) (PyData.keyHash cx.w.params (Str.ofString n)) (.str (Str.ofString n) (s.toks + 1)) W Es).length ≤ 100 := by
          rw [← hp2.length]
          have := putA_len n w as
          omega
        refine set_dict x'.F ok.kin x'.N I rfl (beq_iff_eq.mp c1) c2 (beq_iff_eq.mp c3) c4 hgl rfl (upd_of _ h4 x'.B.nd) (by omega) fun h' F' N' => k _ ?_
        refine RelD.rel (x'.go F' N' (x'.B.upd hp (.inr rfl) ⟨_, _, hp2, hl2, ?_, mem_updL_self h4⟩))
        refine mem_updL_ne h3 fun e => ?_
        have : instObj cx.C p.2 = dictOf Es n' := nodup_mem x'.B.nd (e ▸ h3 : (p.2, _) ∈ led) h4
        cases this
      · cases h
    · cases h
  · cases h
theorem sim_AssignAttr (ok : cx.Ok) {o e : Expr} {n : String} {pos' pos : Pos} {mo me : PM V} (h1 : SimV cx (eval e cx.env) me) (h2 : SimV cx (eval o cx.env) mo) (hc : okSet cx.K cx.C (Str.ofString n) = true)
    (hs : swapsWith e (some (.Attribute o (Str.ofString n) pos')) pos.line cx.env = pure false) :
    SimS cx (.Assign [.Attribute o (Str.ofString n) pos'] e pos) (PM.bind me fun v => PM.bind mo fun a => PM.bind (sAttr n v a) fun _ => PM.pure .next) := by
  intro ρ hid st s x v st' h
  obtain ⟨w, st1, e1, h⟩ := bind_ok h
  obtain ⟨a, st2, e2, h⟩ := bind_ok h
  obtain ⟨u, st3, e3, h⟩ := bind_ok h
  cases h
  refine plainObj_wpAny_Assign_Attribute (wp_seq (h1 ρ hid st s x w st1 e1) fun W s1 ρ1 p1 r1 v1 => wp_seq (h2 ρ1 hid st1 s1 r1 a st2 e2) fun A s2 ρ2 p2 r2 v2 => ?_) hs
  exact set_attr ok hc r2 v2 (v1.mono p2) e3 fun s' hr => ⟨ρ2, pre_trans p1 p2, hr, .next⟩
end
end Mine
namespace Mine
/-- the context of a called def -/
abbrev Cx.inn (cx : Cx) (g : Heap) (L' : Addr) (env' : Env) (k : Nat) : Cx := { cx with h₀ := g, L := L', A := cx.A.deeper env', fenv := env', env := env', outer := cx.fenv :: cx.outer, n := k, fzn := false }
theorem cellsFrom_addr : ∀ (names : List (Str × NameKind)) (n : Nat) (acc : List (Str × Addr)), (∀ x ∈ acc, x.2 < n) → (acc.map (·.2)).Nodup →
    ((cellsFrom n names acc).map (·.2)).Nodup ∧ ∀ x ∈ cellsFrom n names acc, x ∈ acc ∨ n ≤ x.2
  | [], n, acc, _, h => ⟨h, fun x hx => .inl hx⟩
  | (y, k) :: r, n, acc, h1, h2 => by
    unfold cellsFrom
    split
    · have := cellsFrom_addr r (n + 1) ((y, n) :: acc) (fun x hx => by
        rcases List.mem_cons.mp hx with rfl | hx
        · exact Nat.lt_succ_self _
        · exact Nat.lt_succ_of_lt (h1 x hx)) (by
        rw [List.map_cons, List.nodup_cons]
        refine ⟨fun hm => ?_, h2⟩
        obtain ⟨x, hx, e⟩ := List.mem_map.mp hm
        exact absurd (h1 x hx) (by rw [e]; exact Nat.lt_irrefl _))
      refine ⟨this.1, fun x hx => ?_⟩
      rcases this.2 x hx with h | h
      · rcases List.mem_cons.mp h with rfl | h
        · exact .inr (Nat.le_refl _)
        · exact .inl h
      · exact .inr (Nat.le_of_succ_le h)
    · exact cellsFrom_addr r n acc h1 h2
theorem cellsAre_fst {cm : Str → Option Value} : ∀ {cs : List (Str × Addr)} {cells : Led}, CellsAre cm cs cells → cells.map (·.1) = cs.map (·.2)
  | _, _, .nil => rfl
  | _, _, .cons _ r => by simp [cellsAre_fst r]
theorem cellsAre_get {cm : Str → Option Value} : ∀ {cs : List (Str × Addr)} {cells : Led}, CellsAre cm cs cells → ∀ {x : Str} {c : Addr}, cs.lookup x = some c → ∃ o, (c, o) ∈ cells ∧ o.data = .cell (cm x)
  | _, _, .cons (n := n) (c := c') (o := o) h r, x, c, e => by
    rw [List.lookup_cons] at e
    cases q : x == n with
    | true =>
      rw [q] at e
      cases e
      rw [beq_iff_eq] at q
      subst q
      exact ⟨o, .head _, h⟩
    | false =>
      rw [q] at e
      obtain ⟨o', h1, h2⟩ := cellsAre_get r e
      exact ⟨o', .tail _ h1, h2⟩
theorem bindL_other {kf : Str → Option NameKind} {x : Str} : ∀ (bs : List (Str × Value)) (m : Str → Option Value), (∀ b ∈ bs, b.1 ≠ x) → bindL kf bs m x = m x
  | [], _, _ => rfl
  | (n, v) :: r, m, h => by
    unfold bindL
    rw [bindL_other r _ fun b hb => h b (.tail _ hb)]
    have hn : x ≠ n := Ne.symm (h (n, v) (.head _))
    split
    · exact if_neg hn
    · rfl
theorem bindC_other {kf : Str → Option NameKind} {x : Str} : ∀ (bs : List (Str × Value)) (m : Str → Option Value), (∀ b ∈ bs, b.1 ≠ x) → bindC kf bs m x = m x
  | [], _, _ => rfl
  | (n, v) :: r, m, h => by
    unfold bindC
    rw [bindC_other r _ fun b hb => h b (.tail _ hb)]
    have hn : x ≠ n := Ne.symm (h (n, v) (.head _))
    split
    · rfl
    · exact if_neg hn
theorem zip_fst {ps : List String} {Vs : List Value} {x : Str} (h : ∀ p ∈ ps, Str.ofString p ≠ x) : ∀ b ∈ (ps.map Str.ofString).zip Vs, b.1 ≠ x := fun b hb => by
  have := (List.of_mem_zip (a := b.1) (b := b.2) hb).1
  obtain ⟨p, hp, e⟩ := List.mem_map.mp this
  rw [← e]; exact h p hp
theorem bind_get {ρ : Map} {kf : Str → Option NameKind} {n : String} {v : V} : ∀ {ps : List String} {vs : List V} {Vs : List Value} (m cm : Str → Option Value), ps.Nodup → VRs ρ vs Vs → (ps.zip vs).lookup n = some v →
    ∃ W, VR ρ v W ∧ (kf (Str.ofString n) = some .local → bindL kf ((ps.map Str.ofString).zip Vs) m (Str.ofString n) = some W) ∧ (kf (Str.ofString n) ≠ some .local → bindC kf ((ps.map Str.ofString).zip Vs) cm (Str.ofString n) = some W)
  | [], _, _, _, _, _, _, h => by simp at h
  | p :: ps, _, _, _, _, _, .nil, h => by simp at h
  | p :: ps, _, _, m, cm, hnd, .cons (a := a) (b := b) x t, h => by
    rw [List.nodup_cons] at hnd
    rw [List.zip_cons_cons, List.lookup_cons] at h
    rw [List.map_cons, List.zip_cons_cons]
    by_cases q : n = p
    · subst q
      rw [beq_self_eq_true] at h
      cases h
      have hne : ∀ r ∈ ps, Str.ofString r ≠ Str.ofString n := fun r hr e => hnd.1 (ofString_inj e ▸ hr)
      refine ⟨b, x, fun hk => ?_, fun hk => ?_⟩
      · unfold bindL
        rw [bindL_other _ _ (zip_fst hne), if_pos hk, if_pos rfl]
      · unfold bindC
        rw [bindC_other _ _ (zip_fst hne), if_neg hk, if_pos rfl]
    · rw [beq_eq_false_iff_ne.mpr q] at h
      obtain ⟨W, h1, h2, h3⟩ := bind_get (kf := kf) (if kf (Str.ofString p) = some .local then fun y => if y = Str.ofString p then some b else m y else m) (if kf (Str.ofString p) = some .local then cm else fun y => if y = Str.ofString p then some b else cm y) hnd.2 t h
      exact ⟨W, h1, h2, h3⟩
/-- a def called: its parameters, its body -/
def callP (ps : List String) (mb : PM Fl) : List V → PM V := fun vs st => if vs.length = ps.length then
    (match mb ⟨fun n => (ps.zip vs).lookup n, st.sto⟩ with
      | .ok fl st' => .ok (match fl with | .ret v => v | _ => .none) ⟨st.loc, st'.sto⟩
      | .exc e st' => .exc e ⟨st.loc, st'.sto⟩
      | .fail => .fail)
  else .fail
open Classical in
noncomputable def hidOf (ρ : Map) (fz led : Led) : Hd := ⟨led.filter fun q => decide ((∀ p ∈ ρ, q.1 ≠ p.1 ∧ q.1 ≠ p.2) ∧ ∀ r ∈ fz, r.1 ≠ q.1), fz⟩
theorem mem_hidOf {ρ : Map} {fz led : Led} {q : Addr × Obj} : q ∈ (hidOf ρ fz led).h ↔ q ∈ led ∧ (∀ p ∈ ρ, q.1 ≠ p.1 ∧ q.1 ≠ p.2) ∧ ∀ r ∈ fz, r.1 ≠ q.1 := by
  unfold hidOf
  simp only [List.mem_filter, decide_eq_true_eq]
section
variable {cx : Cx}
theorem inn_ok (ok : cx.Ok) {k : Nat} (hd : cx.A.depth + 4 * k + 5 < recursionLimit) (hu : cx.A.units + 40 * k + 203 < cLine) {qual : Str} {scope : Scope} {f : Addr} {cdv : Value} {g : Heap} {L' : Addr} (hk : scope.kind = .function) (st : cx.h₀.StaysIn g) (B : Below cx.A cx.base (cx.fenv :: cx.outer) g) :
    (cx.inn g L' (envOfC qual scope L' f cdv) k).Ok where
  bmain := ok.bmain.keeps st
  kin := ok.kin.keeps st
  top := ok.top.keeps st
  below := ⟨cx.A, B⟩
  frames := Around.frames_deeper ok.frames
  fframe := rfl
  fkind := hk
  kind := hk
  globals := rfl
  builtins := rfl
  handled := ok.handled
  depth := by show cx.A.depth + 1 + 4 * k + 4 < recursionLimit; omega
  units := by show cx.A.units + 3 + 40 * k + 200 < cLine; omega
  cinj := by
    intro x y c hx hy
    have h := (cellsFrom_addr scope.names (L' + 1) [] (fun _ h => nomatch h) .nil).1
    have hm : ∀ {l : List (Str × Addr)} {x : Str} {c : Addr}, l.lookup x = some c → (x, c) ∈ l := by
      intro l
      induction l with
      | nil => intro x c e; cases e
      | cons a r ih =>
        intro x c e
        rw [List.lookup_cons] at e
        cases q : x == a.1 with
        | true => rw [q] at e; cases e; rw [beq_iff_eq] at q; rw [q]; exact .head _
        | false => rw [q] at e; exact .tail _ (ih e)
    have h1 := hm (l := cellsFrom (L' + 1) scope.names []) hx
    have h2 := hm (l := cellsFrom (L' + 1) scope.names []) hy
    generalize cellsFrom (L' + 1) scope.names [] = l at h h1 h2
    induction l with
    | nil => cases h1
    | cons a r ih =>
      rw [List.map_cons, List.nodup_cons] at h
      rcases List.mem_cons.mp h1 with e | e <;> rcases List.mem_cons.mp h2 with e' | e'
      · exact (Prod.mk.inj (e.trans e'.symm)).1
      · exact absurd (List.mem_map_of_mem (f := (·.2)) e') (by rw [← e] at h; exact h.1)
      · exact absurd (List.mem_map_of_mem (f := (·.2)) e) (by rw [← e'] at h; exact h.1)
      · exact ih h.2 e e'
/-- the called def's first state -/
theorem bear_inn {ρ : Map} {hid : Hd} {fz led cells : Led} {m mloc : Str → Option Value} {st : St} (B : Bear cx ρ hid fz led m mloc st) {k : Nat} {qual : Str} {scope : Scope} {f : Addr} {cdv : Value} {g : Heap} {L' : Addr} {ps : List String} {vs : List V} {Vs : List Value}
    (hlt : ∀ p ∈ led, p.1 < L') (hv : VRs ρ vs Vs) (hps : ps.Nodup)
    (hkind : ∀ p ∈ ps, scope.names.lookup (Str.ofString p) = some .local ∨ scope.names.lookup (Str.ofString p) = some .cell)
    (C : CellsAre (bindC (envOfC qual scope L' f cdv).kindOf ((ps.map Str.ofString).zip Vs) fun _ => none) (cellsFrom (L' + 1) scope.names []) cells) :
    Bear (cx.inn g L' (envOfC qual scope L' f cdv) k) ρ (hidOf ρ fz led) fz (cells ++ led) (bindL (envOfC qual scope L' f cdv).kindOf ((ps.map Str.ofString).zip Vs) fun _ => none)
      (bindL (envOfC qual scope L' f cdv).kindOf ((ps.map Str.ofString).zip Vs) fun _ => none) ⟨fun n => (ps.zip vs).lookup n, st.sto⟩ := by
  have ca := cellsFrom_addr scope.names (L' + 1) [] (fun _ h => nomatch h) .nil
  have cf := cellsAre_fst C
  have cgt : ∀ q ∈ cells, L' < q.1 := fun q hq => by
    have : q.1 ∈ cells.map (·.1) := List.mem_map_of_mem hq
    rw [cf] at this
    obtain ⟨x, hx, e⟩ := List.mem_map.mp this
    rcases ca.2 x hx with h | h
    · cases h
    · rw [← e]; exact h
  have cmem : ∀ {x : Str} {c : Addr}, (envOfC qual scope L' f cdv).cells.lookup x = some c → L' < c := fun {x c} h => by
    obtain ⟨o, h1, _⟩ := cellsAre_get C h
    exact cgt _ h1
  have olt : ∀ p ∈ ρ, p.1 < L' ∧ p.2 < L' := fun p hp => by
    have := B.own p hp
    obtain ⟨q, hq, e⟩ := List.mem_map.mp this.1
    obtain ⟨q', hq', e'⟩ := List.mem_map.mp this.2
    exact ⟨e ▸ hlt q hq, e' ▸ hlt q' hq'⟩
  refine ⟨?_, fun h => absurd rfl h, .inl ⟨rfl, rfl⟩, B.len, fun p hp => ?_, fun i o p h1 h2 => ?_, B.sep, fun q hq => ?_, fun q hq => (mem_hidOf.mp hq).2.1, fun x c hc => ?_, fun x c hc => ⟨fun q hq => ?_, fun p hp => ?_⟩, fun q hq => List.mem_append_right _ (B.fin q hq), fun q hq => hq, fun q hq => (mem_hidOf.mp hq).2.2, B.fsep, fun _ q hq x hx hc => ?_, fun n v hn => ?_⟩
  · rw [List.map_append]
    refine List.nodup_append.mpr ⟨by rw [cf]; exact ca.1, B.nd, fun a ha b hb e => ?_⟩
    obtain ⟨q, hq, rfl⟩ := List.mem_map.mp ha
    obtain ⟨r, hr, rfl⟩ := List.mem_map.mp hb
    have h1 := cgt q hq
    have h2 := hlt r hr
    rw [← e] at h2
    exact absurd h1 (Nat.lt_asymm h2)
  · rw [List.map_append]
    exact ⟨List.mem_append_right _ (B.own p hp).1, List.mem_append_right _ (B.own p hp).2⟩
  · exact (B.obj i o p h1 h2).mono (pre_refl _) (fun _ h => h) fun _ _ h _ => List.mem_append_right _ h
  · exact List.mem_append_right _ (mem_hidOf.mp hq).1
  · obtain ⟨o, h1, h2⟩ := cellsAre_get C hc
    exact ⟨o, _, List.mem_append_left _ h1, h2⟩
  · exact Nat.ne_of_lt (Nat.lt_trans (hlt q (mem_hidOf.mp hq).1) (cmem hc))
  · exact ⟨Nat.ne_of_lt (Nat.lt_trans (olt p hp).1 (cmem hc)), Nat.ne_of_lt (Nat.lt_trans (olt p hp).2 (cmem hc))⟩
  · have h1 := hlt q (B.fin q hq)
    have h2 := cmem hc
    exact absurd h1 (Nat.lt_asymm h2)
  · have hm : n ∈ ps := by
      have : ∀ {l : List (String × V)}, l.lookup n = some v → ∃ w, (n, w) ∈ l := by
        intro l
        induction l with
        | nil => intro e; cases e
        | cons a r ih =>
          intro e
          rw [List.lookup_cons] at e
          cases q : n == a.1 with
          | true => rw [beq_iff_eq] at q; exact ⟨a.2, by rw [q]; exact .head _⟩
          | false => rw [q] at e; obtain ⟨w, hw⟩ := ih e; exact ⟨w, .tail _ hw⟩
      obtain ⟨w, hw⟩ := this hn
      exact (List.of_mem_zip hw).1
    obtain ⟨W, h1, h2, h3⟩ := bind_get (kf := (envOfC qual scope L' f cdv).kindOf) (fun _ => none) (fun _ => none) hps hv hn
    refine ⟨W, h1, ?_⟩
    rcases hkind n hm with q | q
    · exact .inl ⟨q, h2 q⟩
    · refine .inr ⟨.inl q, ?_⟩
      have hs := cellsFrom_some (x := Str.ofString n) scope.names (L' + 1) [] (.inl q)
      obtain ⟨c, hc⟩ := Option.isSome_iff_exists.mp hs
      obtain ⟨o, g1, g2⟩ := cellsAre_get C hc
      exact ⟨c, o, hc, List.mem_append_left _ g1, by rw [g2, h3 (by show scope.names.lookup _ ≠ _; rw [q]; simp)]⟩
/-- back in the caller -/
theorem bear_back {cx' : Cx} {ρ ρ' : Map} {hid : Hd} {fz led fz' led' : Led} {m mloc m' mloc' : Str → Option Value} {st st' : St} (hC : cx'.C = cx.C) (hw : cx'.w = cx.w) (hpr : cx'.prog = cx.prog) (hlam : cx'.lam = cx.lam) (htab : cx'.tab = cx.tab) (B : Bear cx ρ hid fz led m mloc st) (hρ : ρ <+: ρ') (B' : Bear cx' ρ' (hidOf ρ fz led) fz' led' m' mloc' st') :
    Bear cx ρ' hid fz' led' m mloc ⟨st.loc, st'.sto⟩ := by
  have keep : ∀ q ∈ led, (∀ p ∈ ρ, q.1 ≠ p.1 ∧ q.1 ≠ p.2) → q ∈ led' := fun q hq hp => by
    by_cases hf : ∀ r ∈ fz, r.1 ≠ q.1
    · exact B'.hin q (mem_hidOf.mpr ⟨hq, hp, hf⟩)
    · obtain ⟨r, hr'⟩ := Classical.not_forall.mp hf
      obtain ⟨hr, e⟩ := Classical.not_imp.mp hr'
      clear hr'
      have e : r.1 = q.1 := Classical.not_not.mp e
      have : r = q := by
        have h1 := B.fin r hr
        obtain ⟨a, o⟩ := r
        obtain ⟨b, o'⟩ := q
        dsimp only at e
        subst e
        rw [nodup_mem B.nd h1 hq]
      subst this
      exact B'.fin _ (B'.fz0 _ hr)
  have off : ∀ q ∈ led, (∀ p ∈ ρ, q.1 ≠ p.1 ∧ q.1 ≠ p.2) → ∀ p ∈ ρ', q.1 ≠ p.1 ∧ q.1 ≠ p.2 := fun q hq hp => by
    by_cases hf : ∀ r ∈ fz, r.1 ≠ q.1
    · exact B'.hsep q (mem_hidOf.mpr ⟨hq, hp, hf⟩)
    · obtain ⟨r, hr'⟩ := Classical.not_forall.mp hf
      obtain ⟨hr, e⟩ := Classical.not_imp.mp hr'
      clear hr'
      have e : r.1 = q.1 := Classical.not_not.mp e
      intro p hp'
      rw [← e]
      exact B'.fsep r (B'.fz0 _ hr) p hp'
  have cellsOff : ∀ x c o, cx.env.cells.lookup x = some c → (c, o) ∈ led → ∀ p ∈ ρ, c ≠ p.1 ∧ c ≠ p.2 := fun x c o hc _ p hp => ⟨Ne.symm ((B.csep x c hc).2 p hp).1, Ne.symm ((B.csep x c hc).2 p hp).2⟩
  have oat : ∀ {p : Addr × Addr} {o : O}, OAt cx' ρ' fz' led' p o → OAt cx ρ' fz' led' p o := fun {p o} h => by
    cases o with
    | inst as => obtain ⟨Es, n, a, b, c, d⟩ := h; exact ⟨Es, n, a, b, hC ▸ c, d⟩
    | dict es =>
      obtain ⟨o, kvs, a, d, c, b⟩ := h
      refine ⟨o, kvs, a, ?_, c, b⟩
      obtain ⟨prog, w⟩ := cx'
      dsimp only at hw hpr
      subst hw hpr
      exact d
    | clos cs => obtain ⟨fd, a, b⟩ := h; exact ⟨fd, a, hlam ▸ b⟩
    | ctab =>
      obtain ⟨a, b⟩ := h
      rw [hlam, htab] at b
      exact ⟨htab ▸ a, b⟩
    | _ => exact h
  refine ⟨B'.nd, B.cm, ?_, B'.len, B'.own, fun i o p h1 h2 => oat (B'.obj i o p h1 h2), B'.sep, fun q hq => keep q (B.hin q hq) (B.hsep q hq), fun q hq => off q (B.hin q hq) (B.hsep q hq), fun x c hc => ?_, fun x c hc => ⟨(B.csep x c hc).1, ?_⟩, B'.fin, fun q hq => B'.fz0 q (B.fz0 q hq), fun q hq r hr => ?_, B'.fsep, fun hz q hq x hx hc => ?_, fun n v hn => ?_⟩
  · rcases B.ln with h | ⟨g1, o, es, ep, g2, g3, g4, g5, g6, g7, g8, g9⟩
    · exact .inl h
    · have hn : ∀ p ∈ ρ, cx.env.locals ≠ p.1 ∧ cx.env.locals ≠ p.2 := fun p hp => ⟨Ne.symm (g6 p hp).1, Ne.symm (g6 p hp).2⟩
      refine .inr ⟨g1, o, es, ep, keep _ g2 hn, g3, g4, g5, fun p hp => ⟨Ne.symm (off _ g2 hn p hp).1, Ne.symm (off _ g2 hn p hp).2⟩, g7, fun q hq => ?_, g9⟩
      exact B'.hfz (cx.env.locals, o) (mem_hidOf.mpr ⟨g2, hn, fun r hr => g8 r hr⟩) q hq
  · obtain ⟨o, v, h1, h2⟩ := B.cel x c hc
    exact ⟨o, v, keep _ h1 (cellsOff x c o hc h1), h2⟩
  · obtain ⟨o, v, h1, h2⟩ := B.cel x c hc
    exact fun p hp => ⟨Ne.symm (off _ h1 (cellsOff x c o hc h1) p hp).1, Ne.symm (off _ h1 (cellsOff x c o hc h1) p hp).2⟩
  · exact B'.hfz q (mem_hidOf.mpr ⟨B.hin q hq, B.hsep q hq, fun r hr => B.hfz q hq r hr⟩) r hr
  · obtain ⟨o, v, h1, h2⟩ := B.cel x _ hc
    refine B'.hfz (q.1, o) (mem_hidOf.mpr ⟨h1, cellsOff x q.1 o hc h1, fun r hr e => ?_⟩) q hq rfl
    exact B.fcel hz r hr x hx (by rw [e]; exact hc)
  · obtain ⟨W, h1, h2⟩ := B.loc n v hn
    exact ⟨W, h1.mono hρ, h2.mono fun c o hc hm => keep _ hm (cellsOff _ c o hc hm)⟩
/-- the tail of a body, in which the cells are not bound any more -/
abbrev Cx.frz (cx : Cx) : Cx := { cx with fzn := true }
theorem Bear.frz {ρ : Map} {hid : Hd} {fz led : Led} {m mloc : Str → Option Value} {st : St} (B : Bear cx ρ hid fz led m mloc st) : Bear cx.frz ρ hid fz led m mloc st := by
  have oat : ∀ {p : Addr × Addr} {o : O}, OAt cx ρ fz led p o → OAt cx.frz ρ fz led p o := fun {p o} h => by cases o <;> exact h
  exact ⟨B.nd, B.cm, B.ln, B.len, B.own, fun i o p h1 h2 => oat (B.obj i o p h1 h2), B.sep, B.hin, B.hsep, B.cel, B.csep, B.fin, B.fz0, B.hfz, B.fsep, (fun h => by cases h), B.loc⟩
theorem Rel.frz {ρ : Map} {hid : Hd} {st : St} {s : Shared} (x : Rel cx ρ hid st s) : Rel cx.frz ρ hid st s := by
  obtain ⟨fz, led, m, mloc, x⟩ := x
  exact ⟨fz, led, m, mloc, x.F, x.N, x.B.frz, x.gens, x.os, x.tk⟩
/-- a body as a whole -/
def SimBd (cx : Cx) (ss : List Stmt) (m : PM Fl) : Prop := ∀ ρ hid st s, Rel cx ρ hid st s → ∀ f st', m st = .ok f st' →
  wpAny cx.M cx.A (execs ss cx.env) (fun a s' => ∃ ρ', ρ <+: ρ' ∧ Rel cx.frz ρ' hid st' s' ∧ FR ρ' f a) (fun _ _ => False) s
theorem body_of {ss : List Stmt} {m : PM Fl} (h : SimSs cx ss m) : SimBd cx ss m := fun ρ hid st s x f st' e => wp_seq (h ρ hid st s x f st' e) fun a s' ρ' p r v => ⟨ρ', p, r.frz, v⟩
/-- a call of a def, up to its body: the tokens that stand then are not none -/
theorem call_pos {prog : Program} {w : World} {A : Around} {R : Result → Shared → Prop} {s : Shared} {fd : FuncData} {body : List Stmt} {f : Addr} {fo : Obj} {args : Args} {binds : List (Str × Value)} (hpos : 0 < s.toks)
    (hroom : A.depth < recursionLimit) (ho : s.heap.get? f = some fo) (hd : fo.data = .func fd) (hbd : fd.body = .stmts body) (hcl : fd.closure = []) (hgl : fd.globals = mainGlobals) (hbn : fd.builtins = builtinsNs) (hlim : s.heap.NoLimit) (hcd : s.heap.CodeRec fd.code fd.qualname)
    (hbind : BindsTo s fd args binds) (hkind : ∀ n, ∀ x ∈ binds, fd.scope.names.lookup x.1 = some .local ∨ (fd.scope.names.lookup x.1 = some .cell ∧ ((cellsFrom n fd.scope.names []).lookup x.1).isSome = true))
    (hnd : ((cellsFrom 0 fd.scope.names []).map (·.1)).Nodup)
    (h : ∀ h₁ tk cells, 0 < tk → Fr s.heap s.heap.objs.size h₁ (bindL (envOfC fd.qualname fd.scope s.heap.objs.size f fd.code).kindOf binds fun _ => none) → News s.heap s.heap.objs.size h₁ cells →
      CellsAre (bindC (envOfC fd.qualname fd.scope s.heap.objs.size f fd.code).kindOf binds fun _ => none) (cellsFrom (s.heap.objs.size + 1) fd.scope.names []) cells →
      wpAny (model prog w) (A.deeper (envOfC fd.qualname fd.scope s.heap.objs.size f fd.code)) (execs body (envOfC fd.qualname fd.scope s.heap.objs.size f fd.code))
        (fun fl s' => R (.ok (.ret (match fl with | .ret v => v | _ => .none))) s') (fun _ _ => False) { s with heap := h₁, toks := tk })
    (hco : fd.scope.isCoroutine = false) (hgen : fd.scope.isGenerator = false) (hk : fd.scope.kind = .function) : codeAny (model prog w) A (.call (.ref f) args) R s := by
  obtain ⟨name, qualname, params, bd, scope, globals, closure, defaults, kwdefaults, doc, pyModule, annotations, code, closureTuple, builtins⟩ := fd
  dsimp only at *
  subst hbd hcl hgl hbn
  refine codeAny_call_function hroom ho hd hco hgen rfl hcd (hbind _ _ _ _ ?_)
  refine lf hpos (wpAny_newFunctionEnv_cells hk (hkind _) fun env' he s' x htk => ?_)
  subst he
  refine ⟨hlim.keeps x.toInCall.keep, codeAny_func ?_⟩
  obtain ⟨h₁, tk, rfl, _⟩ := x.done
  obtain ⟨cells, NC, Y⟩ := Cl.news (h₀ := s.heap) (Nat.le_refl _) fun n c hm => ⟨x.cell n c (lookup_of_mem_nodup (cellsFrom_names scope.names 0 (s.heap.objs.size + 1) [] [] rfl ▸ hnd) hm), x.above n c hm⟩
  exact wpAny_mono (h h₁ tk cells htk ⟨x.toInCall.ns, x.toInCall.keep, Nat.le_refl _⟩ NC Y) (fun fl s' hl => hl) fun _ _ y => y.elim
theorem code_user (ok : cx.Ok) {k : Nat} (hdp : cx.A.depth + 4 * k + 5 < recursionLimit) (hun : cx.A.units + 40 * k + 203 < cLine) {ps : List String} {mb : PM Fl} {name qual : Str} {params : Arguments} {body : List Stmt} {scope : Scope} {dV kV doc pm cdv ct oc : Value} {an od : Option Addr} {osl : Array (Option Value)} {f : Addr}
    (ho : cx.K.lookup f = some ⟨oc, od, .func (fnOf name qual params body scope dV kV doc pm an cdv ct), osl⟩) (hcd : codeIn cx.K cdv qual = true)
    (hb : ∀ Vs : List Value, Vs.length = ps.length → bindArgs (fnOf name qual params body scope dV kV doc pm an cdv ct) ⟨Vs, []⟩ = pure ((ps.map Str.ofString).zip Vs))
    (hkind : ∀ p ∈ ps, scope.names.lookup (Str.ofString p) = some .local ∨ scope.names.lookup (Str.ofString p) = some .cell) (hps : ps.Nodup) (hnd : ((cellsFrom 0 scope.names []).map (·.1)).Nodup)
    (hco : scope.isCoroutine = false) (hgen : scope.isGenerator = false) (hk : scope.kind = .function)
    (hbody : ∀ g L', (cx.inn g L' (envOfC qual scope L' f cdv) k).Ok → SimBd (cx.inn g L' (envOfC qual scope L' f cdv) k) body mb)
    {ρ : Map} {hid : Hd} {st st' : St} {s : Shared} (x : Rel cx ρ hid st s) {vs : List V} {Vs : List Value} (hv : VRs ρ vs Vs) {v : V} (h : callP ps mb vs st = .ok v st') {R : Result → Shared → Prop}
    (hR : ∀ ρ' W s', ρ <+: ρ' → Rel cx ρ' hid st' s' → VR ρ' v W → R (.ok (.ret W)) s') : codeAny cx.M cx.A (.call (.ref f) ⟨Vs, []⟩) R s := by
  unfold callP at h
  split at h
  · rename_i hlen
    split at h
    · rename_i fl st1 e1
      cases h
      obtain ⟨fz, led, m, mloc, x⟩ := x
      obtain ⟨A₀, hB⟩ := ok.below
      have hVl : Vs.length = ps.length := by rw [← hv.length]; exact hlen
      obtain ⟨FG, B', stays, lv⟩ := groundX (A := cx.A) (R := R) hB x.F x.N ok.frames ok.fframe ok.fkind
      refine call_pos x.tk (by have := ok.depth; omega) (ok.kin.keeps x.F.keep _ _ ho) rfl rfl rfl rfl rfl (ok.top.nolimit.keeps x.F.keep) (codeRec_of (ok.kin.keeps x.F.keep) hcd) (BindsTo.of_eq (hb Vs hVl)) (fun j y hy => ?_) hnd
        (fun h₁ tk cells htk F1 N1 C' => ?_) hco hgen hk
      · have := (List.of_mem_zip (a := y.1) (b := y.2) hy).1
        obtain ⟨p, hp, e⟩ := List.mem_map.mp this
        rw [← e]
        rcases hkind p hp with q | q
        · exact .inl q
        · exact .inr ⟨q, cellsFrom_some scope.names j [] (.inl q)⟩
      · have hlt : ∀ p ∈ led, p.1 < s.heap.objs.size := fun p hp => Heap.lt_size (x.N p hp).1
        have ok' := inn_ok (qual := qual) (f := f) (cdv := cdv) (L' := s.heap.objs.size) ok hdp hun hk stays B'
        have Br := bear_inn (k := k) (g := hideAll s.heap (led.map (·.1))) x.B hlt hv hps hkind C'
        have F' : Fr (hideAll s.heap (led.map (·.1))) s.heap.objs.size h₁ (bindL (envOfC qual scope s.heap.objs.size f cdv).kindOf ((ps.map Str.ofString).zip Vs) fun _ => none) := ⟨F1.ns, fun b o e => F1.keep b o (of_hideAll _ e), Nat.le_of_eq (hideAll_size _ _)⟩
        have N' : News (hideAll s.heap (led.map (·.1))) s.heap.objs.size h₁ (cells ++ led) := fun p hp => by
          rcases List.mem_append.mp hp with hp | hp
          · refine ⟨(N1 p hp).1, (N1 p hp).2.1, ?_⟩
            cases q : (hideAll s.heap (led.map (·.1))).get? p.1 with
            | none => rfl
            | some o => have := of_hideAll _ q; rw [(N1 p hp).2.2] at this; cases this
          · exact ⟨F1.keep _ _ (x.N p hp).1, Nat.ne_of_lt (hlt p hp), hideAll_none _ (List.mem_map_of_mem hp)⟩
        have R' : Rel (cx.inn (hideAll s.heap (led.map (·.1))) s.heap.objs.size (envOfC qual scope s.heap.objs.size f cdv) k) ρ (hidOf ρ fz led) ⟨fun n => (ps.zip vs).lookup n, st.sto⟩ { s with heap := h₁, toks := tk } := ⟨fz, cells ++ led, _, _, F', N', Br, x.gens, x.os, htk⟩
        refine wpAny_mono (hbody _ s.heap.objs.size ok' ρ _ _ _ R' fl st1 e1) (fun fw s' hq => ?_) fun _ _ z => z.elim
        obtain ⟨ρ', hρ, ⟨fz', led', m', mloc', r'⟩, hfl⟩ := hq
        refine lv _ _ (leaveK_ r'.F r'.N fun F'' N'' => ?_)
        refine hR ρ' _ s' hρ ⟨fz', led', m, mloc, F'', N'', bear_back (cx' := (cx.inn (hideAll s.heap (led.map (·.1))) s.heap.objs.size (envOfC qual scope s.heap.objs.size f cdv) k).frz) rfl rfl rfl rfl rfl x.B hρ r'.B, r'.gens, r'.os, r'.tk⟩ ?_
        cases hfl with
        | ret hv => exact hv
        | _ => exact .none
    · cases h
    · cases h
  · cases h
/-- another place around -/
abbrev Cx.at (cx : Cx) (A' : Around) : Cx := { cx with A := A', n := 0 }
theorem Bear.chA {A' : Around} {n' : Nat} {ρ : Map} {hid : Hd} {fz led : Led} {m mloc : Str → Option Value} {st : St} (B : Bear cx ρ hid fz led m mloc st) : Bear { cx with A := A', n := n' } ρ hid fz led m mloc st := by
  have oat : ∀ {p : Addr × Addr} {o : O}, OAt cx ρ fz led p o → OAt { cx with A := A', n := n' } ρ fz led p o := fun {p o} h => by cases o <;> exact h
  exact ⟨B.nd, B.cm, B.ln, B.len, B.own, fun i o p h1 h2 => oat (B.obj i o p h1 h2), B.sep, B.hin, B.hsep, B.cel, B.csep, B.fin, B.fz0, B.hfz, B.fsep, B.fcel, B.loc⟩
theorem Rel.chA {A' : Around} {n' : Nat} {ρ : Map} {hid : Hd} {st : St} {s : Shared} (x : Rel cx ρ hid st s) : Rel { cx with A := A', n := n' } ρ hid st s := by
  obtain ⟨fz, led, m, mloc, x⟩ := x
  exact ⟨fz, led, m, mloc, x.F, x.N, x.B.chA, x.gens, x.os, x.tk⟩
theorem Rel.unA {A' : Around} {ρ : Map} {hid : Hd} {st : St} {s : Shared} (x : Rel (cx.at A') ρ hid st s) : Rel cx ρ hid st s := Rel.chA (cx := cx.at A') (A' := cx.A) (n' := cx.n) x
/-- a def as a primitive -/
structure Fn (cx : Cx) (k : Nat) (f : Addr) (ps : List String) (mb : PM Fl) : Prop where
  run : ∀ A', (cx.at A').Ok → A'.depth + 4 * k + 5 < recursionLimit → A'.units + 40 * k + 203 < cLine → ∀ {ρ : Map} {hid : Hd} {st st' : St} {s : Shared}, Rel cx ρ hid st s → ∀ {vs : List V} {Vs : List Value}, VRs ρ vs Vs → ∀ {v : V}, callP ps mb vs st = .ok v st' →
    ∀ {R : Result → Shared → Prop}, (∀ ρ' W s', ρ <+: ρ' → Rel cx ρ' hid st' s' → VR ρ' v W → R (.ok (.ret W)) s') → codeAny cx.M A' (.call (.ref f) ⟨Vs, []⟩) R s
theorem fn_user {k : Nat} {ps : List String} {mb : PM Fl} {name qual : Str} {params : Arguments} {body : List Stmt} {scope : Scope} {dV kV doc pm cdv ct oc : Value} {an od : Option Addr} {osl : Array (Option Value)} {f : Addr}
    (ho : cx.K.lookup f = some ⟨oc, od, .func (fnOf name qual params body scope dV kV doc pm an cdv ct), osl⟩) (hcd : codeIn cx.K cdv qual = true)
    (hb : ∀ Vs : List Value, Vs.length = ps.length → bindArgs (fnOf name qual params body scope dV kV doc pm an cdv ct) ⟨Vs, []⟩ = pure ((ps.map Str.ofString).zip Vs))
    (hkind : ∀ p ∈ ps, scope.names.lookup (Str.ofString p) = some .local ∨ scope.names.lookup (Str.ofString p) = some .cell) (hps : ps.Nodup) (hnd : ((cellsFrom 0 scope.names []).map (·.1)).Nodup)
    (hco : scope.isCoroutine = false) (hgen : scope.isGenerator = false) (hk : scope.kind = .function)
    (hbody : ∀ A' g L', ((cx.at A').inn g L' (envOfC qual scope L' f cdv) k).Ok → SimBd ((cx.at A').inn g L' (envOfC qual scope L' f cdv) k) body mb) : Fn cx k f ps mb :=
  ⟨fun A' ok hd hu _ _ _ _ _ x _ _ hv _ h _ hR => code_user (cx := cx.at A') ok hd hu ho hcd hb hkind hps hnd hco hgen hk (hbody A') x.chA hv h fun ρ' W s' a b c => hR ρ' W s' a b.unA c⟩
/-- an instance made -/
def newInst (mi : PM Fl) (ps : List String) : List V → PM V := fun vs => PM.bind (alloc (.inst [])) fun v => PM.bind (callP ps mi (v :: vs)) fun r => match r with
  | .none => PM.pure v
  | _ => PM.fail
theorem under_ok (ok : cx.Ok) {c : Code} (hf : c.envs = []) (hd : c.weight ≤ 2) (hu : c.cUnits ≤ 10) (hn : 1 ≤ cx.n) : (cx.at (cx.A.under c)).Ok where
  bmain := ok.bmain
  kin := ok.kin
  top := ok.top
  below := ok.below
  frames := by show pushEnvs c.envs cx.A.frames = _; rw [hf]; exact ok.frames
  fframe := ok.fframe
  fkind := ok.fkind
  kind := ok.kind
  globals := ok.globals
  builtins := ok.builtins
  handled := ok.handled
  depth := by have := ok.depth; show cx.A.depth + c.weight + 4 * 0 + 4 < _; omega
  units := by have := ok.units; show cx.A.units + c.cUnits + 40 * 0 + 200 < _; omega
  cinj := ok.cinj
theorem tc_envs (a : Args) : (Code.builtin "type.__call__" a).envs = [] := rfl
theorem tc_frames (a : Args) : (Code.builtin "type.__call__" a).frames = 0 := by
  unfold Code.frames
  rfl
theorem tc_weight (C : Addr) (r : List Value) (kw : List (Str × Value)) : (Code.builtin "type.__call__" ⟨.ref C :: r, kw⟩).weight ≤ 2 := by
  unfold Code.weight
  rw [tc_frames]
  have h1 : (Code.builtin "type.__call__" ⟨.ref C :: r, kw⟩).isGuard = false := by show guardIds.contains "type.__call__" = false; decide
  have h2 : (Code.builtin "type.__call__" ⟨.ref C :: r, kw⟩).isCaller = false := rfl
  rw [h1, h2]
  split <;> decide
theorem tc_units (C : Addr) (r : List Value) (kw : List (Str × Value)) : (Code.builtin "type.__call__" ⟨.ref C :: r, kw⟩).cUnits ≤ 10 := by
  show 1 + 3 * (Code.builtin "type.__call__" ⟨.ref C :: r, kw⟩).frames ≤ 10
  rw [tc_frames]; decide
theorem pc_class (ok : cx.Ok) {k : Nat} (hn : k + 1 ≤ cx.n) {fI : Addr} {ps : List String} {mi : PM Fl} (hm : makesIn cx.K cx.C = true) (hi : findIn cx.K (.ref cx.C) "__init__" = some (some (.ref fI))) (hf : isFn cx.K (.ref fI) = true) (F : Fn cx k fI ps mi) :
    PC cx (.ref cx.C) (newInst mi ps) := by
  intro ρ hid st s x vs Vs hv v st' h
  unfold newInst at h
  obtain ⟨o, st1, e1, h0⟩ := bind_ok h
  clear h
  obtain ⟨r, st2, e2, h⟩ := bind_ok h0
  clear h0
  cases e1
  split at h
  · cases h
    obtain ⟨fz, led, m, mloc, x⟩ := x
    refine call_cls x.F ok.kin x.N hm hi hf fun a dx h' F' N' hlt hlt' => ?_
    have B1 := x.B.more (ob := dictOf [] 0) fun q hq => Nat.ne_of_lt (hlt q hq)
    have B2 := B1.more (a := a) (ob := instObj cx.C dx) fun q hq => by
      rcases List.mem_cons.mp hq with rfl | hq
      · exact Nat.ne_of_lt hlt'
      · exact Nat.ne_of_lt (Nat.lt_trans (hlt q hq) hlt')
    have hin : ∀ b, b ∈ led.map (·.1) → b < dx := fun b hb => by
      obtain ⟨q, hq, rfl⟩ := List.mem_map.mp hb
      exact hlt q hq
    have B3 := B2.enter (p := (a, dx)) (o := .inst []) (.head _) (.tail _ (.head _)) (fun q hq => by
        have := x.B.own q hq
        have h1 := hin _ this.1
        have h2 := hin _ this.2
        exact ⟨Nat.ne_of_gt (Nat.lt_trans h1 hlt'), Nat.ne_of_gt (Nat.lt_trans h2 hlt'), Nat.ne_of_gt h1, Nat.ne_of_gt h2⟩)
      (fun q hq => by have h1 := hlt q (x.B.hin q hq); exact ⟨Nat.ne_of_lt (Nat.lt_trans h1 hlt'), Nat.ne_of_lt h1⟩)
      (fun q hq => by have h1 := hlt q (x.B.fin q hq); exact ⟨Nat.ne_of_lt (Nat.lt_trans h1 hlt'), Nat.ne_of_lt h1⟩)
      (fun y c hc => by obtain ⟨o', v', g1, _⟩ := x.B.cel y c hc; have h1 := hlt _ g1; exact ⟨Nat.ne_of_gt (Nat.lt_trans h1 hlt'), Nat.ne_of_gt h1⟩)
      (fun hl => by
        rcases x.B.ln with q | ⟨_, o', es, ep, g2, _⟩
        · exact absurd q.1 hl
        · have h1 := hlt _ g2; exact ⟨Nat.ne_of_gt (Nat.lt_trans h1 hlt'), Nat.ne_of_gt h1⟩)
      ⟨[], 0, .nil, Nat.zero_le _, .head _, .tail _ (.head _)⟩
    have R3 : Rel cx (ρ ++ [(a, dx)]) hid { st with sto := st.sto ++ [.inst []] } { s with heap := h' } := ⟨fz, _, m, mloc, F', N', B3, x.gens, x.os, x.tk⟩
    have hp : ρ <+: ρ ++ [(a, dx)] := List.prefix_append _ _
    have hov : VR (ρ ++ [(a, dx)]) (.obj st.sto.length) (.ref a) := by
      have := VR.obj (alloc_get ρ (a, dx))
      rw [x.B.len] at this
      exact this
    have hd := ok.depth
    have hu := ok.units
    have hw := tc_weight cx.C Vs []
    have hcu := tc_units cx.C Vs []
    refine F.run _ (under_ok ok (tc_envs _) hw hcu (by omega)) (by show cx.A.depth + (Code.builtin "type.__call__" ⟨.ref cx.C :: Vs, []⟩).weight + 4 * k + 5 < _; omega) (by show cx.A.units + (Code.builtin "type.__call__" ⟨.ref cx.C :: Vs, []⟩).cUnits + 40 * k + 203 < _; omega) R3 (.cons hov (hv.mono hp)) e2 fun ρ' W s' p1 r1 v1 => ?_
    cases vr_none v1
    exact ⟨rfl, ρ', pre_trans hp p1, r1, hov.mono p1⟩
  · cases h
end
end Mine
namespace Mine
section
variable {cx : Cx}
/-- a callee whose keeper is known -/
def KeepOk (cx : Cx) (u : Value) : Prop := ∀ h, cx.K.In h → ∃ k, (k = Keeper.frame ∨ k = Keeper.machine ∨ k = Keeper.boundFrame) ∧ Looks cx.M h (keeperOf u) k
theorem keep_builtin {id : String} : KeepOk cx (.builtin id) := fun _ _ => ⟨.machine, .inr (.inl rfl), Looks.of_pure rfl⟩
theorem keep_type {T : String} : KeepOk cx (.type T) := fun _ _ => ⟨.machine, .inr (.inl rfl), Looks.of_pure rfl⟩
theorem keep_K {u : Value} (hk : keepIn cx.K u = true) : KeepOk cx u := fun h X => keeps_K hk h X
theorem evalArgs_of {M : Model} {A : Around} {E : Value → Shared → Prop} {s : Shared} {f : Value} {args : List (Bool × Sem Value)} {Q : Args → Shared → Prop} (hplain : args.any (·.1) = false)
    (h : wpAny M A (spliced args) (fun vs s' => Q ⟨vs, []⟩ s') E s) : wpAny M A (evalArgs f true args []) Q E s := by
  cases args with
  | nil =>
    unfold evalArgs
    show wpAny M A (spliced [] >>= _) Q E s
    refine wpAny_bind (wpAny_mono h (fun vs s' h' => wpAny_bind (wpAny_pure (wpAny_holding ?_))) fun _ _ x => x)
    exact wpAny_bind (wpAny_pure (wpAny_bind (wpAny_pure (wpAny_pure h'))))
  | cons a r =>
    obtain ⟨b, t⟩ := a
    rw [List.any_cons, Bool.or_eq_false_iff] at hplain
    obtain ⟨rfl, _⟩ := hplain
    exact evalArgs_plain h
theorem call_with (ok : cx.Ok) {u : Value} {pos : Pos} {es : List Expr} {ma : PM (List V)} {f : List V → PM V} {first : List V} {First : List Value} (ha : SimL cx pos es ma) (hk : KeepOk cx u) (hp : PC cx u f) (hplain : (backTo pos (starEach es cx.env)).any (·.1) = false)
    {ρ : Map} {hid : Hd} {st st1 st' : St} {s : Shared} (x : Rel cx ρ hid st s) (hf : VRs ρ first First) {vs : List V} {v : V} (e1 : ma st = .ok vs st1) (e2 : f (first ++ vs) st1 = .ok v st') :
    wpAny cx.M cx.A (callWith pos u First (backTo pos (starEach es cx.env)) []) (fun V s' => ∃ ρ', ρ <+: ρ' ∧ Rel cx ρ' hid st' s' ∧ VR ρ' v V) (fun _ _ => False) s := by
  refine callWith_of (P := cx.K.In) (by rw [hplain]; rfl) hk (evalArgs_of hplain (wp_seq (ha ρ hid st s x vs st1 e1) fun Vs s1 ρ1 p1 r1 v1 => ⟨?_, wp_seq (hp ρ1 hid st1 s1 r1 _ _ (vrs_append (hf.mono p1) v1) v st' e2) fun W s2 ρ2 p2 r2 v2 => ⟨ρ2, pre_trans p1 p2, r2, v2⟩⟩))
  obtain ⟨fz, led, m, mloc, r⟩ := r1
  exact ok.kin.keeps r.F.keep
/-- a call by a name -/
theorem sim_Call (ok : cx.Ok) {func : Expr} {es : List Expr} {pos : Pos} {u : Value} {ma : PM (List V)} {f : List V → PM V} (hf : SimV cx (eval func cx.env) (PM.pure (.glob u))) (ha : SimL cx pos es ma) (hk : KeepOk cx u) (hp : PC cx u f)
    (hplain : (backTo pos (starEach es cx.env)).any (·.1) = false) (he : eval (.Call func es [] pos) cx.env = (eval func cx.env >>= fun fv => callWith pos fv [] (backTo pos (starEach es cx.env)) [])) :
    SimV cx (eval (.Call func es [] pos) cx.env) (PM.bind ma f) := by
  intro ρ hid st s x v st' h
  obtain ⟨vs, st1, e1, h⟩ := bind_ok h
  rw [he]
  refine wpAny_bind (wp_seq (hf ρ hid st s x (.glob u) st rfl) fun U s1 ρ1 p1 r1 v1 => ?_)
  cases vr_glob v1
  exact wp_seq (call_with ok ha hk hp hplain r1 (first := []) .nil e1 h) fun W s2 ρ2 p2 r2 v2 => ⟨ρ2, pre_trans p1 p2, r2, v2⟩
/-- a method of a list, a text, a dict -/
def isList : V → PM Unit
  | .obj i => fun st => match st.sto[i]? with
    | some (.list _) => .ok () st
    | _ => .fail
  | _ => PM.fail
def isStr : V → PM Unit
  | .str _ => PM.pure ()
  | _ => PM.fail
abbrev MethForm (cx : Cx) (o : Expr) (name : Str) (apos pos : Pos) (es : List Expr) (pl : Sem Bool) : Prop := eval (.Call (.Attribute o name apos) es [] pos) cx.env = (do
      let ov ← eval o cx.env
      standAt apos.atName
      let (f, first) ← holding [ov] (getMethod ov name pl)
      callWith pos f first (backTo pos (starEach es cx.env)) [])
theorem sim_MethL (ok : cx.Ok) {o : Expr} {name : Str} {bid : String} {apos pos : Pos} {es : List Expr} {pl : Sem Bool} {mo : PM V} {ma : PM (List V)} {f : List V → PM V} (slot : Slot "list" name bid) (hty : typeOf (.builtin bid) = pure (.type "method_descriptor"))
    (hp : PC cx (.builtin bid) f) (ho : SimV cx (eval o cx.env) mo) (ha : SimL cx pos es ma) (hplain : (backTo pos (starEach es cx.env)).any (·.1) = false) (he : MethForm cx o name apos pos es pl) :
    SimV cx (eval (.Call (.Attribute o name apos) es [] pos) cx.env) (PM.bind mo fun v => PM.bind (isList v) fun _ => PM.bind ma fun vs => f (v :: vs)) := by
  intro ρ hid st s x v st' h
  obtain ⟨a, st1, e1, h1⟩ := bind_ok h
  obtain ⟨u, st2, e2, h2⟩ := bind_ok h1
  obtain ⟨vs, st3, e3, h3⟩ := bind_ok h2
  clear h h1 h2
  refine MethodCall_ (wp_seq (ho ρ hid st s x a st1 e1) fun A s1 ρ1 p1 r1 v1 => ?_) he
  unfold isList at e2
  split at e2
  · rename_i i
    obtain ⟨p, hp', rfl⟩ := vr_obj v1
    split at e2
    · rename_i xs hi
      cases e2
      obtain ⟨fz, led, m, mloc, r'⟩ := id r1
      obtain ⟨Xs, n, g1, g2⟩ := r'.list_at hi hp'
      exact kl_method r'.N g2 slot hty (wp_seq (call_with ok ha keep_builtin hp hplain r1 (first := [_]) (.cons v1 .nil) e3 h3) fun W s2 ρ2 p2 r2 v2 => ⟨ρ2, pre_trans p1 p2, r2, v2⟩)
    · cases e2
  · cases e2
set_option maxRecDepth 100000 in
theorem sim_MethS (ok : cx.Ok) {o : Expr} {name : Str} {bid : String} {apos pos : Pos} {es : List Expr} {pl : Sem Bool} {mo : PM V} {ma : PM (List V)} {f : List V → PM V} (slot : Slot "str" name bid) (hty : typeOf (.builtin bid) = pure (.type "method_descriptor"))
    (hp : PC cx (.builtin bid) f) (ho : SimV cx (eval o cx.env) mo) (ha : SimL cx pos es ma) (hplain : (backTo pos (starEach es cx.env)).any (·.1) = false) (he : MethForm cx o name apos pos es pl) :
    SimV cx (eval (.Call (.Attribute o name apos) es [] pos) cx.env) (PM.bind mo fun v => PM.bind (isStr v) fun _ => PM.bind ma fun vs => f (v :: vs)) := by
  intro ρ hid st s x v st' h
  obtain ⟨a, st1, e1, h1⟩ := bind_ok h
  obtain ⟨u, st2, e2, h2⟩ := bind_ok h1
  obtain ⟨vs, st3, e3, h3⟩ := bind_ok h2
  clear h h1 h2
  refine MethodCall_ (wp_seq (ho ρ hid st s x a st1 e1) fun A s1 ρ1 p1 r1 v1 => ?_) he
  unfold isStr at e2
  split at e2
  · cases e2
    obtain ⟨t, rfl⟩ := vr_str v1
    exact getMethod_builtin (typeIs_str _ _ _) PySem.F.plainAttrs_str slot hty (fun a e => by cases e) (wp_seq (call_with ok ha keep_builtin hp hplain r1 (first := [_]) (.cons v1 .nil) e3 h3) fun W s2 ρ2 p2 r2 v2 => ⟨ρ2, pre_trans p1 p2, r2, v2⟩)
  · cases e2
/-- a call whose value is dropped -/
theorem sim_Expr {e : Expr} {pos : Pos} {m : PM V} (h : SimV cx (eval e cx.env) m) (hi : interactive cx.env = false) (hs : swapsWith e none pos.line cx.env = pure false)
    (hd : ∀ v, dropValue e pos v = (match v with | .ref _ => (do standAt pos; let _ ← runValue (.builtin "proto.let_go" {}); pure .next) | _ => pure .next)) :
    SimS cx (.Expr e pos) (PM.bind m fun v => match v with | .obj _ => PM.fail | .glob _ => PM.fail | _ => PM.pure .next) := by
  intro ρ hid st s x v st' e0
  obtain ⟨a, st1, e1, e⟩ := bind_ok e0
  rw [exec_Expr cx.env _ pos hi hs]
  refine wpAny_bind (wpAny_standAt (wpAny_bind (wp_seq (h ρ hid st s x a st1 e1) fun A s1 ρ1 p1 r1 v1 => ?_)))
  rw [hd]
  cases v1 with
  | obj _ => cases e
  | glob _ => cases e
  | none => cases e; exact wpAny_pure ⟨ρ1, p1, r1, .next⟩
  | bool _ => cases e; exact wpAny_pure ⟨ρ1, p1, r1, .next⟩
  | int _ _ => cases e; exact wpAny_pure ⟨ρ1, p1, r1, .next⟩
  | str _ _ _ => cases e; exact wpAny_pure ⟨ρ1, p1, r1, .next⟩
  | byt _ _ => cases e; exact wpAny_pure ⟨ρ1, p1, r1, .next⟩
end
end Mine
namespace Mine
abbrev Hd.cons (q : Addr × Obj) (hid : Hd) : Hd := ⟨q :: hid.h, hid.z⟩
section
variable {cx : Cx} {ρ : Map} {hid : Hd} {st : St} {s : Shared}
theorem Fr.extBut {h₀ h h' : Heap} {L d : Addr} {m : Str → Option Value} (F : Fr h₀ L h m) (hs : ∀ b o, b ≠ d → h.get? b = some o → h'.get? b = some o) (hd : d ≠ L) (hn : h₀.get? d = none) : Fr h₀ L h' m :=
  ⟨F.ns.extBut hs (Ne.symm hd), fun b o e => hs b o (fun q => by rw [q, hn] at e; cases e) (F.keep b o e), F.above⟩
/-- a hidden object is forgotten -/
theorem Rel.less {q : Addr × Obj} (x : Rel cx ρ (hid.cons q) st s) : Rel cx ρ hid st s := by
  obtain ⟨fz, led, m, mloc, x⟩ := x
  refine ⟨fz, led, m, mloc, x.F, x.N, ?_, x.gens, x.os, x.tk⟩
  have B := x.B
  refine ⟨B.nd, B.cm, ?_, B.len, B.own, B.obj, B.sep, fun r hr => B.hin r (.tail _ hr), fun r hr => B.hsep r (.tail _ hr), B.cel, fun y c hc => ⟨fun r hr => (B.csep y c hc).1 r (.tail _ hr), (B.csep y c hc).2⟩, B.fin, B.fz0, fun r hr => B.hfz r (.tail _ hr), B.fsep, B.fcel, B.loc⟩
  rcases B.ln with h | ⟨g1, o, es, ep, g2, g3, g4, g5, g6, g7, g8, g9⟩
  · exact .inl h
  · exact .inr ⟨g1, o, es, ep, g2, g3, g4, g5, g6, fun r hr => g7 r (.tail _ hr), g8, g9⟩
/-- a new hidden object -/
theorem Rel.hide (x : Rel cx ρ hid st s) {ob : Obj} {tk : Nat} (hf : ob.isFreed = false) (htk : 0 < tk := by first | assumption | exact Nat.succ_pos _ | exact Rel.pos (by assumption) | exact RelD.tk (by assumption)) : Rel cx ρ (hid.cons (s.heap.objs.size, ob)) st { s with heap := s.heap.push ob, toks := tk } ∧ ∀ q ∈ hid.h, q.1 ≠ s.heap.objs.size := by
  obtain ⟨fz, led, m, mloc, x⟩ := x
  have hfr := news_fresh x.N
  have B := x.B.more (ob := ob) hfr
  refine ⟨⟨fz, _, m, mloc, x.F.push ob, x.N.push x.F ob hf, ?_, x.gens, x.os, htk⟩, fun q hq => hfr q (x.B.hin q hq)⟩
  have own : ∀ p ∈ ρ, s.heap.objs.size ≠ p.1 ∧ s.heap.objs.size ≠ p.2 := fun p hp => by
    obtain ⟨q, hq, e⟩ := List.mem_map.mp (x.B.own p hp).1
    obtain ⟨q', hq', e'⟩ := List.mem_map.mp (x.B.own p hp).2
    exact ⟨fun z => hfr q hq (e.trans z.symm), fun z => hfr q' hq' (e'.trans z.symm)⟩
  refine ⟨B.nd, B.cm, ?_, B.len, B.own, B.obj, B.sep, fun r hr => ?_, fun r hr => ?_, B.cel, fun y c hc => ⟨fun r hr => ?_, (B.csep y c hc).2⟩, B.fin, B.fz0, fun r hr => ?_, B.fsep, B.fcel, B.loc⟩
  · rcases B.ln with h | ⟨g1, o, es, ep, g2, g3, g4, g5, g6, g7, g8, g9⟩
    · exact .inl h
    · refine .inr ⟨g1, o, es, ep, g2, g3, g4, g5, g6, fun r hr => ?_, g8, g9⟩
      rcases List.mem_cons.mp hr with rfl | hr
      · rcases x.B.ln with h | ⟨_, o', _, _, k2, _⟩
        · exact absurd h.1 g1
        · exact Ne.symm (hfr _ k2)
      · exact g7 r hr
  · rcases List.mem_cons.mp hr with rfl | hr
    · exact .head _
    · exact B.hin r hr
  · rcases List.mem_cons.mp hr with rfl | hr
    · exact own
    · exact B.hsep r hr
  · rcases List.mem_cons.mp hr with rfl | hr
    · obtain ⟨o, v, k1, _⟩ := x.B.cel y c hc
      exact Ne.symm (hfr _ k1)
    · exact (B.csep y c hc).1 r hr
  · rcases List.mem_cons.mp hr with rfl | hr
    · exact fun r' hr' => hfr r' (x.B.fin r' hr')
    · exact B.hfz r hr
/-- a hidden object turns -/
theorem Rel.turn {I : Addr} {o o' : Obj} {h' : Heap} {tk : Nat} (x : Rel cx ρ (hid.cons (I, o)) st s) (hI : ∀ q ∈ hid.h, q.1 ≠ I) (hk : ∀ b ob, b ≠ I → s.heap.get? b = some ob → h'.get? b = some ob) (ho : h'.get? I = some o') (htk : 0 < tk := by first | assumption | exact Nat.succ_pos _ | exact Rel.pos (by assumption) | exact RelD.tk (by assumption)) :
    Rel cx ρ (hid.cons (I, o')) st { s with heap := h', toks := tk } := by
  obtain ⟨fz, led, m, mloc, x⟩ := x
  have B := x.B
  have hm : (I, o) ∈ led := B.hin _ (.head _)
  have hg := x.N _ hm
  have own : ∀ p ∈ ρ, I ≠ p.1 ∧ I ≠ p.2 := B.hsep _ (.head _)
  have N' : News cx.h₀ cx.L h' (updL I o' led) := fun q hq => by
    obtain ⟨p, hp, e⟩ := List.mem_map.mp hq
    by_cases hd : p.1 = I
    · rw [if_pos hd] at e; subst e; exact ⟨ho, hg.2.1, hg.2.2⟩
    · rw [if_neg hd] at e; subst e; have := x.N _ hp; exact ⟨hk _ _ hd this.1, this.2⟩
  refine ⟨fz, updL I o' led, m, mloc, Fr.extBut x.F hk hg.2.1 hg.2.2, N', ?_, x.gens, x.os, htk⟩
  have cne : ∀ y c, cx.env.cells.lookup y = some c → c ≠ I := fun y c hc => Ne.symm ((B.csep y c hc).1 _ (.head _))
  refine ⟨by rw [updL_fst]; exact B.nd, B.cm, ?_, B.len, fun p hp => by rw [updL_fst]; exact B.own p hp, fun i ob p h1 h2 => ?_, B.sep, fun r hr => ?_, fun r hr => ?_, fun y c hc => ?_, fun y c hc => ⟨fun r hr => ?_, (B.csep y c hc).2⟩, fun r hr => ?_, B.fz0, fun r hr => ?_, B.fsep, B.fcel, fun n v hv => ?_⟩
  · rcases B.ln with h | ⟨g1, ob, es, ep, g2, g3, g4, g5, g6, g7, g8, g9⟩
    · exact .inl h
    · refine .inr ⟨g1, ob, es, ep, mem_updL_ne g2 fun e => g7 _ (.head _) e.symm, g3, g4, g5, g6, fun r hr => ?_, g8, g9⟩
      rcases List.mem_cons.mp hr with rfl | hr
      · exact g7 (I, o) (.head _)
      · exact g7 r (.tail _ hr)
  · refine (B.obj i ob p h1 h2).mono (pre_refl _) (fun _ h => h) fun b ob' hb hbp => mem_updL_ne hb fun e => ?_
    have := own p (mem_of_get h2)
    rcases hbp with rfl | rfl
    · exact this.1 e.symm
    · exact this.2 e.symm
  · rcases List.mem_cons.mp hr with rfl | hr
    · exact mem_updL_self hm
    · exact mem_updL_ne (B.hin r (.tail _ hr)) (hI r hr)
  · rcases List.mem_cons.mp hr with rfl | hr
    · exact own
    · exact B.hsep r (.tail _ hr)
  · obtain ⟨ob, v, h1, h2⟩ := B.cel y c hc
    exact ⟨ob, v, mem_updL_ne h1 (cne y c hc), h2⟩
  · rcases List.mem_cons.mp hr with rfl | hr
    · exact Ne.symm (cne y c hc)
    · exact (B.csep y c hc).1 r (.tail _ hr)
  · exact mem_updL_ne (B.fin r hr) (B.hfz (I, o) (.head _) r hr)
  · rcases List.mem_cons.mp hr with rfl | hr
    · exact B.hfz (I, o) (.head _)
    · exact B.hfz r (.tail _ hr)
  · obtain ⟨W, h1, h2⟩ := B.loc n v hv
    exact ⟨W, h1, h2.mono fun c ob hc hb => mem_updL_ne hb (cne _ c hc)⟩
theorem Bear.drop {fz led : Led} {m mloc : Str → Option Value} {I : Addr} {o : Obj} (B : Bear cx ρ (hid.cons (I, o)) fz led m mloc st) (hI : ∀ q ∈ hid.h, q.1 ≠ I) : Bear cx ρ hid fz (led.filter fun q => decide (q.1 ≠ I)) m mloc st := by
  have own : ∀ p ∈ ρ, I ≠ p.1 ∧ I ≠ p.2 := B.hsep _ (.head _)
  have cne : ∀ y c, cx.env.cells.lookup y = some c → c ≠ I := fun y c hc => Ne.symm ((B.csep y c hc).1 _ (.head _))
  have mf : ∀ {q : Addr × Obj}, q ∈ led → q.1 ≠ I → q ∈ led.filter (fun q => decide (q.1 ≠ I)) := fun hq hne => List.mem_filter.mpr ⟨hq, decide_eq_true hne⟩
  have mfa : ∀ {b : Addr}, b ∈ led.map (·.1) → b ≠ I → b ∈ (led.filter (fun q => decide (q.1 ≠ I))).map (·.1) := fun {b} hb hne => by
    obtain ⟨q, hq, rfl⟩ := List.mem_map.mp hb
    exact List.mem_map_of_mem (mf hq hne)
  refine ⟨B.nd.sublist (List.filter_sublist.map _), B.cm, ?_, B.len, fun p hp => ⟨mfa (B.own p hp).1 (Ne.symm (own p hp).1), mfa (B.own p hp).2 (Ne.symm (own p hp).2)⟩, fun i ob p h1 h2 => ?_, B.sep, fun r hr => mf (B.hin r (.tail _ hr)) (hI r hr), fun r hr => B.hsep r (.tail _ hr), fun y c hc => ?_, fun y c hc => ⟨fun r hr => (B.csep y c hc).1 r (.tail _ hr), (B.csep y c hc).2⟩, fun r hr => mf (B.fin r hr) (B.hfz (I, o) (.head _) r hr), B.fz0, fun r hr => B.hfz r (.tail _ hr), B.fsep, B.fcel, fun n v hv => ?_⟩
  · rcases B.ln with h | ⟨g1, ob, es, ep, g2, g3, g4, g5, g6, g7, g8, g9⟩
    · exact .inl h
    · exact .inr ⟨g1, ob, es, ep, mf g2 fun e => g7 _ (.head _) e.symm, g3, g4, g5, g6, fun r hr => g7 r (.tail _ hr), g8, g9⟩
  · refine (B.obj i ob p h1 h2).mono (pre_refl _) (fun _ h => h) fun b ob' hb hbp => mf hb ?_
    have := own p (mem_of_get h2)
    rcases hbp with rfl | rfl
    · exact Ne.symm this.1
    · exact Ne.symm this.2
  · obtain ⟨ob, v, h1, h2⟩ := B.cel y c hc
    exact ⟨ob, v, mf h1 (cne y c hc), h2⟩
  · obtain ⟨W, h1, h2⟩ := B.loc n v hv
    exact ⟨W, h1, h2.mono fun c ob hc hb => mf hb (cne _ c hc)⟩
/-- a hidden object is dropped, whatever becomes of it -/
theorem Rel.dropI {I : Addr} {o : Obj} {h' : Heap} {tk : Nat} (x : Rel cx ρ (hid.cons (I, o)) st s) (hI : ∀ q ∈ hid.h, q.1 ≠ I) (hk : ∀ b ob, b ≠ I → s.heap.get? b = some ob → h'.get? b = some ob) (htk : 0 < tk := by first | assumption | exact Nat.succ_pos _ | exact Rel.pos (by assumption) | exact RelD.tk (by assumption)) :
    Rel cx ρ hid st { s with heap := h', toks := tk } := by
  obtain ⟨fz, led, m, mloc, x⟩ := x
  have hg := x.N _ (x.B.hin _ (.head _))
  refine ⟨fz, led.filter fun q => decide (q.1 ≠ I), m, mloc, Fr.extBut x.F hk hg.2.1 hg.2.2, fun q hq => ?_, x.B.drop hI, x.gens, x.os, htk⟩
  obtain ⟨h1, h2⟩ := List.mem_filter.mp hq
  have := x.N q h1
  exact ⟨hk _ _ (of_decide_eq_true h2) this.1, this.2⟩
/-- a hidden list enters the store -/
theorem Rel.enterH {D : Addr} {Ys : List Value} {ys : List V} {k : Nat} (x : Rel cx ρ (hid.cons (D, listObj Ys k)) st s) (hD : ∀ q ∈ hid.h, q.1 ≠ D) (hv : VRs ρ ys Ys) :
    Rel cx (ρ ++ [(D, D)]) hid { st with sto := st.sto ++ [.list ys] } s ∧ VR (ρ ++ [(D, D)]) (.obj st.sto.length) (.ref D) := by
  obtain ⟨fz, led, m, mloc, x'⟩ := id x
  have B := x'.B
  have hm := B.hin _ (.head _)
  have hma : D ∈ led.map (·.1) := List.mem_map_of_mem hm
  obtain ⟨fz1, led1, m1, mloc1, y⟩ := x.less
  refine ⟨?_, ?_⟩
  · have B0 : Bear cx ρ hid fz led m mloc st := by
      refine ⟨B.nd, B.cm, ?_, B.len, B.own, B.obj, B.sep, fun r hr => B.hin r (.tail _ hr), fun r hr => B.hsep r (.tail _ hr), B.cel, fun y c hc => ⟨fun r hr => (B.csep y c hc).1 r (.tail _ hr), (B.csep y c hc).2⟩, B.fin, B.fz0, fun r hr => B.hfz r (.tail _ hr), B.fsep, B.fcel, B.loc⟩
      rcases B.ln with h | ⟨g1, o, es, ep, g2, g3, g4, g5, g6, g7, g8, g9⟩
      · exact .inl h
      · exact .inr ⟨g1, o, es, ep, g2, g3, g4, g5, g6, fun r hr => g7 r (.tail _ hr), g8, g9⟩
    have own := B.hsep _ (.head _)
    refine ⟨fz, led, m, mloc, x'.F, x'.N, B0.enter (p := (D, D)) hma hma (fun q hq => ⟨(own q hq).1, (own q hq).2, (own q hq).1, (own q hq).2⟩) (fun q hq => ⟨hD q hq, hD q hq⟩) (fun q hq => ⟨B.hfz _ (.head _) q hq, B.hfz _ (.head _) q hq⟩) (fun y c hc => ?_) (fun hl => ?_) ⟨Ys, k, hv.mono (List.prefix_append _ _), hm⟩, x'.gens, x'.os, x'.tk⟩
    · have := (B.csep y c hc).1 _ (.head _)
      exact ⟨this, this⟩
    · rcases B.ln with h | ⟨g1, o, es, ep, g2, g3, g4, g5, g6, g7, g8, g9⟩
      · exact absurd h.1 hl
      · have := g7 _ (.head _)
        exact ⟨this, this⟩
  · have := VR.obj (alloc_get ρ (D, D))
    rw [x'.B.len] at this
    exact this
end
end Mine
namespace Mine
/-- where a loop's items come from: an object that must stand as it is, or nothing -/
abbrev Src := Option (Nat × O)
open Classical in
noncomputable def chk (src : Src) : PM Unit := fun st => match src with
  | none => .ok () st
  | some p => if st.sto[p.1]? = some p.2 then .ok () st else .fail
theorem chk_ok {src : Src} {st st' : St} (h : chk src st = .ok () st') : st' = st ∧ ∀ p, src = some p → st.sto[p.1]? = some p.2 := by
  unfold chk at h
  split at h
  · cases h; exact ⟨rfl, fun p e => by cases e⟩
  · rename_i p
    split at h
    · rename_i e; cases h; exact ⟨rfl, fun q hq => by cases hq; exact e⟩
    · cases h
theorem chk_some {j : Nat} {o : O} {st : St} (h : st.sto[j]? = some o) : chk (some (j, o)) st = .ok () st := by
  unfold chk
  exact if_pos h
/-- the ints of a range -/
def rangeInts (a b c : Int) : List Int := (List.range (if a < b then ((b - a - 1) / c + 1).toNat else 0)).map fun i : Nat => a + (i : Int) * c
def iterOf : V → PM (Src × List V)
  | .obj i => fun st => match st.sto[i]? with
    | some (.list xs) => .ok (some (i, .list xs), xs) st
    | some (.tuple xs) => .ok (some (i, .tuple xs), xs) st
    | some (.range a b c) => if -1000000000 ≤ a ∧ a ≤ 1000000000 ∧ -1000000000 ≤ b ∧ b ≤ 1000000000 ∧ 0 < c ∧ c ≤ 1000000000 then .ok (none, (rangeInts a b c).map V.int) st else .fail
    | _ => .fail
  | .str l => fun st => .ok (none, l.map fun c => .str [c]) st
  | _ => PM.fail
noncomputable def loopF (src : Src) (body : V → PM Fl) : List V → PM Fl
  | [] => PM.bind (chk src) fun _ => PM.pure .next
  | x :: r => PM.bind (chk src) fun _ => PM.bind (body x) fun f => match f with
    | .next => loopF src body r
    | .cont => loopF src body r
    | .brk => PM.pure .next
    | .ret v => PM.pure (.ret v)
structure Iter (cx : Cx) (ρ₀ : Map) (src : Src) (xs : List V) (I : Addr) (At : Nat → Heap → Prop) : Prop where
  frame : ∀ i h h', At i h → (∀ o, h.get? I = some o → h'.get? I = some o) → At i h'
  there : ∀ i h, At i h → ∃ o, h.get? I = some o
  next : ∀ i x ρ hid st s, xs[i]? = some x → At i s.heap → ρ₀ <+: ρ → Rel cx ρ hid st s → (∀ p, src = some p → st.sto[p.1]? = some p.2) → ∀ (A : Around) (Q : Option Value → Shared → Prop) (E : Value → Shared → Prop),
    (∀ W h' tk, VR ρ x W → At (i + 1) h' → (∀ b o, b ≠ I → s.heap.get? b = some o → h'.get? b = some o) → Q (some W) { s with heap := h', toks := tk }) → wpAny cx.M A (pyNext (.ref I)) Q E s
  done : ∀ ρ hid st s, At xs.length s.heap → ρ₀ <+: ρ → Rel cx ρ hid st s → (∀ p, src = some p → st.sto[p.1]? = some p.2) → ∀ (A : Around) (Q : Option Value → Shared → Prop) (E : Value → Shared → Prop), A.handled = none →
    (∀ h' tk, (∀ b o, b ≠ I → s.heap.get? b = some o → h'.get? b = some o) → Q none { s with heap := h', toks := tk }) → wpAny cx.M A (pyNext (.ref I)) Q E s
  self : ∀ i s, At i s.heap → ∀ (A : Around) (Q : Value → Shared → Prop) (E : Value → Shared → Prop), Q (.ref I) s → wpAny cx.M A (pyIter (.ref I)) Q E s
  go : ∀ i s, At i s.heap → ∀ (A : Around) (target : Expr) (W : Value) (Q : Unit → Shared → Prop) (E : Value → Shared → Prop), Q () s → wpAny cx.M A (letOwnedTupleGo target (.ref I) W) Q E s
theorem go_plain {M : Model} {A : Around} {s : Shared} {I : Addr} {o : Obj} {n : String} (ho : s.heap.get? I = some o) (hc : o.cls = .type n)
    (hn : ["enumerate", "zip", "dict_itemiterator", "dict_reverseitemiterator", "odict_iterator", "itertools.zip_longest", "itertools.pairwise"].contains n = false) (target : Expr) (W : Value) (Q : Unit → Shared → Prop) (E : Value → Shared → Prop) (hq : Q () s) :
    wpAny M A (letOwnedTupleGo target (.ref I) W) Q E s := by
  unfold letOwnedTupleGo
  have key : ∀ vs : Data, wpAny M A (match o.cls, vs with
      | .type n, .fields vs => (if (["enumerate", "zip", "dict_itemiterator", "dict_reverseitemiterator", "odict_iterator", "itertools.zip_longest", "itertools.pairwise"].contains n && vs[0]? == some W) = true then (do rule "for.unpacks-the-owned-tuple"; updateField I 0 .none) else pure ())
      | _, _ => pure ()) Q E s := fun vs => by
    rw [hc]
    cases vs <;> first | exact wpAny_pure hq | (dsimp only; rw [hn]; exact wpAny_pure hq)
  split <;> first
    | exact wpAny_pure hq
    | (cases W <;> first
        | exact wpAny_pure hq
        | (refine wpAny_bind (wpAny_load ho ?_)
           rw [hc]
           split <;> first
             | exact wpAny_pure hq
             | (rename_i h1 h2; cases h1; rw [hn, Bool.false_and]; exact wpAny_pure hq)))
section
variable {cx : Cx}
theorem iter_list {j : Nat} {xs : List V} {I : Addr} {ρ₀ : Map} {p : Addr × Addr} (hp₀ : ρ₀[j]? = some p) :
    Iter cx ρ₀ (some (j, .list xs)) xs I (fun i h => h.IsListIter I p.1 i) where
  frame := fun i h h' x k => x.at fun o e => k o e
  there := fun i h ⟨o, ho, _⟩ => ⟨o, ho⟩
  next := by
    intro i x ρ hid st s hx hit hpre r hs A Q E k
    have hj := hs _ rfl
    have hp := get_mono hpre hp₀
    obtain ⟨fz, led, m, mloc, r⟩ := r
    obtain ⟨Xs, n, g1, g2⟩ := r.list_at hj hp
    obtain ⟨W, w1, w2⟩ := vrs_get g1 hx
    exact wpAny_pyNext_list_item hit ⟨_, (r.N _ g2).1, rfl, _, rfl⟩ (by simpa using w1) fun h' hit' hs' => k W h' s.toks w2 hit' fun b o hb e => (hs'.2 b hb).trans e
  done := by
    intro ρ hid st s hit hpre r hs A Q E hh k
    have hj := hs _ rfl
    have hp := get_mono hpre hp₀
    obtain ⟨fz, led, m, mloc, r⟩ := r
    obtain ⟨Xs, n, g1, g2⟩ := r.list_at hj hp
    exact wpAny_pyNext_list_end hh hit ⟨_, (r.N _ g2).1, rfl, _, rfl⟩ (by rw [List.getElem?_toArray]; exact List.getElem?_eq_none (by rw [g1.length]; exact Nat.le_refl _)) fun h' hs' => k h' s.toks fun b o hb e => hs' b o hb e
  self := fun i s hit A Q E hq => wpAny_pyIter_listiter hit hq
  go := fun i s hit A target W Q E hq => by
    obtain ⟨o, ho, hc, hd⟩ := hit
    exact go_plain ho hc (by decide) target W Q E hq
theorem iter_tuple {j : Nat} {xs : List V} {I : Addr} {ρ₀ : Map} {p : Addr × Addr} (hp₀ : ρ₀[j]? = some p) :
    Iter cx ρ₀ (some (j, .tuple xs)) xs I (fun i h => h.IsTupleIter I p.1 i) where
  frame := fun i h h' ⟨o, ho, hr⟩ k => ⟨o, k o ho, hr⟩
  there := fun i h ⟨o, ho, _⟩ => ⟨o, ho⟩
  next := by
    intro i x ρ hid st s hx hit hpre r hs A Q E k
    have hj := hs _ rfl
    have hp := get_mono hpre hp₀
    obtain ⟨fz, led, m, mloc, r⟩ := r
    obtain ⟨Xs, n, g1, g2⟩ := r.tuple_at hj hp
    obtain ⟨W, w1, w2⟩ := vrs_get g1 hx
    exact wpAny_pyNext_tuple_item hit ⟨_, (r.N _ g2).1, rfl, _, rfl⟩ (by simpa using w1) fun h' hit' hs' => k W h' s.toks w2 hit' fun b o hb e => (hs'.2 b hb).trans e
  done := by
    intro ρ hid st s hit hpre r hs A Q E hh k
    have hj := hs _ rfl
    have hp := get_mono hpre hp₀
    obtain ⟨fz, led, m, mloc, r⟩ := r
    obtain ⟨Xs, n, g1, g2⟩ := r.tuple_at hj hp
    exact wpAny_pyNext_tuple_end hh hit ⟨_, (r.N _ g2).1, rfl, _, rfl⟩ (by rw [List.getElem?_toArray]; exact List.getElem?_eq_none (by rw [g1.length]; exact Nat.le_refl _)) fun h' hs' => k h' s.toks fun b o hb e => hs' b o hb e
  self := fun i s hit A Q E hq => wpAny_pyIter_tupleiter hit hq
  go := fun i s hit A target W Q E hq => by
    obtain ⟨o, ho, hc, hd⟩ := hit
    exact go_plain ho hc (by decide) target W Q E hq
theorem iter_range {ρ₀ : Map} {a c : Int} {n : Nat} {I : Addr} (xs : List V) (hxs : xs = ((List.range n).map fun i : Nat => V.int (a + (i : Int) * c))) :
    Iter cx ρ₀ none xs I (fun i h => IsRangeIter h I (a + (i : Nat) * c) ((n : Int) - (i : Nat)) c) where
  frame := fun i h h' x k => k _ x
  there := fun i h x => ⟨_, x⟩
  next := by
    intro i x ρ hid st s hx hit hpre r hs A Q E k
    subst hxs
    have hi : i < n := by
      rcases Nat.lt_or_ge i n with h | h
      · exact h
      · rw [List.getElem?_eq_none (by simpa using h)] at hx; cases hx
    have hxe : x = .int (a + (i : Int) * c) := by
      rw [List.getElem?_map, List.getElem?_range hi] at hx
      exact (Option.some.inj hx).symm
    subst hxe
    refine wpAny_pyNext_range_item hit (by omega) fun h' hit' hs' => k _ h' _ (.int _ _) ?_ fun b o hb e => (hs'.2 b hb).trans e
    have e1 : a + (i : Int) * c + c = a + ((i + 1 : Nat) : Int) * c := by push_cast; rw [Int.add_mul]; omega
    have e2 : (n : Int) - (i : Nat) - 1 = (n : Int) - ((i + 1 : Nat) : Int) := by push_cast; omega
    rw [e1, e2] at hit'
    exact hit'
  done := by
    intro ρ hid st s hit hpre r hs A Q E hh k
    subst hxs
    refine wpAny_pyNext_range_end hh hit (by simp) fun h' hs' => k h' s.toks fun b o hb e => hs' b o hb e
  self := fun i s hit A Q E hq => wpAny_pyIter_rangeiter hit hq
  go := fun i s hit A target W Q E hq => go_plain hit rfl (by decide) target W Q E hq
theorem iter_str {ρ₀ : Map} {l : List Nat} (hl : okS l) {I : Addr} {cls : String} {t : Tok} (hcl : cls = "str_ascii_iterator" ∨ cls = "str_iterator") :
    Iter cx ρ₀ none (l.map fun c => V.str [c]) I (fun i h => h.IsStrIter I cls ⟨l.toArray⟩ t i) where
  frame := fun i h h' ⟨o, ho, hr⟩ k => ⟨o, k o ho, hr⟩
  there := fun i h ⟨o, ho, _⟩ => ⟨o, ho⟩
  next := by
    intro i x ρ hid st s hx hit hpre r hs A Q E k
    rw [List.getElem?_map] at hx
    obtain ⟨c, hc, rfl⟩ := Option.map_eq_some_iff.mp hx
    have hoc : okS [c] := fun d hd => by rw [List.mem_singleton.mp hd]; exact hl c (List.mem_of_getElem? hc)
    have hc' : (⟨l.toArray⟩ : Str).cps[i]? = some c := by simpa using hc
    rcases hcl with rfl | rfl
    · exact wpAny_pyNext_ascii_item hit hc' fun h' hit' hs' => k _ h' _ (.str [c] _ hoc) hit' fun b o hb e => (hs'.2 b hb).trans e
    · exact wpAny_pyNext_wide_item hit hc' fun h' hit' hs' => k _ h' _ (.str [c] _ hoc) hit' fun b o hb e => (hs'.2 b hb).trans e
  done := by
    intro ρ hid st s hit hpre r hs A Q E hh k
    rw [List.length_map] at hit
    have hn : (⟨l.toArray⟩ : Str).cps[l.length]? = none := by simp
    rcases hcl with rfl | rfl
    · exact wpAny_pyNext_ascii_end hh hit hn fun h' hs' => k h' _ fun b o hb e => hs' b o hb e
    · exact wpAny_pyNext_wide_end hh hit hn fun h' hs' => k h' _ fun b o hb e => hs' b o hb e
  self := by
    intro i s hit A Q E hq
    rcases hcl with rfl | rfl
    · exact wpAny_pyIter_striter_ascii hit hq
    · exact wpAny_pyIter_striter_wide hit hq
  go := fun i s hit A target W Q E hq => by
    obtain ⟨o, ho, hc, hd⟩ := hit
    rcases hcl with rfl | rfl
    · exact go_plain ho hc (by decide) target W Q E hq
    · exact go_plain ho hc (by decide) target W Q E hq
theorem range_small {a b c : Int} (h : -1000000000 ≤ a ∧ a ≤ 1000000000 ∧ -1000000000 ≤ b ∧ b ≤ 1000000000 ∧ 0 < c ∧ c ≤ 1000000000) :
    Builtin.Range.small a b c = true ∧ Builtin.Range.rangeSize a b c = (((if a < b then ((b - a - 1) / c + 1).toNat else 0 : Nat)) : Int) := by
  obtain ⟨h1, h2, h3, h4, h5, h6⟩ := h
  have hdiv : a < b → 0 ≤ (b - a - 1) / c ∧ (b - a - 1) / c ≤ b - a - 1 := fun hab => ⟨Int.ediv_nonneg (by omega) (by omega), Int.ediv_le_self _ (by omega)⟩
  have hs : Builtin.Range.rangeSize a b c = (((if a < b then ((b - a - 1) / c + 1).toNat else 0 : Nat)) : Int) := by
    unfold Builtin.Range.rangeSize
    rw [if_pos h5]
    split
    · rename_i hab
      have := hdiv hab
      rw [Int.toNat_of_nonneg (by omega)]
    · rfl
  refine ⟨?_, hs⟩
  unfold Builtin.Range.small
  have hsz : 0 ≤ Builtin.Range.rangeSize a b c ∧ Builtin.Range.rangeSize a b c ≤ 2000000001 := by
    unfold Builtin.Range.rangeSize
    rw [if_pos h5]
    split
    · rename_i hab
      have := hdiv hab
      omega
    · omega
  have f : ∀ i : Int, -9000000000000000000 ≤ i → i ≤ 9000000000000000000 → Builtin.Range.rangeFitsLong i = true := fun i hi hi' => by
    unfold Builtin.Range.rangeFitsLong
    simp only [Bool.and_eq_true, decide_eq_true_eq]
    omega
  rw [f a (by omega) (by omega), f b (by omega) (by omega), f c (by omega) (by omega), f _ (by omega) (by omega), if_pos h5, f (b + (c - 1)) (by omega) (by omega)]
  simp
theorem iter_start {ρ : Map} {hid : Hd} {st st' : St} {s : Shared} (x : Rel cx ρ hid st s) {v : V} {W : Value} (hv : VR ρ v W) {r : Src × List V} (h : iterOf v st = .ok r st') {Ar : Around} {Q : Value → Shared → Prop} {E : Value → Shared → Prop}
    (k : ∀ I o At s', (∀ cx' : Cx, Iter cx' ρ r.1 r.2 I At) → At 0 s'.heap → Rel cx ρ (hid.cons (I, o)) st' s' → (∀ q ∈ hid.h, q.1 ≠ I) → Q (.ref I) s') : wpAny cx.M Ar (pyIter W) Q E s := by
  unfold iterOf at h
  split at h
  · rename_i i
    obtain ⟨p, hp, rfl⟩ := vr_obj hv
    obtain ⟨fz, led, m, mloc, x'⟩ := id x
    split at h
    · rename_i xs hi
      cases h
      obtain ⟨Xs, n, g1, g2⟩ := x'.list_at hi hp
      refine wpAny_pyIter_list ⟨_, (x'.N _ g2).1, rfl, _, rfl⟩ ?_
      obtain ⟨a, b⟩ := x.hide (ob := { cls := .type "list_iterator", data := .fields #[.ref p.1, .int 0 0] }) (tk := s.toks) rfl
      exact k _ _ _ _ (fun _ => iter_list hp) ⟨_, Heap.get?_push_size _ rfl, rfl, rfl⟩ a b
    · rename_i xs hi
      cases h
      obtain ⟨Xs, n, g1, g2⟩ := x'.tuple_at hi hp
      refine wpAny_pyIter_tuple ⟨_, (x'.N _ g2).1, rfl, _, rfl⟩ ?_
      obtain ⟨a, b⟩ := x.hide (ob := { cls := .type "tuple_iterator", data := .fields #[.ref p.1, .int 0 0] }) (tk := s.toks) rfl
      exact k _ _ _ _ (fun _ => iter_tuple hp) ⟨_, Heap.get?_push_size _ rfl, rfl, rfl⟩ a b
    · rename_i a b c hi
      split at h
      · rename_i hb
        cases h
        obtain ⟨A, B, S, w1, w2, w3, w4⟩ := x'.B.obj i _ p hi hp
        obtain ⟨t1, rfl⟩ := vr_int w1; obtain ⟨t2, rfl⟩ := vr_int w2; obtain ⟨t3, rfl⟩ := vr_int w3
        obtain ⟨hsm, hsz⟩ := range_small hb
        refine wpAny_pyIter_range (x'.N _ w4).1 hsm ?_
        obtain ⟨e1, e2⟩ := x.hide (ob := { cls := .type "range_iterator", data := .fields #[rawInt a, rawInt (Builtin.Range.rangeSize a b c), rawInt c] }) (tk := s.toks) rfl
        refine k _ _ _ _ (fun _ => iter_range (a := a) (c := c) (n := if a < b then ((b - a - 1) / c + 1).toNat else 0) _ ?_) ?_ e1 e2
        · unfold rangeInts; rw [List.map_map]; rfl
        · show Heap.get? _ _ = _
          rw [Heap.get?_push_size _ rfl, hsz]
          simp [rawInt]
      · cases h
    · cases h
  · have ho := vr_ok hv
    obtain ⟨t, rfl⟩ := vr_str hv
    cases h
    rename_i l
    cases ha : (⟨l.toArray⟩ : Str).cps.all (· < 128) with
    | false =>
      refine wpAny_pyIter_wide ha ?_
      obtain ⟨e1, e2⟩ := x.hide (ob := { cls := .type "str_iterator", data := .fields #[.str ⟨l.toArray⟩ t, .int 0 0] }) (tk := s.toks) rfl
      exact k _ _ _ _ (fun _ => iter_str ho (.inr rfl)) ⟨_, Heap.get?_push_size _ rfl, rfl, rfl⟩ e1 e2
    | true =>
      refine wpAny_pyIter_ascii ha ?_
      obtain ⟨e1, e2⟩ := x.hide (ob := { cls := .type "str_ascii_iterator", data := .fields #[.str ⟨l.toArray⟩ t, .int 0 0] }) (tk := s.toks) rfl
      exact k _ _ _ _ (fun _ => iter_str ho (.inl rfl)) ⟨_, Heap.get?_push_size _ rfl, rfl, rfl⟩ e1 e2
  · cases h
/-- targets -/
abbrev SimG (cx : Cx) (target : Expr) (g : V → PM Unit) : Prop := P1 cx (fun W => assign target cx.env W) g UR
theorem sim_target (ok : cx.Ok) {n : String} {pos : Pos} (hk : Asg cx n) : SimG cx (.Name (Str.ofString n) pos) (setL n) := by
  intro ρ hid st s x a A ha v st' h
  cases h
  exact wpAny_assign_Name (store_name ok x ha hk fun s' r => ⟨ρ, pre_refl ρ, r, trivial⟩)
theorem loop_turns (ok : cx.Ok) {target : Expr} {body : List Stmt} {g : V → PM Unit} {mb : PM Fl} (hg : SimG cx target g) (hb : SimSs cx body mb) {src : Src} {xs : List V} {I : Addr} {At : Nat → Heap → Prop} {ρ₀ : Map} {hid : Hd} (It : Iter cx ρ₀ src xs I At) (hI : ∀ q ∈ hid.h, q.1 ≠ I)
    {o : Obj} {st st' : St} {s : Shared} (x : Rel cx ρ₀ (hid.cons (I, o)) st s) (hat : At 0 s.heap) {fl : Fl} (h : loopF src (fun v => PM.bind (g v) fun _ => mb) xs st = .ok fl st') {R : Result → Shared → Prop}
    (hR : ∀ f s' ρ', ρ₀ <+: ρ' → Rel cx ρ' hid st' s' → FR ρ' fl f → R (.ok f) s') : codeAny cx.M cx.A (.forLoop target (.ref I) body [] cx.env) R s := by
  refine codeAny_forLoop_any (fun n s' => ∃ i ρ' o' st1, ρ₀ <+: ρ' ∧ Rel cx ρ' (hid.cons (I, o')) st1 s' ∧ At i s'.heap ∧ i ≤ xs.length ∧ n = xs.length + 1 - i ∧ loopF src (fun v => PM.bind (g v) fun _ => mb) (xs.drop i) st1 = .ok fl st') ?_ (xs.length + 1)
    ⟨0, ρ₀, o, st, pre_refl _, x, hat, Nat.zero_le _, rfl, h⟩
  rintro n s1 ⟨i, ρ1, o1, st1, p1, r1, a1, hi, rfl, e1⟩
  rcases Nat.lt_or_ge i xs.length with hlt | hge
  · have hx : xs[i]? = some xs[i] := List.getElem?_eq_getElem hlt
    have hd : xs.drop i = xs[i] :: xs.drop (i + 1) := List.drop_eq_getElem_cons hlt
    rw [hd] at e1
    unfold loopF at e1
    obtain ⟨_, st2, c1, e2⟩ := bind_ok e1
    obtain ⟨rfl, c2⟩ := chk_ok c1
    obtain ⟨f, st3, c3, e3⟩ := bind_ok e2
    obtain ⟨_, st4, c4, c5⟩ := bind_ok c3
    refine lf r1.pos (It.next i xs[i] ρ1 _ _ s1 hx a1 p1 r1 c2 cx.A _ _ fun W h' tk w1 w2 w3 htk => ?_)
    obtain ⟨o2, ho2⟩ := It.there _ _ w2
    have r2 := r1.turn (tk := tk) hI w3 ho2
    refine It.go (i + 1) _ w2 cx.A target W _ _ ?_
    refine wp_seq (hg ρ1 _ _ _ r2 _ W w1 () st4 c4) fun _ s3 ρ3 p3 r3 _ => ?_
    refine wp_seq (hb ρ3 _ _ _ r3 f st3 c5) fun fw s4 ρ4 p4 r4 hf => ?_
    have hat4 : At (i + 1) s4.heap := by
      refine It.frame (i + 1) h' s4.heap w2 fun ob hob => ?_
      have : ob = o2 := Option.some.inj (hob.symm.trans ho2)
      subst this
      obtain ⟨fz, led, m, mloc, r4'⟩ := id r4
      exact (r4'.N _ (r4'.B.hin _ (.head _))).1
    have pp : ρ₀ <+: ρ4 := pre_trans p1 (pre_trans p3 p4)
    cases hf with
    | next => exact ⟨xs.length + 1 - (i + 1), by omega, i + 1, ρ4, o2, st3, pp, r4, hat4, hlt, rfl, e3⟩
    | cont => exact ⟨xs.length + 1 - (i + 1), by omega, i + 1, ρ4, o2, st3, pp, r4, hat4, hlt, rfl, e3⟩
    | brk => cases e3; exact hR _ _ ρ4 pp r4.less .next
    | ret hv => cases e3; exact hR _ _ ρ4 pp r4.less (.ret hv)
  · have hil : i = xs.length := Nat.le_antisymm hi hge
    subst hil
    rw [List.drop_length] at e1
    unfold loopF at e1
    obtain ⟨_, st2, c1, e2⟩ := bind_ok e1
    obtain ⟨rfl, c2⟩ := chk_ok c1
    cases e2
    refine lf r1.pos (It.done ρ1 _ _ s1 a1 p1 r1 c2 cx.A _ _ ok.handled fun h' tk w3 htk => wpAny_execs_nil ?_)
    exact hR _ _ ρ1 p1 (r1.dropI hI w3) .next
theorem sim_For (ok : cx.Ok) {target iter : Expr} {body : List Stmt} {pos : Pos} {mi : PM V} {g : V → PM Unit} {mb : PM Fl} (hi : SimV cx (eval iter cx.env) mi) (hg : SimG cx target g) (hb : SimSs cx body mb)
    (hs : ∀ x, foldedSetIterable iter cx.env x = pure x) : SimS cx (.For target iter body [] pos) (PM.bind mi fun v => PM.bind (iterOf v) fun p => loopF p.1 (fun x => PM.bind (g x) fun _ => mb) p.2) := by
  intro ρ hid st s x v st' h
  obtain ⟨a, st1, e1, h1⟩ := bind_ok h
  obtain ⟨p, st2, e2, h2⟩ := bind_ok h1
  refine wpAny_For (wp_seq (hi ρ hid st s x a st1 e1) fun A s1 ρ1 p1 r1 v1 => iter_start r1 v1 e2 fun I o At s2 It hat r2 hI => ?_) hs
  exact loop_turns ok hg hb (It cx) hI r2 hat h2 fun f s' ρ' pp rr hf => ⟨ρ', pre_trans p1 pp, rr, hf⟩
end
end Mine
namespace Mine
/-- the cells that a comprehension sees -/
def clOf (scope : Scope) (env : Env) : List (Str × Addr) := (scope.names.filter (·.2 == .free)).reverse.filterMap fun x => (env.cells.lookup x.1).map fun c => (x.1, c)
theorem closureFor_eq {scope : Scope} {env : Env} (h : (scope.names.all fun y => y.2 != .free || (env.cells.lookup y.1).isSome) = true) : closureFor scope env = pure (clOf scope env) := by
  have key : ∀ (names : List (Str × NameKind)) (cs : List (Str × Addr)), (names.all fun y => y.2 != .free || (env.cells.lookup y.1).isSome) = true →
      (forIn names cs fun x (r : List (Str × Addr)) => (do
        if (x.2 == .free) = true then do
          let a ← cellOf env x.1
          pure (ForInStep.yield ((x.1, a) :: r))
        else pure (ForInStep.yield r) : Sem (ForInStep (List (Str × Addr))))) = pure (((names.filter (·.2 == .free)).reverse.filterMap fun x => (env.cells.lookup x.1).map fun c => (x.1, c)) ++ cs) := by
    intro names
    induction names with
    | nil => intro cs _; rfl
    | cons y r ih =>
      intro cs hy
      rw [List.all_cons, Bool.and_eq_true] at hy
      rw [List.forIn_cons]
      cases hk : (y.2 == NameKind.free) with
      | false =>
        simp only [Bool.false_eq_true, if_false]
        show (forIn r cs _ : Sem _) = _
        rw [ih cs hy.2, List.filter_cons, hk]
        simp
      | true =>
        have hsome : (env.cells.lookup y.1).isSome = true := by
          have := hy.1
          rw [bne, hk] at this
          simpa using this
        obtain ⟨c, hc⟩ := Option.isSome_iff_exists.mp hsome
        simp only [if_true]
        have hcell : cellOf env y.1 = pure c := by unfold cellOf; rw [hc]
        rw [hcell]
        show (forIn r ((y.1, c) :: cs) _ : Sem _) = _
        rw [ih _ hy.2, List.filter_cons, hk]
        simp [hc]
  have := key scope.names [] h
  rw [List.append_nil] at this
  unfold closureFor clOf
  show (forIn scope.names [] _ >>= fun r => pure r) = _
  rw [this]
  rfl
theorem clOf_mem {scope : Scope} {env : Env} {x : Str} {c : Addr} (h : (x, c) ∈ clOf scope env) : env.cells.lookup x = some c ∧ (x, NameKind.free) ∈ scope.names := by
  unfold clOf at h
  obtain ⟨y, hy, e⟩ := List.mem_filterMap.mp h
  obtain ⟨c', hc, e'⟩ := Option.map_eq_some_iff.mp e
  cases e'
  obtain ⟨h1, h2⟩ := List.mem_filter.mp (List.mem_reverse.mp hy)
  have : y.2 = .free := by simpa using h2
  exact ⟨hc, by rw [← this]; exact h1⟩
theorem lookup_mem {l : List (Str × Addr)} {x : Str} {c : Addr} (e : l.lookup x = some c) : (x, c) ∈ l := by
  induction l with
  | nil => cases e
  | cons a r ih =>
    rw [List.lookup_cons] at e
    cases q : x == a.1 with
    | true => rw [q] at e; cases e; rw [beq_iff_eq] at q; rw [q]; exact .head _
    | false => rw [q] at e; exact .tail _ (ih e)
theorem mem_lookup {l : List (Str × NameKind)} {x : Str} {k : NameKind} (e : l.lookup x = some k) : (x, k) ∈ l := by
  induction l with
  | nil => cases e
  | cons a r ih =>
    rw [List.lookup_cons] at e
    cases q : x == a.1 with
    | true => rw [q] at e; cases e; rw [beq_iff_eq] at q; rw [q]; exact .head _
    | false => rw [q] at e; exact .tail _ (ih e)
theorem clOf_lookup {scope : Scope} {env : Env} {x : Str} {c : Addr} (h : (clOf scope env).lookup x = some c) : env.cells.lookup x = some c := (clOf_mem (lookup_mem h)).1
theorem clOf_get {scope : Scope} {env : Env} {x : Str} {c : Addr} (hm : (x, NameKind.free) ∈ scope.names) (hc : env.cells.lookup x = some c) : (clOf scope env).lookup x = some c := by
  have hin : (x, c) ∈ clOf scope env := by
    unfold clOf
    exact List.mem_filterMap.mpr ⟨(x, .free), List.mem_reverse.mpr (List.mem_filter.mpr ⟨hm, rfl⟩), by rw [hc]; rfl⟩
  have all : ∀ y d, (y, d) ∈ clOf scope env → env.cells.lookup y = some d := fun y d h => (clOf_mem h).1
  generalize clOf scope env = l at hin all
  induction l with
  | nil => cases hin
  | cons a r ih =>
    rw [List.lookup_cons]
    cases q : x == a.1 with
    | true =>
      rw [beq_iff_eq] at q
      have := all a.1 a.2 (.head _)
      rw [← q, hc] at this
      exact this.symm
    | false =>
      rcases List.mem_cons.mp hin with e | e
      · rw [← e, beq_self_eq_true] at q; cases q
      · exact ih e fun y d h => all y d (.tail _ h)
theorem relabel_cell {scope : Scope} {env : Env} {x : Str} (hn : (scope.names.all fun y => y.2 != .cell) = true) (h : (relabel scope env).names.lookup x = some .cell) : env.kindOf x = some .cell := by
  have hm := mem_lookup h
  unfold relabel at hm
  obtain ⟨y, hy, e⟩ := List.mem_map.mp hm
  have hc := List.all_eq_true.mp hn y hy
  dsimp only at e
  split at e
  · rename_i hq
    rw [Bool.and_eq_true, Bool.and_eq_true] at hq
    cases e
    exact beq_iff_eq.mp hq.2
  · have e2 : y.2 = NameKind.cell := (Prod.mk.inj e).2
    rw [e2] at hc
    simp at hc
theorem relabel_own {scope : Scope} {env : Env} {x : Str} (hk : env.scope.kind = .function) (he : env.kindOf x = some .cell) : ∀ {names : List (Str × NameKind)}, names.lookup x = some .free →
    (names.map fun (n, k) => if (k == NameKind.free && env.scope.kind == .function && env.kindOf n == some .cell) then (n, NameKind.cell) else (n, k)).lookup x = some .cell
  | [], h => by cases h
  | (n, k) :: r, h => by
    rw [List.lookup_cons] at h
    rw [List.map_cons]
    dsimp only
    cases q : x == n with
    | true =>
      rw [q] at h
      cases h
      rw [beq_iff_eq] at q
      subst q
      rw [if_pos (by rw [hk, he]; rfl), List.lookup_cons, beq_self_eq_true]
    | false =>
      rw [q] at h
      have ih := relabel_own (scope := scope) hk he h
      split <;> (rw [List.lookup_cons, q]; exact ih)
theorem relabel_free {scope : Scope} {env : Env} {x : Str} : ∀ {names : List (Str × NameKind)}, names.lookup x = some .free →
    (names.map fun (n, k) => if (k == NameKind.free && env.scope.kind == .function && env.kindOf n == some .cell) then (n, NameKind.cell) else (n, k)).lookup x = some .cell ∨
    (names.map fun (n, k) => if (k == NameKind.free && env.scope.kind == .function && env.kindOf n == some .cell) then (n, NameKind.cell) else (n, k)).lookup x = some .free
  | [], h => by cases h
  | (n, k) :: r, h => by
    rw [List.lookup_cons] at h
    rw [List.map_cons]
    dsimp only
    cases q : x == n with
    | true =>
      rw [q] at h
      cases h
      split
      · left; rw [List.lookup_cons, q]
      · right; rw [List.lookup_cons, q]
    | false =>
      rw [q] at h
      have ih := relabel_free (scope := scope) (env := env) h
      split <;> (rw [List.lookup_cons, q]; exact ih)
structure CompOk (scope : Scope) (env : Env) (fr : List String) : Prop where
  kind : scope.kind = .function
  nocell : (scope.names.all fun y => y.2 != .cell) = true
  free : (scope.names.all fun y => y.2 != .free || (env.cells.lookup y.1).isSome) = true
  frf : (fr.all fun n => scope.names.lookup (Str.ofString n) == some .free) = true
  frk : (fr.all fun n => env.kindOf (Str.ofString n) != some .local) = true
  names : (scope.names.all fun x => x.2 != .local || scope.names.lookup x.1 == some .local) = true
  namesF : (scope.names.all fun x => x.2 != .free || (scope.names.lookup x.1 == some .free && fr.any fun n => Str.ofString n == x.1)) = true
abbrev Cx.comp (cx : Cx) (scope : Scope) (C : Addr) (fm : Str → Option Value) : Cx := { cx with env := compEnvC scope (clOf scope cx.env) C cx.env, fm := fm }
open Classical in
noncomputable def inScope {α : Type} (fr : List String) (m : PM α) : PM α := fun st => match m ⟨fun n => if n ∈ fr then st.loc n else none, st.sto⟩ with
  | .ok a st' => if (∀ n ∈ fr, st'.loc n = st.loc n) then .ok a ⟨st.loc, st'.sto⟩ else .fail
  | _ => .fail
noncomputable def compM (src : Src) (g : V → PM Unit) (conds : PM Bool) (elt : PM V) : List V → List V → PM (List V)
  | acc, [] => PM.bind (chk src) fun _ => PM.pure acc
  | acc, x :: r => PM.bind (chk src) fun _ => PM.bind (g x) fun _ => PM.bind conds fun b => match b with
    | true => PM.bind elt fun v => fun st => if acc.length ≤ 1000000 then compM src g conds elt (acc ++ [v]) r st else .fail
    | false => compM src g conds elt acc r
section
variable {cx : Cx}
theorem comp_ok (ok : cx.Ok) {scope : Scope} {fr : List String} (c : CompOk scope cx.env fr) (C : Addr) (fm : Str → Option Value) : (cx.comp scope C fm).Ok :=
  ⟨ok.bmain, ok.kin, ok.top, ok.below, ok.frames, ok.fframe, ok.fkind, c.kind, ok.globals, ok.builtins, ok.handled, ok.depth, ok.units, fun x y d h1 h2 => ok.cinj x y d (clOf_lookup h1) (clOf_lookup h2)⟩
theorem Rel.hsub {ρ : Map} {hid hid' : Hd} {st : St} {s : Shared} (x : Rel cx ρ hid st s) (h1 : ∀ q ∈ hid'.h, q ∈ hid.h) (h2 : ∀ q ∈ hid'.z, q ∈ hid.z) : Rel cx ρ hid' st s := by
  obtain ⟨fz, led, m, mloc, x⟩ := x
  have B := x.B
  refine ⟨fz, led, m, mloc, x.F, x.N, ⟨B.nd, B.cm, ?_, B.len, B.own, B.obj, B.sep, fun q hq => B.hin q (h1 q hq), fun q hq => B.hsep q (h1 q hq), B.cel, fun y c hc => ⟨fun q hq => (B.csep y c hc).1 q (h1 q hq), (B.csep y c hc).2⟩, B.fin, fun q hq => B.fz0 q (h2 q hq), fun q hq => B.hfz q (h1 q hq), B.fsep, B.fcel, B.loc⟩, x.gens, x.os, x.tk⟩
  rcases B.ln with h | ⟨g1, o, es, ep, g2, g3, g4, g5, g6, g7, g8, g9⟩
  · exact .inl h
  · exact .inr ⟨g1, o, es, ep, g2, g3, g4, g5, g6, fun q hq => g7 q (h1 q hq), g8, g9⟩
open Classical in
noncomputable def hidC (ρ : Map) (fz led : Led) (cs : List (Str × Addr)) : Hd := ⟨led.filter fun q => decide ((∀ p ∈ ρ, q.1 ≠ p.1 ∧ q.1 ≠ p.2) ∧ (∀ r ∈ fz, r.1 ≠ q.1) ∧ ∀ y ∈ cs, q.1 ≠ y.2), fz⟩
theorem mem_hidC {ρ : Map} {fz led : Led} {cs : List (Str × Addr)} {q : Addr × Obj} : q ∈ (hidC ρ fz led cs).h ↔ q ∈ led ∧ (∀ p ∈ ρ, q.1 ≠ p.1 ∧ q.1 ≠ p.2) ∧ (∀ r ∈ fz, r.1 ≠ q.1) ∧ ∀ y ∈ cs, q.1 ≠ y.2 := by
  unfold hidC
  simp only [List.mem_filter, decide_eq_true_eq]
theorem bear_comp_in {ρ : Map} {hid : Hd} {fz led : Led} {m mloc : Str → Option Value} {st : St} (B : Bear cx ρ hid fz led m mloc st) {scope : Scope} {fr : List String} (c : CompOk scope cx.env fr) {C : Addr} {oC : Obj} {es : Array DictEntry} {ep : Nat}
    (hC : ∀ q ∈ led, q.1 ≠ C) (hCL : C ≠ cx.L) (hd : oC.data = .dict es ep) (hs : StrKeys es) (hf : ∀ y, nsFind es y = none) :
    Bear (cx.comp scope C m) ρ (hidC ρ fz led (clOf scope cx.env)) fz ((C, oC) :: led) m (fun _ => none) ⟨fun n => if n ∈ fr then st.loc n else none, st.sto⟩ := by
  have own : ∀ p ∈ ρ, p.1 ≠ C ∧ p.2 ≠ C := fun p hp => by
    obtain ⟨q, hq, e⟩ := List.mem_map.mp (B.own p hp).1
    obtain ⟨q', hq', e'⟩ := List.mem_map.mp (B.own p hp).2
    exact ⟨e ▸ hC q hq, e' ▸ hC q' hq'⟩
  refine ⟨?_, fun _ => rfl, .inr ⟨hCL, oC, es, ep, .head _, hd, hs, hf, own, fun q hq => hC q (mem_hidC.mp hq).1, fun q hq => hC q (B.fin q hq), fun x hx => ?_⟩, B.len, fun p hp => ⟨.tail _ (B.own p hp).1, .tail _ (B.own p hp).2⟩, fun i o p h1 h2 => ?_, B.sep, fun q hq => .tail _ (mem_hidC.mp hq).1, fun q hq => (mem_hidC.mp hq).2.1, fun x d hx => ?_, fun x d hx => ⟨fun q hq => ?_, (B.csep x d (clOf_lookup hx)).2⟩, fun q hq => .tail _ (B.fin q hq), fun q hq => hq, fun q hq => (mem_hidC.mp hq).2.2.1, B.fsep, fun hz q hq x hx he => ?_, fun n v hv => ?_⟩
  · rw [List.map_cons, List.nodup_cons]
    refine ⟨fun h => ?_, B.nd⟩
    obtain ⟨q, hq, e⟩ := List.mem_map.mp h
    exact hC q hq e
  · obtain ⟨o, v, h1, _⟩ := B.cel x _ (clOf_lookup hx)
    exact hC _ h1 rfl
  · have := (B.obj i o p h1 h2).mono (led' := (C, oC) :: led) (pre_refl _) (fun _ h => h) fun _ _ h _ => .tail _ h
    cases o <;> exact this
  · obtain ⟨o, v, h1, h2⟩ := B.cel x d (clOf_lookup hx)
    exact ⟨o, v, .tail _ h1, h2⟩
  · exact (mem_hidC.mp hq).2.2.2 (x, d) (lookup_mem hx)
  · exact B.fcel hz q hq x (relabel_cell c.nocell hx) (clOf_lookup he)
  · dsimp only at hv
    split at hv
    · rename_i hn
      obtain ⟨W, h1, h2⟩ := B.loc n v hv
      refine ⟨W, h1, ?_⟩
      have hfree := beq_iff_eq.mp (List.all_eq_true.mp c.frf n hn)
      have hnl := List.all_eq_true.mp c.frk n hn
      rcases h2 with ⟨hk, _⟩ | ⟨_, d, o, g1, g2, g3⟩
      · rw [hk] at hnl; simp at hnl
      · exact .inr ⟨relabel_free (scope := scope) hfree, d, o, clOf_get (mem_lookup hfree) g1, .tail _ g2, g3⟩
    · cases hv
theorem bear_comp_out (ok : cx.Ok) {ρ ρ' : Map} {hid hid' : Hd} {fz led fz' led' : Led} {m mloc mloc' m' : Str → Option Value} {st st' : St} (B : Bear cx ρ hid fz led m mloc st) {scope : Scope} {fr : List String} (c : CompOk scope cx.env fr) {C D : Addr} {oD : Obj} (hCL : C ≠ cx.L)
    (hρ : ρ <+: ρ') (B' : Bear (cx.comp scope C m) ρ' hid' fz' led' m' mloc' st') (hD : (D, oD) ∈ hid'.h) (hDf : ∀ q ∈ led, q.1 ≠ D)
    (hH : ∀ q ∈ led, (∀ p ∈ ρ, q.1 ≠ p.1 ∧ q.1 ≠ p.2) → (∀ r ∈ fz, r.1 ≠ q.1) → (∀ y ∈ clOf scope cx.env, q.1 ≠ y.2) → q ∈ hid'.h) (hz : ∀ q ∈ fz, q ∈ hid'.z) (hloc : ∀ n ∈ fr, st'.loc n = st.loc n) :
    m' = m ∧ ∃ oC es ep, oC.data = .dict es ep ∧ StrKeys es ∧ (C, oC) ∈ led' ∧ Bear cx ρ' ((hid.cons (D, oD)).cons (C, oC)) fz' led' m mloc ⟨st.loc, st'.sto⟩ := by
  refine ⟨B'.cm hCL, ?_⟩
  have frn : ∀ {x : Str} {d : Addr}, (clOf scope cx.env).lookup x = some d → ∃ n ∈ fr, Str.ofString n = x ∧ scope.names.lookup x = some .free := fun {x d} h => by
    have := List.all_eq_true.mp c.namesF _ (clOf_mem (lookup_mem h)).2
    simp only [bne_self_eq_false, Bool.false_or, Bool.and_eq_true, beq_iff_eq, List.any_eq_true] at this
    obtain ⟨h1, n, hn, e⟩ := this
    exact ⟨n, hn, e, h1⟩
  -- what lies outside the comprehension's sight stands
  have keep : ∀ q ∈ led, (∀ p ∈ ρ, q.1 ≠ p.1 ∧ q.1 ≠ p.2) → (∀ y ∈ clOf scope cx.env, q.1 ≠ y.2) → q ∈ led' ∧ (q ∈ hid'.h ∨ q ∈ fz') := fun q hq hp hy => by
    by_cases hf : ∀ r ∈ fz, r.1 ≠ q.1
    · have := hH q hq hp hf hy
      exact ⟨B'.hin q this, .inl this⟩
    · obtain ⟨r, hr'⟩ := Classical.not_forall.mp hf
      obtain ⟨hr, e⟩ := Classical.not_imp.mp hr'
      have e : r.1 = q.1 := Classical.not_not.mp e
      have hrq : r = q := by
        have h1 := B.fin r hr
        obtain ⟨a, o⟩ := r
        obtain ⟨b, o'⟩ := q
        dsimp only at e
        subst e
        rw [nodup_mem B.nd h1 hq]
      subst hrq
      have := B'.fz0 _ (hz _ hr)
      exact ⟨B'.fin _ this, .inr this⟩
  have off : ∀ q, q ∈ hid'.h ∨ q ∈ fz' → ∀ p ∈ ρ', q.1 ≠ p.1 ∧ q.1 ≠ p.2 := fun q hq p hp => by
    rcases hq with h | h
    · exact B'.hsep q h p hp
    · exact B'.fsep q h p hp
  obtain ⟨oC, es, ep, k2, k3, k4, k5, k6, k7, k8, k9⟩ : ∃ oC es ep, (C, oC) ∈ led' ∧ oC.data = .dict es ep ∧ StrKeys es ∧ (∀ name, nsFind es name = mloc' name) ∧
      (∀ p ∈ ρ', p.1 ≠ C ∧ p.2 ≠ C) ∧ (∀ q ∈ hid'.h, q.1 ≠ C) ∧ (∀ q ∈ fz', q.1 ≠ C) ∧ (∀ x, (clOf scope cx.env).lookup x ≠ some C) := by
    rcases B'.ln with h | ⟨_, h⟩
    · exact absurd h.1 hCL
    · exact h
  have hidk : ∀ q ∈ hid.h, q ∈ hid'.h := fun q hq => hH q (B.hin q hq) (B.hsep q hq) (fun r hr => B.hfz q hq r hr) fun y hy => by
    obtain ⟨z1, _⟩ := clOf_mem (show (y.1, y.2) ∈ _ from hy)
    exact (B.csep y.1 y.2 z1).1 q hq
  -- a cell of the outer block: seen by the comprehension, or standing
  have cell : ∀ x d o, cx.env.cells.lookup x = some d → (d, o) ∈ led → (clOf scope cx.env).lookup x = some d ∨ ((d, o) ∈ led' ∧ ((d, o) ∈ hid'.h ∨ (d, o) ∈ fz')) := fun x d o hx ho => by
    by_cases hy : ∀ y ∈ clOf scope cx.env, d ≠ y.2
    · exact .inr (keep (d, o) ho (fun p hp => ⟨Ne.symm ((B.csep x d hx).2 p hp).1, Ne.symm ((B.csep x d hx).2 p hp).2⟩) hy)
    · obtain ⟨y, hy'⟩ := Classical.not_forall.mp hy
      obtain ⟨hy, e⟩ := Classical.not_imp.mp hy'
      have e : d = y.2 := Classical.not_not.mp e
      obtain ⟨z1, z2⟩ := clOf_mem (show (y.1, y.2) ∈ _ from hy)
      have : x = y.1 := ok.cinj x y.1 d hx (by rw [e]; exact z1)
      subst this
      exact .inl (clOf_get z2 hx)
  refine ⟨oC, es, ep, k3, k4, k2, B'.nd, B.cm, ?_, B'.len, B'.own, fun i o p h1 h2 => ?_, B'.sep, fun q hq => ?_, fun q hq => ?_, fun x d hx => ?_, fun x d hx => ⟨fun q hq => ?_, fun p hp => ?_⟩, B'.fin, fun q hq => B'.fz0 q (hz q (B.fz0 q hq)), fun q hq r hr => ?_, B'.fsep, fun hzz q hq x hx he => ?_, fun n v hv => ?_⟩
  · rcases B.ln with h | ⟨g1, o, es', ep', g2, g3, g4, g5, g6, g7, g8, g9⟩
    · exact .inl h
    · have hl : (cx.env.locals, o) ∈ hid'.h := hH _ g2 (fun p hp => ⟨Ne.symm (g6 p hp).1, Ne.symm (g6 p hp).2⟩) (fun r hr => g8 r hr) fun y hy e => by
        obtain ⟨z1, _⟩ := clOf_mem (show (y.1, y.2) ∈ _ from hy)
        exact g9 y.1 (by rw [z1]; exact congrArg some e.symm)
      refine .inr ⟨g1, o, es', ep', B'.hin _ hl, g3, g4, g5, fun p hp => ⟨Ne.symm (B'.hsep _ hl p hp).1, Ne.symm (B'.hsep _ hl p hp).2⟩, fun q hq => ?_, fun q hq => B'.hfz _ hl q hq, g9⟩
      rcases List.mem_cons.mp hq with rfl | hq
      · exact Ne.symm (k7 _ hl)
      · rcases List.mem_cons.mp hq with rfl | hq
        · exact Ne.symm (hDf _ g2)
        · exact g7 q hq
  · have := B'.obj i o p h1 h2
    cases o <;> exact this
  · rcases List.mem_cons.mp hq with rfl | hq
    · exact k2
    · rcases List.mem_cons.mp hq with rfl | hq
      · exact B'.hin _ hD
      · exact B'.hin q (hidk q hq)
  · rcases List.mem_cons.mp hq with rfl | hq
    · exact fun p hp => ⟨Ne.symm (k6 p hp).1, Ne.symm (k6 p hp).2⟩
    · rcases List.mem_cons.mp hq with rfl | hq
      · exact B'.hsep _ hD
      · exact B'.hsep q (hidk q hq)
  · obtain ⟨o, v, h1, h2⟩ := B.cel x d hx
    rcases cell x d o hx h1 with h | h
    · exact B'.cel x d h
    · exact ⟨o, v, h.1, h2⟩
  · obtain ⟨o, v, h1, h2⟩ := B.cel x d hx
    rcases List.mem_cons.mp hq with rfl | hq
    · rcases cell x d o hx h1 with h | h
      · exact fun e => k9 x (by rw [h]; exact congrArg some e.symm)
      · rcases h.2 with h | h
        · exact Ne.symm (k7 _ h)
        · exact Ne.symm (k8 _ h)
    · rcases List.mem_cons.mp hq with rfl | hq
      · exact Ne.symm (hDf _ h1)
      · exact (B.csep x d hx).1 q hq
  · obtain ⟨o, v, h1, h2⟩ := B.cel x d hx
    rcases cell x d o hx h1 with h | h
    · exact (B'.csep x d h).2 p hp
    · have := off _ h.2 p hp
      exact ⟨Ne.symm this.1, Ne.symm this.2⟩
  · rcases List.mem_cons.mp hq with rfl | hq
    · exact k8 r hr
    · rcases List.mem_cons.mp hq with rfl | hq
      · exact B'.hfz _ hD r hr
      · exact B'.hfz q (hidk q hq) r hr
  · obtain ⟨o, v, h1, h2⟩ := B.cel x _ he
    by_cases hcl : (clOf scope cx.env).lookup x = some q.1
    · obtain ⟨n, hn, e, hfree⟩ := frn hcl
      exact B'.fcel hzz q hq x (relabel_own (scope := scope) ok.kind hx hfree) hcl
    · have hy : ∀ y ∈ clOf scope cx.env, q.1 ≠ y.2 := fun y hy e => by
        obtain ⟨z1, z2⟩ := clOf_mem (show (y.1, y.2) ∈ _ from hy)
        have : x = y.1 := ok.cinj x y.1 q.1 he (by rw [e]; exact z1)
        subst this
        exact hcl (clOf_get z2 he)
      have := hH (q.1, o) h1 (fun p hp => ⟨Ne.symm ((B.csep x _ he).2 p hp).1, Ne.symm ((B.csep x _ he).2 p hp).2⟩) (fun r hr e => B.fcel hzz r hr x hx (by rw [e]; exact he)) hy
      exact B'.hfz _ this q hq rfl
  · obtain ⟨W, h1, h2⟩ := B.loc n v hv
    rcases h2 with h2 | ⟨hk, d, o, g1, g2, g3⟩
    · exact ⟨W, h1.mono hρ, .inl h2⟩
    · rcases cell _ d o g1 g2 with h | h
      · obtain ⟨n', hn', e, hfree⟩ := frn h
        have : n' = n := ofString_inj e
        subst this
        obtain ⟨W', w1, w2⟩ := B'.loc n' v (by rw [hloc n' hn']; exact hv)
        refine ⟨W', w1, ?_⟩
        rcases w2 with ⟨z1, _⟩ | ⟨_, d', o', z1, z2, z3⟩
        · exfalso
          have := relabel_free (scope := scope) (env := cx.env) hfree
          have z1' : (relabel scope cx.env).names.lookup (Str.ofString n') = some .local := z1
          unfold relabel at z1'
          rcases this with q | q <;> (rw [q] at z1'; cases z1')
        · exact .inr ⟨hk, d', o', clOf_lookup z1, z2, z3⟩
      · exact ⟨W, h1.mono hρ, .inr ⟨hk, d, o, g1, h.1, g3⟩⟩
end
end Mine
namespace Mine
abbrev Tests (env : Env) (ifs : List Expr) : Sem Bool := forIn ifs true fun c r => if r = true then do let ok ← isTrue c env (eval c env); pure (ForInStep.yield ok) else pure (ForInStep.yield r)
section
variable {cx : Cx}
theorem sim_tests_nil : Sim cx (Tests cx.env []) (PM.pure true) BR := by
  intro ρ hid st s x v st' h; cases h
  exact wpAny_tests_nil ⟨ρ, pre_refl ρ, x, rfl⟩
theorem comp_turns (ok : cx.Ok) {elt iter : Expr} {x : Str} {px : Pos} {ifs : List Expr} {scope : Scope} {pos : Pos} {g : V → PM Unit} {mc : PM Bool} {me : PM V} (hg : SimG cx (.Name x px) g) (hc : Sim cx (Tests cx.env ifs) mc BR) (he : SimV cx (eval elt cx.env) me)
    {src : Src} {xs : List V} {I D : Addr} {At : Nat → Heap → Prop} {ρ₀ : Map} {H : Hd} (It : Iter cx ρ₀ src xs I At) (hI : ∀ q ∈ H.h, q.1 ≠ I) (hD : ∀ q ∈ H.h, q.1 ≠ D) (hDI : D ≠ I)
    {o : Obj} {st st' : St} {s : Shared} (x0 : Rel cx ρ₀ ((H.cons (D, listObj [] 0)).cons (I, o)) st s) (hat : At 0 s.heap) {res : List V} (h : compM src g mc me [] xs st = .ok res st') {R : Result → Shared → Prop}
    (hR : ∀ s' ρ' Ys k, ρ₀ <+: ρ' → VRs ρ' res Ys → Rel cx ρ' (H.cons (D, listObj Ys k)) st' s' → R (.ok .next) s') :
    codeAny cx.M cx.A (.compLoop (.ListComp elt [⟨.Name x px, iter, ifs, 0⟩] scope pos) 0 (.ref I) (.ref D) cx.env) R s := by
  refine codeAny_compLoop_tests (fun n s' => ∃ i ρ' o' ys Ys k st1, ρ₀ <+: ρ' ∧ VRs ρ' ys Ys ∧ Rel cx ρ' ((H.cons (D, listObj Ys k)).cons (I, o')) st1 s' ∧ At i s'.heap ∧ i ≤ xs.length ∧ n = xs.length + 1 - i ∧ compM src g mc me ys (xs.drop i) st1 = .ok res st') ?_ (xs.length + 1)
    ⟨0, ρ₀, o, [], [], 0, st, pre_refl _, .nil, x0, hat, Nat.zero_le _, rfl, h⟩
  rintro n s1 ⟨i, ρ1, o1, ys, Ys, k, st1, p1, vy, r1, a1, hi, rfl, e1⟩
  have hI' : ∀ (Ys : List Value) (k : Nat), ∀ q ∈ (H.cons (D, listObj Ys k)).h, q.1 ≠ I := fun Ys k q hq => by
    rcases List.mem_cons.mp hq with rfl | hq
    · exact hDI
    · exact hI q hq
  rcases Nat.lt_or_ge i xs.length with hlt | hge
  · have hx : xs[i]? = some xs[i] := List.getElem?_eq_getElem hlt
    have hd : xs.drop i = xs[i] :: xs.drop (i + 1) := List.drop_eq_getElem_cons hlt
    rw [hd] at e1
    unfold compM at e1
    obtain ⟨_, st2, c1, e2⟩ := bind_ok e1
    obtain ⟨rfl, c2⟩ := chk_ok c1
    obtain ⟨_, st4, c4, e3⟩ := bind_ok e2
    obtain ⟨b, st5, c5, e4⟩ := bind_ok e3
    refine lf r1.pos (It.next i xs[i] ρ1 _ _ s1 hx a1 p1 r1 c2 cx.A _ _ fun W h' tk w1 w2 w3 htk => ?_)
    obtain ⟨o2, ho2⟩ := It.there _ _ w2
    have r2 := r1.turn (tk := tk) (hI' Ys k) w3 ho2
    refine wp_seq (hg ρ1 _ _ _ r2 _ W w1 () st4 c4) fun _ s3 ρ3 p3 r3 _ => ?_
    refine wp_seq (hc ρ3 _ _ _ r3 b st5 c5) fun b' s4 ρ4 p4 r4 hb => ?_
    cases hb
    have atI : ∀ {s5 : Shared} {ρ5 : Map} {hh : Hd} {st6 : St}, Rel cx ρ5 (hh.cons (I, o2)) st6 s5 → At (i + 1) s5.heap := fun {s5 ρ5 hh st6} r5 => by
      refine It.frame (i + 1) h' s5.heap w2 fun ob hob => ?_
      have : ob = o2 := Option.some.inj (hob.symm.trans ho2)
      subst this
      obtain ⟨fz, led, m, mloc, r5'⟩ := id r5
      exact (r5'.N _ (r5'.B.hin _ (.head _))).1
    cases b with
    | false =>
      rw [if_neg (by simp)]
      exact ⟨xs.length + 1 - (i + 1), by omega, i + 1, ρ4, o2, ys, Ys, k, st5, pre_trans p1 (pre_trans p3 p4), vy.mono (pre_trans p3 p4), r4, atI r4, hlt, rfl, e4⟩
    | true =>
      rw [if_pos rfl]
      obtain ⟨v, st6, c6, e5⟩ := bind_ok e4
      split at e5
      · rename_i hlen
        refine wp_seq (he ρ4 _ _ _ r4 v st6 c6) fun X s5 ρ5 p5 r5 hX => ?_
        have pp := pre_trans p3 (pre_trans p4 p5)
        have r5s : Rel cx ρ5 ((H.cons (I, o2)).cons (D, listObj Ys k)) st6 s5 := r5.hsub (fun q hq => by
          rcases List.mem_cons.mp hq with rfl | hq
          · exact .tail _ (.head _)
          · rcases List.mem_cons.mp hq with rfl | hq
            · exact .head _
            · exact .tail _ (.tail _ hq)) fun q hq => hq
        obtain ⟨fz, led, m, mloc, r5'⟩ := id r5s
        refine append_at (hsz := by rw [List.size_toArray, ← vy.length]; exact list_fits hlen) (r5'.N _ (r5'.B.hin _ (.head _))).1 fun h6 hs6 ho6 => ?_
        rw [size_push_eq] at ho6
        have r6 := r5s.turn (tk := s5.toks) (fun q hq => by
          rcases List.mem_cons.mp hq with rfl | hq
          · exact Ne.symm hDI
          · exact hD q hq) (fun b ob hb e => (hs6.2 b hb).trans e) ho6
        have r6s : Rel cx ρ5 ((H.cons (D, listObj (Ys ++ [X]) (k + 1))).cons (I, o2)) st6 { s5 with heap := h6 } := r6.hsub (fun q hq => by
          rcases List.mem_cons.mp hq with rfl | hq
          · exact .tail _ (.head _)
          · rcases List.mem_cons.mp hq with rfl | hq
            · exact .head _
            · exact .tail _ (.tail _ hq)) fun q hq => hq
        exact ⟨xs.length + 1 - (i + 1), by omega, i + 1, ρ5, o2, ys ++ [v], Ys ++ [X], k + 1, st6, pre_trans p1 pp, vrs_append (vy.mono pp) (.cons hX .nil), r6s, atI r6s, hlt, rfl, e5⟩
      · cases e5
  · have hil : i = xs.length := Nat.le_antisymm hi hge
    subst hil
    rw [List.drop_length] at e1
    unfold compM at e1
    obtain ⟨_, st2, c1, e2⟩ := bind_ok e1
    obtain ⟨rfl, c2⟩ := chk_ok c1
    cases e2
    refine lf r1.pos (It.done ρ1 _ _ s1 a1 p1 r1 c2 cx.A _ _ ok.handled fun h' tk w3 htk => ?_)
    exact hR _ ρ1 Ys k p1 vy (r1.dropI (hI' Ys k) w3)
/-- a comprehension up to its filled list -/
theorem comp_run (ok : cx.Ok) {elt iter : Expr} {n : String} {px : Pos} {ifs : List Expr} {scope : Scope} {fr : List String} {pos cpos : Pos} {mi : PM V} {mc : PM Bool} {me : PM V} (c : CompOk scope cx.env fr) (hi : SimV cx (eval iter cx.env) mi)
    (hx : scope.names.lookup (Str.ofString n) = some .local)
    (hc : ∀ C fm, (cx.comp scope C fm).Ok → Sim (cx.comp scope C fm) (Tests (cx.comp scope C fm).env ifs) mc BR) (he : ∀ C fm, (cx.comp scope C fm).Ok → SimV (cx.comp scope C fm) (eval elt (cx.comp scope C fm).env) me)
    (hs : ∀ x, foldedSetIterable iter cx.env x = pure x) {use : Option (Value → Sem Unit)} {Q : Value → Shared → Prop}
    {ρ : Map} {hid : Hd} {st st1 st2 st3 : St} {s : Shared} (x : Rel cx ρ hid st s) {a : V} {p : Src × List V} {vs : List V} (e1 : mi st = .ok a st1) (e2 : iterOf a st1 = .ok p st2) (e3 : inScope fr (compM p.1 (setL n) mc me [] p.2) st2 = .ok vs st3)
    (k : ∀ D C oC es ep Ys k s' ρ', ρ <+: ρ' → VRs ρ' vs Ys → Rel cx ρ' ((hid.cons (D, listObj Ys k)).cons (C, oC)) st3 s' → oC.data = .dict es ep → StrKeys es → (∀ q ∈ hid.h, q.1 ≠ D) → (∀ q ∈ (hid.cons (D, listObj Ys k)).h, q.1 ≠ C) →
      compPost cx.M cx.A (fun _ _ => False) use Q (.ref D) C (.ok .next) s') :
    wpAny cx.M cx.A (comprehension (.ListComp elt [⟨.Name (Str.ofString n) px, iter, ifs, 0⟩] scope pos) scope cx.env cpos (newList []) false (eval iter cx.env) use) Q (fun _ _ => False) s := by
  have hcell : ∀ y ∈ scope.names, y.2 ≠ .cell := fun y hy => by simpa using List.all_eq_true.mp c.nocell y hy
  refine wpAny_comprehension_free (g := ⟨.Name (Str.ofString n) px, iter, ifs, 0⟩) (gs := []) rfl hs (closureFor_eq c.free) c.kind (fun y hy hl => by have := List.all_eq_true.mp c.names y hy; rw [hl] at this; simpa using this) ?_
  refine wp_seq (hi ρ hid st s x a st1 e1) fun A1 s1 ρ1 p1 r1 v1 => iter_start r1 v1 e2 fun I o At s2 It hat r2 hI => ?_
  refine wpAny_newObj_type ?_ (by show (0 : Nat) ≤ sizeLine; exact Nat.zero_le _)
  obtain ⟨r3, hD⟩ := r2.hide (ob := listObj [] 0) (tk := s2.toks) rfl
  generalize hDdef : s2.heap.objs.size = D at r3 hD
  have hDI : I ≠ D := hD (I, o) (.head _)
  have hDh : ∀ q ∈ hid.h, q.1 ≠ D := fun q hq => hD q (.tail _ hq)
  have at3 : At 0 (s2.heap.push (listObj [] 0)) := (It cx).frame 0 s2.heap _ hat fun ob hob => Heap.get?_push_of_some _ hob
  refine wpAny_newFunctionEnv hcell (by intro y hy; simp at hy) (fun h' hns hsb => ?_) c.kind
  obtain ⟨fz, led, m, mloc, r3⟩ := r3
  have B3 := r3.B
  generalize hH3 : s2.heap.push (listObj [] 0) = H3 at *
  have hfr := news_fresh r3.N
  generalize hCdef : H3.objs.size = C at *
  obtain ⟨oC, es, ep, hoC, hdC, hkC, hfC⟩ := hns
  have hCL : C ≠ cx.L := by
    obtain ⟨oL, _, _, hL, _⟩ := r3.F.ns
    have := Heap.lt_size hL
    intro e
    rw [← e, ← hCdef] at this
    exact Nat.lt_irrefl _ this
  have hC0 : cx.h₀.get? C = none := by
    cases q : cx.h₀.get? C with
    | none => rfl
    | some o' =>
      have := Heap.lt_size (r3.F.keep _ _ q)
      rw [hCdef] at this
      exact absurd this (Nat.lt_irrefl _)
  have old : ∀ b ob, H3.get? b = some ob → h'.get? b = some ob := fun b ob e => by
    have hne : b ≠ C := by
      intro q
      have := Heap.lt_size e
      rw [q, hCdef] at this
      exact Nat.lt_irrefl _ this
    exact (hsb.2 b hne).trans (Heap.get?_push_of_some _ e)
  have F4 : Fr cx.h₀ cx.L h' m := ⟨r3.F.ns.keeps old, fun b ob e => old b ob (r3.F.keep b ob e), r3.F.above⟩
  have N4 : News cx.h₀ cx.L h' ((C, oC) :: led) := fun q hq => by
    rcases List.mem_cons.mp hq with rfl | hq
    · exact ⟨hoC, hCL, hC0⟩
    · have := r3.N q hq
      exact ⟨old _ _ this.1, this.2⟩
  have B4 := bear_comp_in B3 c (C := C) (oC := oC) hfr hCL hdC hkC (fun y => by rw [hfC]; rfl)
  -- what is hidden within
  have nocl : ∀ q ∈ ((hid.cons (I, o)).cons (D, listObj [] 0)).h, ∀ y ∈ clOf scope cx.env, q.1 ≠ y.2 := fun q hq y hy => by
    obtain ⟨z1, _⟩ := clOf_mem (show (y.1, y.2) ∈ _ from hy)
    exact (B3.csep y.1 y.2 z1).1 q hq
  have inC : ∀ q ∈ ((hid.cons (I, o)).cons (D, listObj [] 0)).h, q ∈ (hidC ρ1 fz led (clOf scope cx.env)).h := fun q hq => mem_hidC.mpr ⟨B3.hin q hq, B3.hsep q hq, fun r hr => B3.hfz q hq r hr, nocl q hq⟩
  let H0 : Hd := ⟨(hidC ρ1 fz led (clOf scope cx.env)).h.filter (fun q => decide (q.1 ≠ I) && decide (q.1 ≠ D)), fz⟩
  have hH0 : ∀ q ∈ H0.h, q ∈ (hidC ρ1 fz led (clOf scope cx.env)).h ∧ q.1 ≠ I ∧ q.1 ≠ D := fun q hq => by
    have := List.mem_filter.mp hq
    rw [Bool.and_eq_true, decide_eq_true_eq, decide_eq_true_eq] at this
    exact this
  have R4 : Rel (cx.comp scope C m) ρ1 ((H0.cons (D, listObj [] 0)).cons (I, o)) ⟨fun k => if k ∈ fr then st2.loc k else none, st2.sto⟩ { s2 with heap := h' } := by
    refine Rel.hsub (hid := hidC ρ1 fz led (clOf scope cx.env)) ⟨fz, _, m, _, F4, N4, B4, r3.gens, r3.os, r3.tk⟩ (fun q hq => ?_) fun q hq => hq
    rcases List.mem_cons.mp hq with rfl | hq
    · exact inC _ (.tail _ (.head _))
    · rcases List.mem_cons.mp hq with rfl | hq
      · exact inC _ (.head _)
      · exact (hH0 q hq).1
  have okc := comp_ok ok c C m
  unfold inScope at e3
  split at e3
  · rename_i vs' st4 e4
    split at e3
    · rename_i hloc
      cases e3
      have at4 : At 0 h' := (It cx).frame 0 H3 h' at3 fun ob hob => old _ _ hob
      have loop : ∀ s4 : Shared, s4 = { s2 with heap := h', toks := s2.toks + ([] : List (Str × Value)).length } →
          codeAny cx.M cx.A (.compLoop (.ListComp elt [⟨.Name (Str.ofString n) px, iter, ifs, 0⟩] scope pos) 0 (.ref I) (.ref D) (compEnvC scope (clOf scope cx.env) C cx.env)) (compPost cx.M cx.A (fun _ _ => False) use Q (.ref D) C) s4 := by
        rintro s4 rfl
        refine comp_turns (cx := cx.comp scope C m) okc (sim_target okc (.inl (lookup_relabel_local hx))) (hc C m okc) (he C m okc) (It _) (fun q hq => (hH0 q hq).2.1) (fun q hq => (hH0 q hq).2.2) (Ne.symm hDI) R4 at4 e4 fun s5 ρ5 Ys kk p5 v5 r5 => ?_
        obtain ⟨fz5, led5, m5, mloc5, r5⟩ := r5
        have B00 := (B3.drop (fun q hq => hD q hq)).drop (fun q hq => hI q hq)
        obtain ⟨rfl, oC5, es5, ep5, d5, k5, mem5, B5⟩ := bear_comp_out (D := D) (oD := listObj Ys kk) ok B00 c hCL p5 r5.B (.head _) (fun q hq => by
            have := List.mem_filter.mp (List.mem_filter.mp hq).1
            exact of_decide_eq_true this.2) (fun q hq hp hf hy => by
            have h1 := List.mem_filter.mp hq
            have h2 := List.mem_filter.mp h1.1
            refine .tail _ (List.mem_filter.mpr ⟨mem_hidC.mpr ⟨h2.1, hp, hf, hy⟩, ?_⟩)
            rw [Bool.and_eq_true]
            exact ⟨h1.2, h2.2⟩) (fun q hq => hq) hloc
        refine k D C oC5 es5 ep5 Ys kk s5 ρ5 (pre_trans p1 p5) v5 ⟨fz5, led5, m5, mloc, r5.F, r5.N, B5, r5.gens, r5.os, r5.tk⟩ d5 k5 hDh fun q hq => ?_
        have := B5.nd
        intro e
        rcases List.mem_cons.mp hq with rfl | hq
        · have h1 := B5.hin _ (.tail _ (.head _))
          have h2 := B5.hin _ (.head _)
          have : listObj Ys kk = oC5 := nodup_mem B5.nd (e ▸ h1) h2
          rw [← this] at d5
          cases d5
        · have := B3.hin q (.tail _ (.tail _ hq))
          exact hfr q this e
      exact codeAny_compStart_list (loop _ rfl) ((It cx).self 0 _ at4 cx.A _ _ (loop _ rfl))
    · cases e3
  · cases e3
/-- the comprehension's program -/
noncomputable def compV (fr : List String) (n : String) (mi : PM V) (mc : PM Bool) (me : PM V) : PM V := PM.bind mi fun a => PM.bind (iterOf a) fun p => PM.bind (inScope fr (compM p.1 (setL n) mc me [] p.2)) fun vs => alloc (.list vs)
theorem sim_ListComp (ok : cx.Ok) {elt iter : Expr} {n : String} {px : Pos} {ifs : List Expr} {scope : Scope} {fr : List String} {pos : Pos} {mi : PM V} {mc : PM Bool} {me : PM V} (c : CompOk scope cx.env fr) (hi : SimV cx (eval iter cx.env) mi)
    (hx : scope.names.lookup (Str.ofString n) = some .local)
    (hc : ∀ C fm, (cx.comp scope C fm).Ok → Sim (cx.comp scope C fm) (Tests (cx.comp scope C fm).env ifs) mc BR) (he : ∀ C fm, (cx.comp scope C fm).Ok → SimV (cx.comp scope C fm) (eval elt (cx.comp scope C fm).env) me)
    (hs : ∀ x, foldedSetIterable iter cx.env x = pure x) : SimV cx (eval (.ListComp elt [⟨.Name (Str.ofString n) px, iter, ifs, 0⟩] scope pos) cx.env) (compV fr n mi mc me) := by
  intro ρ hid st s x v st' h
  obtain ⟨a, st1, e1, h1⟩ := bind_ok h
  obtain ⟨p, st2, e2, h2⟩ := bind_ok h1
  obtain ⟨vs, st3, e3, h3⟩ := bind_ok h2
  rw [eval_ListComp]
  refine comp_run ok c hi hx hc he hs (use := none) x e1 e2 e3 fun D C oC es ep Ys k s' ρ' pp vv rr hd hk hD hC => ?_
  obtain ⟨fz, led, m, mloc, rr'⟩ := id rr
  refine ⟨_, ⟨oC, es, ep, (rr'.N _ (rr'.B.hin _ (.head _))).1, hd, hk, fun _ => rfl⟩, fun h' hs' => ?_⟩
  have r1 := rr.dropI (tk := s'.toks) hC (fun b ob hb e => (hs'.2 b hb).trans e)
  obtain ⟨r2, v2⟩ := r1.enterH hD vv
  cases h3
  exact ⟨_, pre_trans pp (List.prefix_append _ _), r2, v2⟩
end
end Mine
namespace Mine
/-- an index into a row of n, from behind if below nought -/
def idx (n : Nat) (k : Int) : Option Nat := if 0 ≤ k then (if k < n then some k.toNat else none) else (if 0 ≤ k + n then some (k + n).toNat else none)
theorem idx_lt {n : Nat} {k : Int} {j : Nat} (h : idx n k = some j) : j < n ∧ seqIndex? k n = some j ∧ ((0 ≤ k ∧ j = k.toNat ∧ k < n) ∨ (k < 0 ∧ j = (k + n).toNat ∧ 0 ≤ k + n)) := by
  unfold idx at h
  have key : j < n ∧ ((0 ≤ k ∧ j = k.toNat ∧ k < n) ∨ (k < 0 ∧ j = (k + n).toNat ∧ 0 ≤ k + n)) := by
    split at h
    · split at h
      · cases h; exact ⟨by omega, .inl ⟨by assumption, rfl, by assumption⟩⟩
      · cases h
    · split at h
      · cases h; exact ⟨by omega, .inr ⟨by omega, rfl, by assumption⟩⟩
      · cases h
  refine ⟨key.1, ?_, key.2⟩
  unfold seqIndex?
  rcases key.2 with ⟨h1, h2, h3⟩ | ⟨h1, h2, h3⟩
  · simp only [show ¬ k < 0 from by omega, if_false]
    rw [if_pos (by simp; omega), h2]
  · simp only [h1, if_true]
    rw [if_pos (by simp; omega), h2]
def itemP (st : St) (o i : V) : Option V := match o, i with
  | .obj j, .int k => (match st.sto[j]? with
    | some (.list xs) => if xs.length ≤ 1000000 then (idx xs.length k).bind (xs[·]?) else none
    | some (.tuple xs) => if xs.length ≤ 1000000 then (idx xs.length k).bind (xs[·]?) else none
    | _ => none)
  | .str l, .int k => if l.length ≤ 1000000 then (idx l.length k).bind fun j => (l[j]?).map fun c => .str [c] else none
  | _, _ => none
def pItem (o i : V) : PM V := fun st => match itemP st o i with | some v => .ok v st | none => .fail
/-- a cut of a row -/
def cutAt (n : Nat) (lo : Option Int) (d : Nat) : Nat := lo.elim d (clipAt n)
def cut {α : Type} (xs : List α) (lo hi : Option Int) : List α := (xs.drop (cutAt xs.length lo 0)).take (cutAt xs.length hi xs.length - cutAt xs.length lo 0)
def asPart : V → Option (Option Int)
  | .none => some none
  | .int i => some (some i)
  | _ => none
def sliceP (o l u : V) : PM V := fun st => match asPart l, asPart u with
  | some lo, some hi => (match o with
    | .obj j => (match st.sto[j]? with
      | some (.list xs) => if xs.length ≤ 1000000 then alloc (.list (cut xs lo hi)) st else .fail
      | _ => .fail)
    | .str s => if s.length ≤ 1000000 then .ok (.str (cut s lo hi)) st else .fail
    | _ => .fail)
  | _, _ => .fail
theorem vrs_cut {ρ : Map} {xs : List V} {Xs : List Value} (h : VRs ρ xs Xs) (lo hi : Option Int) : VRs ρ (cut xs lo hi) (cut Xs lo hi) := by
  unfold cut
  rw [← h.length]
  exact vrs_take _ (vrs_drop _ h)
theorem okS_cut {l : List Nat} (h : okS l) (lo hi : Option Int) : okS (cut l lo hi) := okS_take _ (okS_drop _ h)
section
variable {cx : Cx}
theorem isPart {ρ : Map} {v : V} {W : Value} {p : Option Int} (hv : VR ρ v W) (h : asPart v = some p) : IsPart W p := by
  unfold asPart at h
  split at h
  · cases h; cases vr_none hv; exact .none
  · cases h; obtain ⟨t, rfl⟩ := vr_int hv; exact .int _ t
  · cases h
theorem p_item (ok : cx.Ok) : P2 cx getItem pItem VR := by
  intro ρ hid st s x a A b B ha hb v st' h
  unfold pItem at h
  split at h
  · rename_i w e
    cases h
    unfold itemP at e
    split at e
    · rename_i j k
      obtain ⟨p, hp, rfl⟩ := vr_obj ha
      obtain ⟨t, rfl⟩ := vr_int hb
      obtain ⟨fz, led, m, mloc, x'⟩ := id x
      split at e
      · rename_i xs hi
        split at e
        · rename_i hl
          obtain ⟨j', hj, hv⟩ := Option.bind_eq_some_iff.mp e
          obtain ⟨Xs, n, g1, g2⟩ := x'.list_at hi hp
          obtain ⟨W, w1, w2⟩ := vrs_get g1 hv
          have hlen := g1.length
          have hl' : s.heap.IsList p.1 Xs.toArray := ⟨_, (x'.N _ g2).1, rfl, _, rfl⟩
          rcases (idx_lt hj).2.2 with ⟨k1, rfl, k3⟩ | ⟨k1, rfl, k3⟩
          · exact wpAny_getItem_list hl' k1 (by omega) (by simpa using w1) (fin_same x w2)
          · refine wpAny_getItem_list_neg hl' k1 (by rw [List.size_toArray]; omega) (by omega) ?_ (fin_same x w2)
            rw [List.size_toArray, ← hlen]
            simpa using w1
        · cases e
      · rename_i xs hi
        split at e
        · rename_i hl
          obtain ⟨j', hj, hv⟩ := Option.bind_eq_some_iff.mp e
          obtain ⟨Xs, n, g1, g2⟩ := x'.tuple_at hi hp
          obtain ⟨W, w1, w2⟩ := vrs_get g1 hv
          have hlen := g1.length
          obtain ⟨i1, i2, i3⟩ := idx_lt hj
          refine PySem.P.getItem_tuple (k := j') (y := W) (x'.N _ g2).1 ?_ ?_ (by rw [List.size_toArray, ← hlen]; exact i2) (by simpa using w1) (fin_same x w2)
          · rcases i3 with h | h <;> omega
          · rcases i3 with h | h <;> omega
        · cases e
      · cases e
    · rename_i l k
      have hok := vr_ok ha
      obtain ⟨t, rfl⟩ := vr_str ha
      obtain ⟨u, rfl⟩ := vr_int hb
      split at e
      · rename_i hl
        obtain ⟨j', hj, hv⟩ := Option.bind_eq_some_iff.mp e
        obtain ⟨c, hc, rfl⟩ := Option.map_eq_some_iff.mp hv
        obtain ⟨i1, i2, i3⟩ := idx_lt hj
        have hoc : okS [c] := fun d hd => by rw [List.mem_singleton.mp hd]; exact hok c (List.mem_of_getElem? hc)
        refine PyProof.Rows.getItem_str (c := c) ?_ ?_ (fin_toks x (.str [c] _ hoc))
        · rcases i3 with h | h <;> simp <;> omega
        · rw [str_len, i2]; simpa using hc
      · cases e
    · cases e
  · cases h
/-- a built-in container's type, for a subscript -/
theorem plain_sub {ρ : Map} {hid : Hd} {st : St} {s : Shared} (x : Rel cx ρ hid st s) {o : V} {A : Value} (ha : VR ρ o A) (hk : (∃ j xs, o = .obj j ∧ (st.sto[j]? = some (.list xs) ∨ st.sto[j]? = some (.tuple xs))) ∨ ∃ l, o = .str l) :
    ∃ T bid, s.TypeIs A T ∧ typeLookup (.type T) "__getitem__" = pure (some (.builtin bid)) := by
  rcases hk with ⟨j, xs, rfl, h | h⟩ | ⟨l, rfl⟩
  · obtain ⟨p, hp, rfl⟩ := vr_obj ha
    obtain ⟨fz, led, m, mloc, x'⟩ := x
    obtain ⟨Xs, n, g1, g2⟩ := x'.list_at h hp
    exact ⟨_, _, ⟨_, (x'.N _ g2).1, rfl⟩, PySem.F.slot_list_getitem.lookup⟩
  · obtain ⟨p, hp, rfl⟩ := vr_obj ha
    obtain ⟨fz, led, m, mloc, x'⟩ := x
    obtain ⟨Xs, n, g1, g2⟩ := x'.tuple_at h hp
    exact ⟨_, _, ⟨_, (x'.N _ g2).1, rfl⟩, PySem.F.slot_tuple_getitem.lookup⟩
  · obtain ⟨t, rfl⟩ := vr_str ha
    exact ⟨_, _, typeIs_str _ _ _, PySem.F.slot_str_getitem.lookup⟩
theorem itemP_kind {st : St} {o i v : V} (h : itemP st o i = some v) : (∃ j xs, o = .obj j ∧ (st.sto[j]? = some (.list xs) ∨ st.sto[j]? = some (.tuple xs))) ∨ ∃ l, o = .str l := by
  unfold itemP at h
  split at h
  · split at h
    · exact .inl ⟨_, _, rfl, .inl (by assumption)⟩
    · exact .inl ⟨_, _, rfl, .inr (by assumption)⟩
    · cases h
  · exact .inr ⟨_, rfl⟩
  · cases h
theorem sim_Subscript (ok : cx.Ok) {value slice : Expr} {pos : Pos} {mo mi : PM V} (ho : SimV cx (eval value cx.env) mo) (hi : SimV cx (eval slice cx.env) mi) (hs : ∀ o i, subscripted slice false o i = operate [o, i] (getItem o i)) :
    SimV cx (eval (.Subscript value slice pos) cx.env) (PM.bind mo fun o => PM.bind mi fun i => pItem o i) := by
  intro ρ hid st s x v st' h
  obtain ⟨a, st1, e1, h1⟩ := bind_ok h
  obtain ⟨b, st2, e2, h2⟩ := bind_ok h1
  refine Subscript_ (wp_seq (ho ρ hid st s x a st1 e1) fun A s1 ρ1 p1 r1 v1 => wp_seq (hi ρ1 hid st1 s1 r1 b st2 e2) fun B s2 ρ2 p2 r2 v2 => ?_)
  have hk : itemP st2 a b = some v := by
    unfold pItem at h2
    split at h2
    · rename_i e; cases h2; exact e
    · cases h2
  obtain ⟨T, bid, hT, hl⟩ := plain_sub r2 (v1.mono p2) (itemP_kind hk)
  exact tail_any hT hl (wp_seq (p_item ok ρ2 hid st2 s2 r2 a A b B (v1.mono p2) v2 v st' h2) fun W s3 ρ3 p3 r3 v3 => ⟨ρ3, pre_trans p1 (pre_trans p2 p3), r3, v3⟩) (hs A B)
theorem strSlice_eq (l : List Nat) (lo hi : Option Int) : ((Builtin.Str.strSliceIndices lo hi 1 l.length).filterMap (l[·]?)) = cut l lo hi := by
  have e : Builtin.Str.strSliceIndices lo hi 1 l.length = sliceRange (sliceBounds lo hi none l.length).1 (sliceBounds lo hi none l.length).2.1 (sliceBounds lo hi none l.length).2.2 := by
    unfold Builtin.Str.strSliceIndices sliceBounds
    cases lo <;> cases hi <;> rfl
  rw [e, sliceBounds_plain]
  unfold cut cutAt
  simp only [sliceRange_one]
  have := pick_run l.toArray (lo.elim 0 (clipAt l.length)) (hi.elim l.length (clipAt l.length) - lo.elim 0 (clipAt l.length))
  simpa using this
theorem partOf {W : Value} {p : Option Int} (h : IsPart W p) : ∃ q : Option (Int × Tok), partValue q = W ∧ q.map (·.1) = p := by
  cases h with
  | none => exact ⟨none, rfl, rfl⟩
  | int i t => exact ⟨some (i, t), rfl, rfl⟩
theorem cut_whole {l : List Nat} {lo hi : Option Int} (h : (Builtin.Str.strSliceIndices lo hi 1 l.length).length = l.length) : cut l lo hi = l := by
  have e := strSlice_eq l lo hi
  have e2 : Builtin.Str.strSliceIndices lo hi 1 l.length = (List.range (cutAt l.length hi l.length - cutAt l.length lo 0)).map (cutAt l.length lo 0 + ·) := by
    have e : Builtin.Str.strSliceIndices lo hi 1 l.length = sliceRange (sliceBounds lo hi none l.length).1 (sliceBounds lo hi none l.length).2.1 (sliceBounds lo hi none l.length).2.2 := by
      unfold Builtin.Str.strSliceIndices sliceBounds
      cases lo <;> cases hi <;> rfl
    rw [e, sliceBounds_plain]
    unfold cutAt
    simp only [sliceRange_one]
  rw [e2, List.length_map, List.length_range] at h
  unfold cut
  have hle : cutAt l.length hi l.length ≤ l.length := by
    unfold cutAt
    cases hi with
    | none => exact Nat.le_refl _
    | some i => show clipAt l.length i ≤ l.length; unfold clipAt; omega
  by_cases hz : l.length = 0
  · rw [List.length_eq_zero_iff.mp hz]; simp
  · have h0 : cutAt l.length lo 0 = 0 := by omega
    rw [h, h0]; simp
/-- an optional part of a slice -/
abbrev SimO (cx : Cx) (o : Option Expr) (m : PM V) : Prop := SimV cx (valueOrNone (evalOpt o cx.env)) m
theorem sim_part_none : SimO cx none (PM.pure .none) := by
  intro ρ hid st s x v st' h; cases h
  exact wpAny_pure ⟨ρ, pre_refl ρ, x, .none⟩
theorem sim_part_some {e : Expr} {m : PM V} (h : SimV cx (eval e cx.env) m) : SimO cx (some e) m := h
theorem sim_Slice {value : Expr} {lo up : Option Expr} {sp pos : Pos} {mo ml mu : PM V} (ho : SimV cx (eval value cx.env) mo) (hl : SimO cx lo ml) (hu : SimO cx up mu) :
    SimV cx (eval (.Subscript value (.Slice lo up none sp) pos) cx.env) (PM.bind mo fun o => PM.bind ml fun l => PM.bind mu fun u => sliceP o l u) := by
  intro ρ hid st s x v st' h
  obtain ⟨a, st1, e1, h1⟩ := bind_ok h
  obtain ⟨b, st2, e2, h2⟩ := bind_ok h1
  obtain ⟨c, st3, e3, h3⟩ := bind_ok h2
  refine Subscript_ (wp_seq (ho ρ hid st s x a st1 e1) fun A s1 ρ1 p1 r1 v1 => ?_)
  rw [arm_eval_Slice]
  refine wpAny_bind (wp_seq (hl ρ1 hid st1 s1 r1 b st2 e2) fun B s2 ρ2 p2 r2 v2 => wpAny_bind (wpAny_holding (wp_seq (hu ρ2 hid st2 s2 r2 c st3 e3) fun C s3 ρ3 p3 r3 v3 => wpAny_bind (wpAny_holding (wpAny_pure ?_)))))
  refine wpAny_newObj_type ?_ (by size_fits)
  have pp := pre_trans p1 (pre_trans p2 p3)
  have va := v1.mono (pre_trans p2 p3)
  have vb := v2.mono p3
  unfold sliceP at h3
  split at h3
  · rename_i lo' hi' q1 q2
    have P1 := isPart vb q1
    have P2 := isPart v3 q2
    split at h3
    · rename_i j
      obtain ⟨p, hp, rfl⟩ := vr_obj va
      split at h3
      · rename_i xs hj
        split at h3
        · rename_i hlen
          cases h3
          obtain ⟨fz, led, m, mloc, r3'⟩ := id r3
          obtain ⟨Xs, n, g1, g2⟩ := r3'.list_at hj hp
          have hln := g1.length
          have hlp : (s3.heap.push { cls := .type "slice", data := .fields #[B, C, .none] }).IsList p.1 Xs.toArray := ⟨_, Heap.get?_push_of_some _ (r3'.N _ g2).1, rfl, _, rfl⟩
          have rg := rel_garbage r3 (ob := { cls := .type "slice", data := .fields #[B, C, .none] }) (tk := s3.toks) rfl
          refine tail_any (T := "list") ⟨_, Heap.get?_push_of_some _ (r3'.N _ g2).1, rfl⟩ PySem.F.slot_list_getitem.lookup ?_ (by with_unfolding_all rfl)
          refine wpAny_getItem_list_slice hlp (Heap.IsSliceOf.new ..) P1 P2 .none (by simp) ?_ (by rw [List.size_toArray, ← hln]; exact list_fits hlen)
          have e : slicePick Xs.toArray lo' hi' none = (cut Xs lo' hi').toArray := by
            rw [slicePick_plain]; unfold cut cutAt; simp
          rw [e]
          obtain ⟨r4, v4⟩ := rel_push rg (ob := listObj (cut Xs lo' hi') 0) (o := .list (cut xs lo' hi')) (tk := s3.toks) rfl fun fz led => ⟨_, 0, (vrs_cut g1 lo' hi').mono (List.prefix_append _ _), .head _⟩
          exact ⟨_, pre_trans pp (List.prefix_append _ _), r4, v4⟩
        · cases h3
      · cases h3
    · rename_i l
      have hok := vr_ok va
      obtain ⟨t, rfl⟩ := vr_str va
      split at h3
      · rename_i hlen
        cases h3
        have rg := rel_garbage r3 (ob := { cls := .type "slice", data := .fields #[B, C, .none] }) (tk := s3.toks) rfl
        obtain ⟨lb, hlb1, hlb2⟩ := partOf P1
        obtain ⟨ub, hub1, hub2⟩ := partOf P2
        refine tail_any (typeIs_str _ _ _) PySem.F.slot_str_getitem.lookup ?_ (by with_unfolding_all rfl)
        refine wpAny_getItem_str_slice (l := lb) (u := ub) (st := none) ⟨_, Heap.get?_push_size _ rfl, rfl, by rw [hlb1, hub1]; rfl⟩ rfl ?_
        have hp : slicePicked ⟨l.toArray⟩ lb ub none = Builtin.Str.strSliceIndices lo' hi' 1 l.length := by
          unfold slicePicked
          rw [hlb2, hub2, str_len]; rfl
        have hc : ((slicePicked ⟨l.toArray⟩ lb ub none).filterMap ((⟨l.toArray⟩ : Str).cps[·]?)) = cut l lo' hi' := by
          rw [hp, ← strSlice_eq]
          simp
        have hokc := okS_cut hok lo' hi'
        unfold sliceMade
        rw [hc]
        split
        · rename_i hq
          have hlen2 : (slicePicked ⟨l.toArray⟩ lb ub none).length = l.length := by
            rw [Bool.and_eq_true] at hq
            have := hq.2
            rw [beq_iff_eq, str_len] at this
            exact this
          have heq : cut l lo' hi' = l := cut_whole (by rw [← hp]; exact hlen2)
          refine ⟨ρ3, pp, rg, ?_⟩
          rw [heq]
          exact .str l t hok
        · refine ⟨?_, ρ3, pp, rg.toks _, .str _ _ hokc⟩
          rw [str_len]
          unfold cut
          rw [List.length_take, List.length_drop]
          have := list_fits hlen
          omega
      · cases h3
    · cases h3
  · cases h3
end
end Mine
namespace Mine
/-- an item stored -/
def setItemP (v o i : V) : PM Unit := fun st => match o, i with
  | .obj j, .int k => (match st.sto[j]? with
    | some (.list xs) => if xs.length ≤ 1000000 then (match idx xs.length k with | some n => .ok () { st with sto := st.sto.set j (.list (xs.set n v)) } | none => .fail) else .fail
    | _ => .fail)
  | _, _ => .fail
theorem vrs_set {ρ : Map} {v : V} {W : Value} (hv : VR ρ v W) : ∀ {xs : List V} {Xs : List Value} (n : Nat), VRs ρ xs Xs → VRs ρ (xs.set n v) (Xs.set n W)
  | _, _, _, .nil => by simp only [List.set_nil]; exact .nil
  | _, _, 0, .cons x t => .cons hv t
  | _, _, n + 1, .cons x t => .cons x (vrs_set hv n t)
section
variable {cx : Cx}
theorem set_item {ρ : Map} {hid : Hd} {st st' : St} {s : Shared} (x : Rel cx ρ hid st s) {v o i : V} {W A B : Value} (hv : VR ρ v W) (ha : VR ρ o A) (hb : VR ρ i B) (h : setItemP v o i st = .ok () st') {Ar : Around} {Q : Unit → Shared → Prop} {E : Value → Shared → Prop}
    (k : ∀ s', Rel cx ρ hid st' s' → Q () s') : wpAny cx.M Ar (setItem A B W) Q E s := by
  unfold setItemP at h
  split at h
  · rename_i j kk
    obtain ⟨p, hp, rfl⟩ := vr_obj ha
    obtain ⟨t, rfl⟩ := vr_int hb
    split at h
    · rename_i xs hj
      split at h
      · rename_i hl
        split at h
        · rename_i n hn
          cases h
          obtain ⟨fz, led, m, mloc, x⟩ := x
          obtain ⟨Xs, e, g1, g2⟩ := x.list_at hj hp
          have hlen := g1.length
          have hg := x.N _ g2
          obtain ⟨i1, i2, i3⟩ := idx_lt hn
          have fin : ∀ n' : Nat, n' = n → Q () { s with heap := s.heap.update p.1 (Obj.mapSeq (·.setIfInBounds n' W)) } := by
            rintro n' rfl
            have q := PySem.IsL.update hg.1 (·.setIfInBounds n' W)
            have e1 : Xs.toArray.setIfInBounds n' W = (Xs.set n' W).toArray := by apply Array.toList_inj.mp; simp
            rw [e1, if_pos (by simp)] at q
            have hs := Heap.SameBut.update s.heap p.1 (Obj.mapSeq (·.setIfInBounds n' W))
            exact k _ (x.put_list (tk := s.toks) hp g2 (vrs_set hv n' g1) (Fr.sameBut x.F hs hg.2.1 hg.2.2) (News.updL x.N g2 hs q))
          rcases i3 with ⟨k1, k2, k3⟩ | ⟨k1, k2, k3⟩
          · exact ki_setAt hg.1 k1 (by omega) (by rw [List.size_toArray, ← hlen]; exact k3) (fin _ k2.symm)
          · refine ki_setBack hg.1 k1 (by rw [List.size_toArray]; omega) (by omega) (fin _ ?_)
            rw [List.size_toArray, ← hlen]; exact k2.symm
        · cases h
      · cases h
    · cases h
  · cases h
theorem sim_AugItem (ok : cx.Ok) {o i e : Expr} {op : Operator} {pos' pos : Pos} {mo mi me : PM V} {f : V → V → PM V} (ho : SimV cx (eval o cx.env) mo) (hi : SimV cx (eval i cx.env) mi) (he : SimV cx (eval e cx.env) me) (hp : P2 cx (inplaceOp op) f VR)
    (ha : ∀ ov iv new, augStore i ov iv new = (do holding [new, ov, iv] (setItem ov iv new); release [new, ov, iv] []; pure .next)) :
    SimS cx (.AugAssign (.Subscript o i pos') op e pos) (PM.bind mo fun a => PM.bind mi fun b => PM.bind (pItem a b) fun old => PM.bind me fun v => PM.bind (f old v) fun new => PM.bind (setItemP new a b) fun _ => PM.pure .next) := by
  intro ρ hid st s x v st' h
  obtain ⟨a, st1, e1, h1⟩ := bind_ok h
  obtain ⟨b, st2, e2, h2⟩ := bind_ok h1
  obtain ⟨old, st3, e3, h3⟩ := bind_ok h2
  obtain ⟨w, st4, e4, h4⟩ := bind_ok h3
  obtain ⟨new, st5, e5, h5⟩ := bind_ok h4
  obtain ⟨_, st6, e6, h6⟩ := bind_ok h5
  cases h6
  refine wpAny_AugAssign_Subscript_any (wp_seq (ho ρ hid st s x a st1 e1) fun A s1 ρ1 p1 r1 v1 => wp_seq (hi ρ1 hid st1 s1 r1 b st2 e2) fun B s2 ρ2 p2 r2 v2 => wp_seq (p_item ok ρ2 hid st2 s2 r2 a A b B (v1.mono p2) v2 old st3 e3) fun O s3 ρ3 p3 r3 v3 =>
    wp_seq (he ρ3 hid st3 s3 r3 w st4 e4) fun W s4 ρ4 p4 r4 v4 => wp_seq (hp ρ4 hid st4 s4 r4 old O w W (v3.mono p4) v4 new st5 e5) fun N s5 ρ5 p5 r5 v5 => ?_) ha
  have q := pre_trans p3 (pre_trans p4 p5)
  exact set_item r5 v5 (v1.mono (pre_trans p2 q)) (v2.mono q) e6 fun s' r => ⟨ρ5, pre_trans p1 (pre_trans p2 q), r, .next⟩
/-- a tuple taken apart -/
def asgAll : List (V → PM Unit) → List V → PM Unit
  | [], [] => PM.pure ()
  | g :: gs, v :: vs => PM.bind (g v) fun _ => asgAll gs vs
  | _, _ => PM.fail
structure SimGs (cx : Cx) (elts : List Expr) (gs : List (V → PM Unit)) : Prop where
  len : (assignEach elts cx.env).length = gs.length
  star : (assignEach elts cx.env).findIdx? (·.1) = none
  run : PL cx (fun Vs => assignInOrder ((assignEach elts cx.env).map (·.2)) Vs) (asgAll gs) UR
end
end Mine
namespace Mine
section
variable {cx : Cx}
theorem str_toArr_nil {l : List Nat} (h : ((⟨l.toArray⟩ : Str).length == 0) = true) : l = [] := by
  rw [str_len] at h
  cases l with
  | nil => rfl
  | cons a r => simp at h
theorem str_made {x y : List Nat} {t u : Tok} {s : Shared} {Q : Value → Shared → Prop} (hl : x.length + y.length ≤ 1000000) (h : ∀ t' tk, Q (.str ⟨(x ++ y).toArray⟩ t') { s with toks := tk }) :
    (if (⟨x.toArray⟩ : Str).length == 0 then Made.val (.str ⟨y.toArray⟩ u) else if (⟨y.toArray⟩ : Str).length == 0 then Made.val (.str ⟨x.toArray⟩ t) else Made.str ((⟨x.toArray⟩ : Str) ++ (⟨y.toArray⟩ : Str))).post Q s := by
  split
  · rename_i e
    cases str_toArr_nil e
    exact h u s.toks
  · split
    · rename_i e
      cases str_toArr_nil e
      have := h t s.toks
      rw [List.append_nil] at this
      exact this
    · rw [str_app]
      refine ⟨?_, h s.toks _⟩
      rw [str_len, List.length_append]
      exact Nat.le_trans hl (by decide)
theorem p_add : P2 cx (binaryOp .Add) pAdd VR := by
  intro ρ hid st s x a A b B ha hb v st' h
  unfold pAdd at h
  split at h
  · obtain ⟨t, rfl⟩ := vr_int ha; obtain ⟨u, rfl⟩ := vr_int hb
    cases h
    exact PyProof.Rows.add_int (fin_toks x (.int _ _))
  · rename_i p q
    have hp := vr_ok ha; have hq := vr_ok hb
    obtain ⟨t, rfl⟩ := vr_str ha; obtain ⟨u, rfl⟩ := vr_str hb
    split at h
    · rename_i hl
      cases h
      exact lf x.pos (PySem.P.add_str (str_made hl fun t' tk htk => fin_toks x (.str _ t' (okS_append hp hq))))
    · cases h
  · rename_i i j
    obtain ⟨p, hp, rfl⟩ := vr_obj ha; obtain ⟨q, hq, rfl⟩ := vr_obj hb
    split at h
    · rename_i xs ys e1 e2
      obtain ⟨fz, led, m, mloc, r⟩ := id x
      obtain ⟨Xs, n1, v1, m1⟩ := r.list_at e1 hp
      obtain ⟨Ys, n2, v2, m2⟩ := r.list_at e2 hq
      unfold allocList at h
      split at h
      · rename_i hl
        cases h
        refine PyProof.Rows.add_lists r.F r.N (News.isList r.N m1) (News.isList r.N m2) (fun h' F' N' => ?_) ?_
        · refine ⟨ρ ++ [(s.heap.objs.size, s.heap.objs.size)], List.prefix_append _ _, RelD.rel (r.go (tk := s.toks) F' N' (r.B.alloc (news_fresh r.N) (o := .list (xs ++ ys)) ⟨Xs ++ Ys, 0, (vrs_append v1 v2).mono (List.prefix_append _ _), .head _⟩)), ?_⟩
          have := VR.obj (alloc_get ρ (s.heap.objs.size, s.heap.objs.size))
          rw [r.B.len] at this
          exact this
        · rw [← vrs_length v1, ← vrs_length v2, ← List.length_append]
          exact Nat.le_trans hl (by decide)
      · cases h
    · cases h
  · cases h
/-- += on names: ints and texts -/
def pIAdd : V → V → PM V
  | .int a, .int b => PM.pure (.int (a + b))
  | .str a, .str b => fun st => if a.length + b.length ≤ 1000000 then .ok (.str (a ++ b)) st else .fail
  | _, _ => PM.fail
theorem p_iadd : P2 cx (inplaceOp .Add) pIAdd VR := by
  intro ρ hid st s x a A b B ha hb v st' h
  unfold pIAdd at h
  split at h
  · obtain ⟨t, rfl⟩ := vr_int ha; obtain ⟨u, rfl⟩ := vr_int hb
    cases h
    exact PyProof.Rows.iadd_int (fin_toks x (.int _ _))
  · rename_i p q
    have hp := vr_ok ha; have hq := vr_ok hb
    obtain ⟨t, rfl⟩ := vr_str ha; obtain ⟨u, rfl⟩ := vr_str hb
    split at h
    · rename_i hl
      cases h
      exact lf x.pos (PySem.P.iadd_str (str_made hl fun t' tk htk => fin_toks x (.str _ t' (okS_append hp hq))))
    · cases h
  · cases h
/-- range of one, two, three ints -/
def cRange : List V → PM V
  | [.int n] => alloc (.range 0 n 1)
  | [.int a, .int b] => alloc (.range a b 1)
  | _ => PM.fail
/-- the small forms of the signs that we know -/
def lowP (c : Nat) : Nat := if 65 ≤ c ∧ c ≤ 90 then c + 32 else if c = 201 then 233 else if c = 1046 then 1078 else if c = 7838 then 223 else if c = 8490 then 107 else c
def joinL (sep : List Nat) : List (List Nat) → List Nat
  | [] => []
  | [x] => x
  | x :: r => x ++ sep ++ joinL sep r
def strsOf : List V → Option (List (List Nat))
  | [] => some []
  | .str l :: r => (strsOf r).map (l :: ·)
  | _ => none
theorem strsOf_eq : ∀ {vs : List V} {ls : List (List Nat)}, strsOf vs = some ls → vs = ls.map V.str
  | [], ls, h => by cases h; rfl
  | .str l :: r, ls, h => by
    unfold strsOf at h
    obtain ⟨x, hx, rfl⟩ := Option.map_eq_some_iff.mp h
    rw [strsOf_eq hx]; rfl
  | .none :: _, _, h => by cases h
  | .bool _ :: _, _, h => by cases h
  | .int _ :: _, _, h => by cases h
  | .byt _ :: _, _, h => by cases h
  | .obj _ :: _, _, h => by cases h
  | .glob _ :: _, _, h => by cases h
theorem strsOf_map : ∀ ls : List (List Nat), strsOf (ls.map V.str) = some ls
  | [] => rfl
  | l :: r => by rw [List.map_cons, strsOf, strsOf_map r]; rfl
def cJoin : List V → PM V
  | [.str sep, .obj j] => fun st => match st.sto[j]? with
    | some (.list xs) => (match strsOf xs with
      | some ls => if (ls.map (·.length)).sum + ls.length ≤ 1000000 ∧ sep.length ≤ 16 then .ok (.str (joinL sep ls)) st else .fail
      | none => .fail)
    | _ => .fail
  | _ => PM.fail
theorem join_eq (sep : List Nat) : ∀ ls : List (List Nat), Str.join ⟨sep.toArray⟩ (ls.map fun p => ⟨p.toArray⟩) = ⟨(joinL sep ls).toArray⟩
  | [] => rfl
  | [x] => rfl
  | x :: y :: r => by
    have ih := join_eq sep (y :: r)
    show ((⟨x.toArray⟩ : Str) ++ (⟨sep.toArray⟩ : Str)) ++ Str.join ⟨sep.toArray⟩ ((y :: r).map fun p => ⟨p.toArray⟩) = _
    rw [ih, str_app, str_app]
    rfl
theorem okS_join {sep : List Nat} (hs : okS sep) : ∀ {ls : List (List Nat)}, (∀ l ∈ ls, okS l) → okS (joinL sep ls)
  | [], _ => fun c hc => by cases hc
  | [x], h => h x (.head _)
  | x :: y :: r, h => okS_append (okS_append (h x (.head _)) hs) (okS_join hs fun l hl => h l (.tail _ hl))
theorem vrs_texts {ρ : Map} : ∀ {ls : List (List Nat)} {Vs : List Value}, VRs ρ (ls.map V.str) Vs → ∃ q : List (Str × Tok), Vs = strValues q ∧ q.map (·.1) = ls.map (fun p => (⟨p.toArray⟩ : Str)) ∧ ∀ l ∈ ls, okS l
  | [], _, .nil => ⟨[], rfl, rfl, fun l hl => by cases hl⟩
  | l :: ls, _, .cons x t => by
    obtain ⟨q, rfl, e, o⟩ := vrs_texts t
    have ho := vr_ok x
    obtain ⟨u, rfl⟩ := vr_str x
    refine ⟨(⟨l.toArray⟩, u) :: q, rfl, ?_, ?_⟩
    · rw [List.map_cons, List.map_cons, e]
    · intro z hz
      rcases List.mem_cons.mp hz with rfl | hz
      · exact ho
      · exact o z hz
theorem pc_join : PC cx (.builtin "str.join") cJoin := by
  intro ρ hid st s x vs Vs hv v st' h
  unfold cJoin at h
  split at h
  · rename_i sep j
    obtain ⟨A, B, rfl, a1, a2⟩ := vrs_two hv
    have hs' := vr_ok a1
    obtain ⟨t, rfl⟩ := vr_str a1; obtain ⟨p, hp, rfl⟩ := vr_obj a2
    split at h
    · rename_i xs hj
      split at h
      · rename_i ls hls
        split at h
        · rename_i hb
          cases h
          obtain ⟨fz, led, m, mloc, r⟩ := id x
          obtain ⟨Xs, n1, v1, m1⟩ := r.list_at hj hp
          rw [strsOf_eq hls] at v1
          obtain ⟨q, rfl, e, ho⟩ := vrs_texts v1
          refine lf x.pos (SC.join (News.isList r.N m1) e ?_ fun t' k htk => ?_)
          · refine joinOk_of_weight ?_ ?_
            · have : (ls.map fun p => (⟨p.toArray⟩ : Str)).map (·.length) = ls.map (·.length) := by
                rw [List.map_map]
                refine List.map_congr_left fun a _ => ?_
                exact str_len a
              rw [this, List.length_map]
              have := hb.1
              omega
            · rw [str_len]; exact hb.2
          · have : Txt.join ⟨sep.toArray⟩ (ls.map fun p => (⟨p.toArray⟩ : Str)) = ⟨(joinL sep ls).toArray⟩ := (StrLaws.glued_eq_join _ _).trans (join_eq sep ls)
            rw [this]
            exact fin_toks x (.str _ t' (okS_join hs' ho))
        · cases h
      · cases h
    · cases h
  · cases h
end
end Mine
namespace Mine
section
variable {cx : Cx}
/-- the law's own argument: a list of ints that stood before -/
def Old (cx : Cx) (a : Addr) (xs : List Int) : Prop := ∃ Vs : List Value, cx.h₀.IsList a Vs.toArray ∧ IntsAre Vs xs
theorem ints_vrs {ρ : Map} : ∀ {Vs : List Value} {xs : List Int}, IntsAre Vs xs → VRs ρ (xs.map V.int) Vs
  | _, _, .nil => .nil
  | _, _, .cons _ _ t => .cons (.int _ _) (ints_vrs t)
theorem isList_keep {h h' : Heap} {a : Addr} {vs : Array Value} (x : h.IsList a vs) (k : ∀ b o, h.get? b = some o → h'.get? b = some o) : h'.IsList a vs := by
  obtain ⟨o, ho, r⟩ := x
  exact ⟨o, k _ _ ho, r⟩
theorem envOfC_inj {qual : Str} {scope : Scope} {f : Addr} {cdv : Value} {L' : Addr} (x y : Str) (c : Addr) (hx : (envOfC qual scope L' f cdv).cells.lookup x = some c) (hy : (envOfC qual scope L' f cdv).cells.lookup y = some c) : x = y := by
  have h := (cellsFrom_addr scope.names (L' + 1) [] (fun _ h => nomatch h) .nil).1
  have h1 := lookup_mem (l := cellsFrom (L' + 1) scope.names []) hx
  have h2 := lookup_mem (l := cellsFrom (L' + 1) scope.names []) hy
  generalize cellsFrom (L' + 1) scope.names [] = l at h h1 h2
  induction l with
  | nil => cases h1
  | cons a r ih =>
    rw [List.map_cons, List.nodup_cons] at h
    rcases List.mem_cons.mp h1 with e | e <;> rcases List.mem_cons.mp h2 with e' | e'
    · exact (Prod.mk.inj (e.trans e'.symm)).1
    · exact absurd (List.mem_map_of_mem (f := (·.2)) e') (by rw [← e] at h; exact h.1)
    · exact absurd (List.mem_map_of_mem (f := (·.2)) e) (by rw [← e'] at h; exact h.1)
    · exact ih h.2 e e'
def iterG (a : Addr) (xs : List Int) : V → PM (Src × List V)
  | .glob (.ref b) => if b = a then PM.pure (none, xs.map V.int) else PM.fail
  | _ => PM.fail
/-- the first env of all: one parameter, no cell; the tokens that stand then are not none -/
theorem newEnv_one {M : Model} {A : Around} {E : Value → Shared → Prop} {s : Shared} {scope : Scope} {globals : Addr} {n : Str} {v : Value} {qual : Str} {func : Option Addr} {code : Value} {builtins : Addr} {Q : Env → Shared → Prop}
    (hk : scope.kind = .function) (hl : scope.names.lookup n = some .local)
    (hQ : ∀ env, env = newEnv scope s.heap.objs.size globals (cellsFrom (s.heap.objs.size + 1) scope.names []) qual func code none builtins →
      ∀ s', InCallC s env.locals (bindL env.kindOf [(n, v)] fun _ => none) env.cells (bindC env.kindOf [(n, v)] fun _ => none) s' → 0 < s'.toks → Q env s') :
    wpAny M A (newFunctionEnv scope globals [] [(n, v)] qual func code none builtins) Q E s := by
  simp only [newFunctionEnv, Option.isSome_none, Bool.false_eq_true, if_false]
  refine wpAny_bind (wpAny_alloc ?_)
  refine wpAny_bind (wpAny_layCells _ (fun name kind cells => by cases hkc : kind == NameKind.cell <;> simp [hkc]) _ _ _ _ ?_)
  have ok := cellsFrom_ok scope.names (s.heap.push { cls := .type "frame", data := .dict #[] }) (s.heap.objs.size + 1) [] ⟨fun _ _ hm => (nomatch hm), List.Pairwise.nil⟩ (by rw [Heap.size_push]; exact Nat.le_refl _)
  rw [Heap.size_push] at ok
  rw [show ({ s with heap := s.heap.push { cls := .type "frame", data := .dict #[] } } : Shared).heap.objs.size = s.heap.objs.size + 1 from Heap.size_push ..]
  have x : InCallC s (newEnv scope s.heap.objs.size globals (cellsFrom (s.heap.objs.size + 1) scope.names []) qual func code none builtins).locals (fun _ => none) (newEnv scope s.heap.objs.size globals (cellsFrom (s.heap.objs.size + 1) scope.names []) qual func code none builtins).cells (fun _ => none)
      { s with heap := pushCells (s.heap.push { cls := .type "frame", data := .dict #[] }) scope.names } :=
    ⟨⟨⟨_, _, rfl⟩, (Heap.Ns.new s.heap (.type "frame")).keeps (pushCells_keeps _ _), fun b o e => pushCells_keeps _ _ b o (Heap.get?_push_of_some _ e), Nat.le_refl _⟩,
      fun n c hc => (ok.empty n c (mem_of_lookup hc)).1, ok.apart, fun n c hm => (ok.empty n c hm).2⟩
  refine wpAny_bind ?_
  rw [List.forIn_cons]
  refine wpAny_bind (wpAny_bind (wpAny_storeName_local hl x.toInCall.ns (fun h' hn' hs' => wpAny_pure ?_) (by dsimp only; rw [hk]; rfl)))
  refine wpAny_pure (wpAny_pure (hQ _ rfl _ ⟨⟨⟨_, _, rfl⟩, ?_, fun b o e => ?_, x.toInCall.fresh⟩, fun k c hc => ?_, x.apart, x.above⟩ (Nat.succ_pos _)))
  · unfold bindL bindL
    rw [if_pos (show (newEnv scope s.heap.objs.size globals (cellsFrom (s.heap.objs.size + 1) scope.names []) qual func code none builtins).kindOf n = _ from hl)]
    exact hn'
  · exact hs'.extBut b o (Nat.ne_of_lt (Nat.lt_of_lt_of_le (Heap.lt_size e) x.toInCall.fresh)) (x.toInCall.keep b o e)
  · unfold bindC bindC
    rw [if_pos (show (newEnv scope s.heap.objs.size globals (cellsFrom (s.heap.objs.size + 1) scope.names []) qual func code none builtins).kindOf n = _ from hl)]
    exact (x.cell k c hc).sameBut hs' (Nat.ne_of_gt (x.above k c (mem_of_lookup hc)))
theorem call_first {prog : Program} {w : World} {A : Around} {R : Result → Shared → Prop} {s : Shared} {fd : FuncData} {body : List Stmt} {f : Addr} {fo : Obj} {args : Args} {n : Str} {v : Value}
    (hroom : A.depth < recursionLimit) (ho : s.heap.get? f = some fo) (hd : fo.data = .func fd) (hbd : fd.body = .stmts body) (hcl : fd.closure = []) (hgl : fd.globals = mainGlobals) (hbn : fd.builtins = builtinsNs) (hlim : s.heap.NoLimit) (hcd : s.heap.CodeRec fd.code fd.qualname)
    (hbind : bindArgs fd args = pure [(n, v)]) (hkind : fd.scope.names.lookup n = some .local)
    (hnd : ((cellsFrom 0 fd.scope.names []).map (·.1)).Nodup)
    (h : ∀ h₁ tk cells, 0 < tk → Fr s.heap s.heap.objs.size h₁ (bindL (envOfC fd.qualname fd.scope s.heap.objs.size f fd.code).kindOf [(n, v)] fun _ => none) → News s.heap s.heap.objs.size h₁ cells →
      CellsAre (bindC (envOfC fd.qualname fd.scope s.heap.objs.size f fd.code).kindOf [(n, v)] fun _ => none) (cellsFrom (s.heap.objs.size + 1) fd.scope.names []) cells →
      wpAny (model prog w) (A.deeper (envOfC fd.qualname fd.scope s.heap.objs.size f fd.code)) (execs body (envOfC fd.qualname fd.scope s.heap.objs.size f fd.code))
        (fun fl s' => R (.ok (.ret (match fl with | .ret v => v | _ => .none))) s') (fun _ _ => False) { s with heap := h₁, toks := tk })
    (hco : fd.scope.isCoroutine = false) (hgen : fd.scope.isGenerator = false) (hk : fd.scope.kind = .function) : codeAny (model prog w) A (.call (.ref f) args) R s := by
  obtain ⟨name, qualname, params, bd, scope, globals, closure, defaults, kwdefaults, doc, pyModule, annotations, code, closureTuple, builtins⟩ := fd
  dsimp only at *
  subst hbd hcl hgl hbn
  refine codeAny_call_function hroom ho hd hco hgen rfl hcd ?_
  rw [hbind]
  refine wpAny_pure (newEnv_one hk hkind fun env' he s' x htk => ?_)
  subst he
  refine ⟨hlim.keeps x.toInCall.keep, codeAny_func ?_⟩
  obtain ⟨h₁, tk, rfl, _⟩ := x.done
  obtain ⟨cells, NC, Y⟩ := Cl.news (h₀ := s.heap) (Nat.le_refl _) fun n c hm => ⟨x.cell n c (lookup_of_mem_nodup (cellsFrom_names scope.names 0 (s.heap.objs.size + 1) [] [] rfl ▸ hnd) hm), x.above n c hm⟩
  exact wpAny_mono (h h₁ tk cells htk ⟨x.toInCall.ns, x.toInCall.keep, Nat.le_refl _⟩ NC Y) (fun fl s' hl => hl) fun _ _ y => y.elim
/-- no function is made in the law's texts -/
def lam0 : FuncBody × Arguments × Scope × Str := ⟨.stmts [], ⟨[], [], none, [], [], none, []⟩, ⟨.function, [], false, false, []⟩, Str.ofString ""⟩
/-- the first place: a law called by the claim's caller -/
abbrev cxOf (prog : Program) (w : World) (K : Frag) (C : Addr) (p : Program) (loose : List Str) (mg mb : Str → Option Value) (s : Shared) (env : Env) (n : Nat) : Cx :=
  { prog, w, K, C, p, loose, mg, mb, h₀ := s.heap, L := s.heap.objs.size, A := callerA.deeper env, fenv := env, env, base := s.heap, outer := [], os := s.os, n, fm := fun _ => none, fzn := false, lam := lam0, tab := (0, #[], ⟨0, 0, 0, 0⟩) }
theorem enter_law {prog : Program} {w : World} {K : Frag} {C : Addr} {p : Program} {loose : List Str} {mg mb : Str → Option Value} {s : Shared} {name : Str} {params : Arguments} {body : List Stmt} {scope : Scope} {pm cd doc : Value} {fa a : Addr} {o : Obj} {n : Nat}
    {mbody : PM Fl} {R : Result → Shared → Prop} {Vs : List Value} {xs : List Int}
    (hn : n ≤ 100) (T : TopRead p loose mg mb s.heap) (hBM : BM mg s.heap) (kin : K.In s.heap) (ho : s.heap.get? fa = some o) (hd : o.data = .func (Calls.docDef name params body scope pm cd doc)) (hcd : s.heap.CodeRec cd name) (hg : s.gens = #[])
    (hl : s.heap.IsList a Vs.toArray) (hI : IntsAre Vs xs)
    (hbind : bindArgs (Calls.docDef name params body scope pm cd doc) ⟨[.ref a], []⟩ = pure [(Str.ofString "script", .ref a)])
    (hkind : scope.names.lookup (Str.ofString "script") = some .local) (hnd : ((cellsFrom 0 scope.names []).map (·.1)).Nodup)
    (hco : scope.isCoroutine = false) (hgen : scope.isGenerator = false) (hk : scope.kind = .function)
    (hbody : (cxOf prog w K C p loose mg mb s (envOfC name scope s.heap.objs.size fa cd) n).Ok → Old (cxOf prog w K C p loose mg mb s (envOfC name scope s.heap.objs.size fa cd) n) a xs →
      SimSs (cxOf prog w K C p loose mg mb s (envOfC name scope s.heap.objs.size fa cd) n) body mbody)
    (hrun : ∃ st', mbody ⟨fun k => if k = "script" then some (.glob (.ref a)) else none, []⟩ = .ok (.ret (.bool true)) st')
    (hR : ∀ s', (∃ L m, Fr s.heap L s'.heap m) → s'.gens = #[] → s'.os = s.os → R (.ok (.ret (.bool true))) s') : codeAny (model prog w) callerA (.call (.ref fa) ⟨[.ref a], []⟩) R s := by
  obtain ⟨st', hrun⟩ := hrun
  refine call_first (by decide) ho hd rfl rfl rfl rfl T.nolimit hcd hbind hkind hnd (fun h₁ tk cells htk F' N' C' => ?_) hco hgen hk
  · have hO : Old (cxOf prog w K C p loose mg mb s (envOfC name scope s.heap.objs.size fa cd) n) a xs := ⟨Vs, hl, hI⟩
    have ok : (cxOf prog w K C p loose mg mb s (envOfC name scope s.heap.objs.size fa cd) n).Ok :=
      { bmain := hBM, kin := kin, top := T, below := ⟨callerA, below_caller _⟩, frames := rfl, fframe := rfl, fkind := hk, kind := hk, globals := rfl, builtins := rfl, handled := rfl
        depth := by
          show callerA.depth + 1 + 4 * n + 4 < recursionLimit
          have : callerA.depth = 301 := by decide
          have : recursionLimit = 1000 := rfl
          omega
        units := by
          show callerA.units + 3 + 40 * n + 200 < cLine
          have : callerA.units = 4 := rfl
          have : cLine = 9900 := rfl
          omega
        cinj := envOfC_inj }
    let cx0 : Cx := { (cxOf prog w K C p loose mg mb s (envOfC name scope s.heap.objs.size fa cd) n) with env := { envOfC name scope s.heap.objs.size fa cd with cells := [] } }
    have B0 : Bear cx0 [] ⟨[], []⟩ [] [] (fun _ => none) (fun _ => none) ⟨fun _ => none, []⟩ :=
      ⟨.nil, fun _ => rfl, .inl ⟨rfl, rfl⟩, rfl, fun _ h => (nomatch h), fun i o p h => by simp at h, fun i j p q h => by simp at h, fun _ h => (nomatch h), fun _ h => (nomatch h), fun x c h => (nomatch h), fun x c h => (nomatch h), fun _ h => (nomatch h), fun _ h => (nomatch h), fun _ h => (nomatch h),
        fun _ h => (nomatch h), fun _ _ h => (nomatch h), fun n v h => (nomatch h)⟩
    have Br := bear_inn (cx := cx0) (k := n) (qual := name) (scope := scope) (f := fa) (cdv := cd) (g := s.heap) (L' := s.heap.objs.size) (ps := ["script"]) (vs := [.glob (.ref a)]) (Vs := [.ref a]) B0 (fun _ h => (nomatch h)) (.cons (.glob _) .nil) (by simp) (fun q hq => by
      rw [List.mem_singleton] at hq; subst hq; exact .inl hkind) C'
    have R' : Rel (cxOf prog w K C p loose mg mb s (envOfC name scope s.heap.objs.size fa cd) n) [] ⟨[], []⟩ ⟨fun k => if k = "script" then some (.glob (.ref a)) else none, []⟩ { s with heap := h₁, toks := tk } := by
      refine ⟨[], cells ++ [], _, bindL (envOfC name scope s.heap.objs.size fa cd).kindOf [(Str.ofString "script", .ref a)] fun _ => none, F', by rw [List.append_nil]; exact N', ?_, hg, rfl, htk⟩
      have e : (⟨fun n => ([("script" : String)].zip [V.glob (.ref a)]).lookup n, []⟩ : St) = ⟨fun k => if k = "script" then some (.glob (.ref a)) else none, []⟩ := by
        congr 1
        funext k
        simp only [List.zip_cons_cons, List.zip_nil_left, List.lookup_cons, List.lookup_nil]
        by_cases hk : k = "script"
        · subst hk; simp
        · have : (k == "script") = false := by simpa using hk
          simp [hk, this]
      rw [← e]
      exact ⟨Br.nd, fun h => absurd rfl h, Br.ln, Br.len, Br.own, fun i o p h => by simp at h, Br.sep, Br.hin, Br.hsep, Br.cel, Br.csep, Br.fin, Br.fz0, Br.hfz, Br.fsep, Br.fcel, Br.loc⟩
    refine wpAny_mono (hbody ok hO [] _ _ _ R' _ _ hrun) (fun fw s' hq => ?_) fun _ _ z => z.elim
    obtain ⟨ρ', hρ, ⟨fz', led', m', mloc', r'⟩, hfl⟩ := hq
    cases hfl with
    | ret hv =>
      cases vr_bool hv
      exact hR s' ⟨_, _, r'.F⟩ r'.gens r'.os
end
end Mine
namespace Mine
def isStarred : Expr → Bool
  | .Starred .. => true
  | _ => false
theorem star_plain {e : Expr} {es : List Expr} {env : Env} (h : isStarred e = false) : starEach (e :: es) env = (false, eval e env) :: starEach es env := by
  cases e <;> first | rfl | cases h
theorem plain_nil {pos : Pos} {env : Env} : (backTo pos (starEach [] env)).any (·.1) = false := rfl
theorem plain_cons {pos : Pos} {e : Expr} {es : List Expr} {env : Env} (h : isStarred e = false) (t : (backTo pos (starEach es env)).any (·.1) = false) : (backTo pos (starEach (e :: es) env)).any (·.1) = false := by
  rw [star_plain h]
  show (false || (backTo pos (starEach es env)).any (·.1)) = false
  rw [t]; rfl
theorem call_name {x : Str} {p pos : Pos} {es : List Expr} {env : Env} : eval (.Call (.Name x p) es [] pos) env = (eval (.Name x p) env >>= fun fv => callWith pos fv [] (backTo pos (starEach es env)) []) := rfl
def plainBase : Expr → Bool
  | .Call (.Name _ _) [] [] _ => false
  | _ => true
theorem base_plain {o : Expr} {name : Str} {env : Env} {t : Sem Value} (h : plainBase o = true) : attributeBase o name env t = t := by
  unfold attributeBase
  split
  · cases h
  · rfl
theorem form_few : ∀ {l : List (Bool × Sem Value)} {n : Nat}, l.any (·.1) = false → n < 30 → methodCallForm n l [] = true := by
  intro l n h1 h2
  unfold methodCallForm
  have : l.all (fun x => !x.1) = true := by
    rw [List.all_eq_true]
    intro x hx
    have := List.any_eq_false.mp h1 x hx
    simpa using this
  rw [this]
  simpa using h2
theorem meth_form {cx : Cx} {o : Expr} {name : Str} {apos pos : Pos} {es : List Expr} (hb : plainBase o = true) (hp : (backTo pos (starEach es cx.env)).any (·.1) = false) (hl : Nat.ble 30 es.length = false) (hline : (apos.endLine == pos.line) = true) :
    MethForm cx o name apos pos es (do return (← importBound o cx.env).getD true) := by
  unfold MethForm
  rw [arm_eval_Call, base_plain hb]
  have hl' : es.length + ([] : List Keyword).length < 30 := by
    have : ¬ 30 ≤ es.length := fun e => by rw [Nat.ble_eq_true_of_le e] at hl; cases hl
    simp; omega
  have hform : methodCallForm (es.length + ([] : List Keyword).length) (backTo pos (starEach es cx.env)) (backToKw pos (keywordEach [] cx.env)) = true := form_few hp hl'
  have hpos : methodCallPos true o cx.env apos pos = pure pos := by unfold methodCallPos; simp [hline]
  unfold methodCall
  rw [hform, hpos]
  rfl
section
variable {cx : Cx}
theorem sim_ML (ok : cx.Ok) {o : Expr} {name : Str} {bid : String} {apos pos : Pos} {es : List Expr} {mo : PM V} {ma : PM (List V)} {f : List V → PM V} (slot : Slot "list" name bid) (hty : typeOf (.builtin bid) = pure (.type "method_descriptor"))
    (hp : PC cx (.builtin bid) f) (ho : SimV cx (eval o cx.env) mo) (ha : SimL cx pos es ma) (hplain : (backTo pos (starEach es cx.env)).any (·.1) = false) (hb : plainBase o = true) (hl : Nat.ble 30 es.length = false) (hline : (apos.endLine == pos.line) = true) :
    SimV cx (eval (.Call (.Attribute o name apos) es [] pos) cx.env) (PM.bind mo fun v => PM.bind (isList v) fun _ => PM.bind ma fun vs => f (v :: vs)) :=
  sim_MethL ok slot hty hp ho ha hplain (meth_form hb hplain hl hline)
theorem sim_MS (ok : cx.Ok) {o : Expr} {name : Str} {bid : String} {apos pos : Pos} {es : List Expr} {mo : PM V} {ma : PM (List V)} {f : List V → PM V} (slot : Slot "str" name bid) (hty : typeOf (.builtin bid) = pure (.type "method_descriptor"))
    (hp : PC cx (.builtin bid) f) (ho : SimV cx (eval o cx.env) mo) (ha : SimL cx pos es ma) (hplain : (backTo pos (starEach es cx.env)).any (·.1) = false) (hb : plainBase o = true) (hl : Nat.ble 30 es.length = false) (hline : (apos.endLine == pos.line) = true) :
    SimV cx (eval (.Call (.Attribute o name apos) es [] pos) cx.env) (PM.bind mo fun v => PM.bind (isStr v) fun _ => PM.bind ma fun vs => f (v :: vs)) :=
  sim_MethS ok slot hty hp ho ha hplain (meth_form hb hplain hl hline)
end
end Mine
namespace Mine
section
variable {cx : Cx}
/-- the script: its length, an item, a cut, a copy -/
def cLenG (a : Addr) (xs : List Int) : List V → PM V
  | [.glob (.ref b)] => fun st => if b = a ∧ xs.length ≤ 1000000 then .ok (.int xs.length) st else .fail
  | _ => PM.fail
theorem old_list {a : Addr} {xs : List Int} (hO : Old cx a xs) {ρ : Map} {hid : Hd} {st : St} {s : Shared} (x : Rel cx ρ hid st s) : ∃ Vs : List Value, s.heap.IsList a Vs.toArray ∧ VRs ρ (xs.map V.int) Vs ∧ Vs.length = xs.length := by
  obtain ⟨Vs, h1, h2⟩ := hO
  obtain ⟨fz, led, m, mloc, r⟩ := x
  have := ints_vrs (ρ := ρ) h2
  exact ⟨Vs, isList_keep h1 r.F.keep, this, by rw [← this.length, List.length_map]⟩
def cListG (a : Addr) (xs : List Int) : List V → PM V
  | [.glob (.ref b)] => fun st => if b = a ∧ xs.length ≤ 1000000 then alloc (.list (xs.map V.int)) st else .fail
  | _ => PM.fail
/-- a list new in the heap enters the store -/
theorem rel_made {ρ : Map} {hid : Hd} {st : St} {s : Shared} (x : Rel cx ρ hid st s) {D : Addr} {c : Nat} {h' : Heap} {tk : Nat} {xs : List V} {Xs : List Value} (hk : ∀ b o, s.heap.get? b = some o → h'.get? b = some o) (hD : s.heap.objs.size ≤ D) (ho : h'.get? D = some (listObj Xs c)) (hv : VRs ρ xs Xs)
    (htk : 0 < tk := by first | assumption | exact Nat.succ_pos _ | exact Rel.pos (by assumption) | exact RelD.tk (by assumption)) :
    Rel cx (ρ ++ [(D, D)]) hid { st with sto := st.sto ++ [.list xs] } { s with heap := h', toks := tk } ∧ VR (ρ ++ [(D, D)]) (.obj st.sto.length) (.ref D) := by
  obtain ⟨fz, led, m, mloc, x⟩ := x
  have hfr : ∀ q ∈ led, q.1 ≠ D := fun q hq => Nat.ne_of_lt (Nat.lt_of_lt_of_le (Heap.lt_size (x.N q hq).1) hD)
  have F' : Fr cx.h₀ cx.L h' m := ⟨x.F.ns.keeps hk, fun b o e => hk b o (x.F.keep b o e), x.F.above⟩
  have N' : News cx.h₀ cx.L h' ((D, listObj Xs c) :: led) := fun q hq => by
    rcases List.mem_cons.mp hq with rfl | hq
    · refine ⟨ho, Nat.ne_of_gt (Nat.lt_of_lt_of_le x.F.ns.lt hD), ?_⟩
      cases e : cx.h₀.get? D with
      | none => rfl
      | some o' => exact absurd (Heap.lt_size (x.F.keep _ _ e)) (Nat.not_lt_of_le hD)
    · have := x.N q hq
      exact ⟨hk _ _ this.1, this.2⟩
  refine ⟨RelD.rel (x.go (tk := tk) F' N' (x.B.alloc hfr (o := .list xs) ⟨Xs, c, hv.mono (List.prefix_append _ _), .head _⟩)), ?_⟩
  have := VR.obj (alloc_get ρ (D, D))
  rw [x.B.len] at this
  exact this
theorem pc_listG {a : Addr} {xs : List Int} (hO : Old cx a xs) : PC cx (.type "list") (cListG a xs) := by
  intro ρ hid st s x vs Vs hv v st' h
  unfold cListG at h
  split at h
  · rename_i b
    split at h
    · rename_i hb
      obtain ⟨rfl, hl⟩ := hb
      cases h
      obtain ⟨A, rfl, ha⟩ := vrs_one hv
      cases vr_glob ha
      obtain ⟨Vs, g1, g2, g3⟩ := old_list hO x
      obtain ⟨o, ho, hc, n, hd⟩ := g1
      refine call_list_seq (hsz := by rw [List.size_toArray, g3]; exact list_fits hl) b (.inl rfl) ho hc hd fun h' c' hk hD => ?_
      obtain ⟨r1, r2⟩ := rel_made (tk := s.toks) x hk (Nat.le_refl _) hD g2
      exact ⟨_, List.prefix_append _ _, r1, r2⟩
    · cases h
  · cases h
/-- max, min of two ints; max of a list of ints -/
def intsOf : List V → Option (List Int)
  | [] => some []
  | .int i :: r => (intsOf r).map (i :: ·)
  | _ => none
def maxL : List Int → Int
  | [] => 0
  | [a] => a
  | a :: r => if maxL r > a then maxL r else a
def cMax : List V → PM V
  | [.int a, .int b] => PM.pure (.int (if b > a then b else a))
  | [.obj i] => fun st => match st.sto[i]? with
    | some (.list xs) => (match intsOf xs with | some l => if l ≠ [] then .ok (.int (maxL l)) st else .fail | none => .fail)
    | _ => .fail
  | _ => PM.fail
def cMin : List V → PM V
  | [.int a, .int b] => PM.pure (.int (if b < a then b else a))
  | _ => PM.fail
theorem gives_gt_bi (p : Bool) (b : Int) (u : Tok) : Gives (Builtin.«int.__gt__» ⟨[.bool p, .int b u], []⟩) (.val (Value.bool ((fun x1 x2 => decide (x1 > x2)) (if p = true then (1 : Int) else 0) b))) :=
  .of_wp fun M A E s Q h => by obtain ⟨hp, g, d, tk, os⟩ := s; wp_walk; exact ⟨_, rfl, h⟩
theorem gives_lt_bi (p : Bool) (b : Int) (u : Tok) : Gives (Builtin.«int.__lt__» ⟨[.bool p, .int b u], []⟩) (.val (Value.bool ((fun x1 x2 => decide (x1 < x2)) (if p = true then (1 : Int) else 0) b))) :=
  .of_wp fun M A E s Q h => by obtain ⟨hp, g, d, tk, os⟩ := s; wp_walk; exact ⟨_, rfl, h⟩
theorem gt_bool_int {prog : Program} {w : World} {A : Around} {E : Value → Shared → Prop} {s : Shared} {Q : Value → Shared → Prop} {a : Bool} {b : Int} {u : Tok} (h : Q (.bool (decide (b < (if a then 1 else 0)))) s) : wpAny (model prog w) A (compareOp .Gt (.bool a) (.int b u)) Q E s := by
  show wpAny (model prog w) A (richCompare .Gt (.bool a) (.int b u)) Q E s
  refine SeqAt.rc_left_or (op := .Gt) (Ta := "bool") (Tb := "int") (id := "int.__gt__") (typeIs_bool' s a) (typeIs_int s b u) (by decide) F.sub_int_bool F.slot_bool_gt ?_ (.inl rfl)
  refine call_gives F.slot_bool_gt (typeIs_bool' s a) F.entry_int_gt (F.args_int_gt_2 _ _) (gives_gt_bi a b u) ?_
  exact ⟨nofun, h⟩
theorem gt_int_bool {prog : Program} {w : World} {A : Around} {E : Value → Shared → Prop} {s : Shared} {Q : Value → Shared → Prop} {a : Int} {t : Tok} {b : Bool} (h : Q (.bool (decide ((if b then 1 else 0) < a))) s) : wpAny (model prog w) A (compareOp .Gt (.int a t) (.bool b)) Q E s := by
  show wpAny (model prog w) A (richCompare .Gt (.int a t) (.bool b)) Q E s
  refine SeqAt.rc_sub_first_or (op := .Gt) (Ta := "int") (Tb := "bool") (id := "int.__lt__") (typeIs_int s a t) (typeIs_bool' s b) (by decide) F.sub_bool_int F.slot_bool_lt_refl ?_ (.inl rfl)
  refine call_gives F.slot_bool_lt_refl (typeIs_bool' s b) F.entry_int_lt (F.args_int_lt_2 _ _) (gives_lt_bi b a t) ?_
  exact ⟨nofun, h⟩
theorem p_gt : P2 cx (compareOp .Gt) pGt VR := by
  intro ρ hid st s x a A b B ha hb v st' h
  unfold pGt at h
  split at h
  · obtain ⟨t, rfl⟩ := vr_int ha; obtain ⟨u, rfl⟩ := vr_int hb
    cases h
    exact PyProof.Rows.gt_int (fin_same x (.bool _))
  · cases vr_bool ha; obtain ⟨u, rfl⟩ := vr_int hb
    cases h
    exact gt_bool_int (fin_same x (.bool _))
  · obtain ⟨t, rfl⟩ := vr_int ha; cases vr_bool hb
    cases h
    exact gt_int_bool (fin_same x (.bool _))
  · cases vr_bool ha; cases vr_bool hb
    cases h
    exact PyProof.Rows.gt_bool (fin_same x (.bool _))
  · cases h
/-- loops by a test -/
def whileF (test : PM Bool) (body : PM Fl) : Nat → PM Fl
  | 0 => PM.fail
  | k + 1 => PM.bind test fun b => match b with
    | true => PM.bind body fun f => match f with
      | .next => whileF test body k
      | .cont => whileF test body k
      | .brk => PM.pure .next
      | .ret v => PM.pure (.ret v)
    | false => PM.pure .next
theorem sim_While {test : Expr} {body : List Stmt} {pos : Pos} {mt : PM Bool} {mb : PM Fl} (k : Nat) (ht : SimT cx test mt) (hb : SimSs cx body mb) : SimS cx (.While test body [] pos) (whileF mt mb k) := by
  have key : ∀ (k : Nat) ρ hid st s, Rel cx ρ hid st s → ∀ fl st', whileF mt mb k st = .ok fl st' → ∀ (Q : Flow → Shared → Prop), (∀ f s' ρ', ρ <+: ρ' → Rel cx ρ' hid st' s' → FR ρ' fl f → Q f s') →
      WhlRest cx.prog cx.w cx.A (fun _ _ => False) cx.env test body [] Q k s := by
    intro k
    induction k with
    | zero => intro ρ hid st s x fl st' h; cases h
    | succ k ih =>
      intro ρ hid st s x fl st' h Q hQ
      unfold whileF at h
      obtain ⟨b, st1, e1, h1⟩ := bind_ok h
      refine whl_turn PassesOwn.never (wp_seq (ht ρ hid st s x b st1 e1) fun b' s1 ρ1 p1 r1 v1 => ?_)
      cases v1
      cases b with
      | false =>
        cases h1
        exact WhlIf.no rfl (wpAny_execs_nil (hQ _ _ ρ1 p1 r1 .next))
      | true =>
        obtain ⟨f, st2, e2, h2⟩ := bind_ok h1
        refine WhlIf.yes rfl (wp_seq (hb ρ1 hid st1 s1 r1 f st2 e2) fun g s2 ρ2 p2 r2 v2 => ?_)
        cases v2 with
        | next => exact ih ρ2 hid st2 s2 r2 fl st' h2 Q fun f s' ρ' p r v => hQ f s' ρ' (pre_trans p1 (pre_trans p2 p)) r v
        | cont => exact ih ρ2 hid st2 s2 r2 fl st' h2 Q fun f s' ρ' p r v => hQ f s' ρ' (pre_trans p1 (pre_trans p2 p)) r v
        | brk => cases h2; exact hQ _ _ ρ2 (pre_trans p1 p2) r2 .next
        | ret hv => cases h2; exact hQ _ _ ρ2 (pre_trans p1 p2) r2 (.ret hv)
  intro ρ hid st s x fl st' h
  exact whl_start k (key k ρ hid st s x fl st' h _ fun f s' ρ' p r v => ⟨ρ', p, r, v⟩)
end
end Mine
namespace Mine
section
variable {cx : Cx}
end
end Mine
namespace Mine
section
variable {cx : Cx}
structure LamOk (scope : Scope) (env : Env) (fr : List String) : Prop where
  free : (scope.names.all fun y => y.2 != .free || (env.cells.lookup y.1).isSome) = true
  frf : (fr.all fun n => scope.names.lookup (Str.ofString n) == some .free) = true
  frk : (fr.all fun n => env.kindOf (Str.ofString n) != some .local) = true
end
end Mine
namespace Mine
/-- a function made in a body, called: one parameter, what it keeps, its body -/
def callC (p : String) (mb : PM Fl) (cs : List (String × V)) : List V → PM V
  | [v] => fun st => (match mb ⟨fun n => if n = p then some v else cs.lookup n, st.sto⟩ with
      | .ok fl st' => .ok (match fl with | .ret v => v | _ => .none) ⟨st.loc, st'.sto⟩
      | .exc e st' => .exc e ⟨st.loc, st'.sto⟩
      | .fail => .fail)
  | _ => PM.fail
section
variable {cx : Cx}
/-- the law's closure as a primitive -/
structure FnC (cx : Cx) (k : Nat) (p : String) (mb : PM Fl) : Prop where
  run : ∀ A', (cx.at A').Ok → A'.depth + 4 * k + 5 < recursionLimit → A'.units + 40 * k + 203 < cLine → ∀ {ρ : Map} {hid : Hd} {st st' : St} {s : Shared}, Rel cx ρ hid st s → ∀ {j : Nat} {cs : List (String × V)} {q : Addr × Addr}, st.sto[j]? = some (.clos cs) → ρ[j]? = some q →
    ∀ {vs : List V} {Vs : List Value}, VRs ρ vs Vs → ∀ {v : V}, callC p mb cs vs st = .ok v st' → ∀ {R : Result → Shared → Prop}, (∀ ρ' W s', ρ <+: ρ' → Rel cx ρ' hid st' s' → VR ρ' v W → R (.ok (.ret W)) s') → codeAny cx.M A' (.call (.ref q.1) ⟨Vs, []⟩) R s
end
end Mine
namespace Mine
section
variable {cx : Cx}
end
end Mine
namespace Mine
/-- texts in their order -/
def leL (a b : List Nat) : Bool := !decide (b < a)
def sortL (l : List (List Nat)) : List (List Nat) := l.mergeSort leL
def cSorted : List V → PM V
  | [.obj j] => fun st => match st.sto[j]? with
    | some (.list xs) => (match strsOf xs with
      | some ls => if ls.length < 64 then alloc (.list ((sortL ls).map V.str)) st else .fail
      | none => .fail)
    | _ => .fail
  | _ => PM.fail
section
variable {cx : Cx}
/-- extend, also by nothing -/
def cExtendE : List V → PM V
  | [.obj i, .obj j] => fun st => match st.sto[i]?, st.sto[j]? with
    | some (.list xs), some (.list []) => if xs.length ≤ 1000000 then .ok .none st else .fail
    | _, _ => cExtend [.obj i, .obj j] st
  | _ => PM.fail
theorem kl_extend0 {prog : Program} {w : World} {A : Around} {E : Value → Shared → Prop} {s : Shared} {h₀ : Heap} {L : Addr} {m : Str → Option Value} {news : List (Addr × Obj)} {D b : Addr} {its : Array Value} {n n2 : Nat} {Q : Value → Shared → Prop} (F : Fr h₀ L s.heap m) (N : News h₀ L s.heap news) (hb : (b, listObj [] n2) ∈ news)
    {its' : List Value} {news' : List (Addr × Obj)} (U : Upd D (listObj its' n) (listObj its' n) news news') (hd : its'.length ≤ 1000000)
    (h : ∀ h', Fr h₀ L h' m → News h₀ L h' news → Q .none { s with heap := h' }) : wpAny (model prog w) A (call (.builtin "list.extend") [.ref D, .ref b]) Q E s := by
  obtain ⟨pre, post, rfl, rfl, a, c⟩ := U.split
  have z := N (D, listObj its' n) (List.mem_append.mpr (.inr (.head _)))
  have hsz : sizeLine = 16777216 := by decide
  refine call_meets PySem.F.slot_list_extend ⟨_, z.1, rfl⟩ PySem.F.entry_list_extend (PySem.F.args_list_extend_2 _ _) (PySem.AutoSeq1.list_extend_list_list_0 D its'.toArray n b #[] n2 ?_ (by rw [List.size_toArray]; omega) (by rw [List.size_toArray]; simp; omega)) ⟨z.1, (N _ hb).1, h _ (F.change (Heap.SameBut.update ..) z.2.1 z.2.2) (kl_turn0 _ N a c ?_ rfl)⟩
  · simp only [Builtin.List.listTooLong, List.size_toArray]
    simp; omega
  · simp
theorem pc_extendE : PC cx (.builtin "list.extend") cExtendE := by
  intro ρ hid st s x vs Vs hv v st' h
  unfold cExtendE at h
  split at h
  · rename_i i j
    split at h
    · rename_i xs hi hj
      split at h
      · rename_i hl
        cases h
        obtain ⟨A, B, rfl, ha, hb⟩ := vrs_two hv
        obtain ⟨p, hp, rfl⟩ := vr_obj ha
        obtain ⟨q, hq, rfl⟩ := vr_obj hb
        obtain ⟨fz, led, m, mloc, x⟩ := x
        obtain ⟨Xs, n, h1, h2⟩ := x.list_at hi hp
        obtain ⟨Ys, n2, g1, g2⟩ := x.list_at hj hq
        cases g1
        have hlen := h1.length
        refine kl_extend0 (its := #[]) x.F x.N g2 (upd_of _ h2 x.B.nd) (by omega) (fun h' F' N' => ?_)
        exact ⟨ρ, pre_refl ρ, RelD.rel (x.go (tk := s.toks) F' N' x.B), .none⟩
      · cases h
    · exact pc_extend ρ hid st s x _ _ hv v st' h
  · cases h
end
end Mine
namespace Mine
/-- what holds when a PM program has run -/
def wp {α : Type} (m : PM α) (st : St) (Q : α → St → Prop) : Prop := match m st with
  | .ok a st' => Q a st'
  | _ => False
theorem wp_run {α : Type} {m : PM α} {st : St} {Q : α → St → Prop} (h : wp m st Q) : ∃ a st', m st = .ok a st' ∧ Q a st' := by
  unfold wp at h
  cases e : m st with
  | ok a st' => rw [e] at h; exact ⟨a, st', rfl, h⟩
  | exc _ _ => rw [e] at h; exact h.elim
  | fail => rw [e] at h; exact h.elim
theorem wp_of {α : Type} {m : PM α} {st st' : St} {a : α} {Q : α → St → Prop} (e : m st = .ok a st') (h : Q a st') : wp m st Q := by
  unfold wp; rw [e]; exact h
theorem wp_mono {α : Type} {m : PM α} {st : St} {Q Q' : α → St → Prop} (h : wp m st Q) (k : ∀ a st', Q a st' → Q' a st') : wp m st Q' := by
  obtain ⟨a, st', e, q⟩ := wp_run h
  exact wp_of e (k a st' q)
theorem wp_bind {α β : Type} {m : PM α} {f : α → PM β} {st : St} {Q : β → St → Prop} : wp (PM.bind m f) st Q = wp m st (fun a st' => wp (f a) st' Q) := by
  unfold wp PM.bind
  cases m st <;> rfl
theorem wp_pure {α : Type} {a : α} {st : St} {Q : α → St → Prop} : wp (PM.pure a) st Q = Q a st := rfl
theorem wp_getL {n : String} {st : St} {Q : V → St → Prop} : wp (getL n) st Q = ∃ v, st.loc n = some v ∧ Q v st := by
  unfold wp getL
  cases e : st.loc n with
  | some v => simp
  | none => simp
theorem wp_setL {n : String} {v : V} {st : St} {Q : Unit → St → Prop} : wp (setL n v) st Q = Q () { st with loc := fun k => if k = n then some v else st.loc k } := rfl
theorem wp_alloc {o : O} {st : St} {Q : V → St → Prop} : wp (alloc o) st Q = Q (.obj st.sto.length) { st with sto := st.sto ++ [o] } := rfl
theorem wp_allocList {vs : List V} {st : St} {Q : V → St → Prop} : wp (allocList vs) st Q = (vs.length ≤ 1000000 ∧ Q (.obj st.sto.length) { st with sto := st.sto ++ [.list vs] }) := by
  unfold wp allocList alloc
  by_cases h : vs.length ≤ 1000000
  · simp [h]
  · simp [h]
theorem wp_allocTuple {vs : List V} {st : St} {Q : V → St → Prop} : wp (allocTuple vs) st Q = (vs.length ≤ 1000000 ∧ Q (.obj st.sto.length) { st with sto := st.sto ++ [.tuple vs] }) := by
  unfold wp allocTuple alloc
  by_cases h : vs.length ≤ 1000000
  · simp [h]
  · simp [h]
theorem wp_ite {α : Type} {m : PM Bool} {a b : PM α} {st : St} {Q : α → St → Prop} : wp (iteP m a b) st Q = wp m st (fun c st' => if c = true then wp a st' Q else wp b st' Q) := by
  unfold iteP
  rw [wp_bind]
  congr 1
  funext c st'
  cases c <;> simp
theorem wp_and {m k : PM Bool} {st : St} {Q : Bool → St → Prop} : wp (andP m k) st Q = wp m st (fun c st' => if c = true then wp k st' Q else Q false st') := by
  unfold andP
  rw [wp_bind]
  congr 1
  funext c st'
  cases c <;> simp [wp_pure]
theorem wp_or {m k : PM Bool} {st : St} {Q : Bool → St → Prop} : wp (orP m k) st Q = wp m st (fun c st' => if c = true then Q true st' else wp k st' Q) := by
  unfold orP
  rw [wp_bind]
  congr 1
  funext c st'
  cases c <;> simp [wp_pure]
theorem wp_seq' {m k : PM Fl} {st : St} {Q : Fl → St → Prop} : wp (seqF m k) st Q = wp m st (fun f st' => match f with | .next => wp k st' Q | .brk => Q .brk st' | .cont => Q .cont st' | .ret v => Q (.ret v) st') := by
  unfold seqF
  rw [wp_bind]
  congr 1
  funext f st'
  cases f <;> rfl
theorem wp_add {a b : Int} {st : St} {Q : V → St → Prop} : wp (pAdd (.int a) (.int b)) st Q = Q (.int (a + b)) st := rfl
theorem wp_sub {a b : Int} {st : St} {Q : V → St → Prop} : wp (pSub (.int a) (.int b)) st Q = Q (.int (a - b)) st := rfl
theorem wp_neg {a : Int} {st : St} {Q : V → St → Prop} : wp (pNeg (.int a)) st Q = Q (.int (-a)) st := rfl
theorem eqP_int (st : St) (a b : Int) : eqP st (.int a) (.int b) = some (decide (a = b)) := by
  show some (PyData.eqv (.int a) (.int b)) = _
  congr 1
theorem wp_truthyB {b : Bool} {st : St} {Q : Bool → St → Prop} : wp (pTruthy (.bool b)) st Q = Q b st := rfl
theorem wp_item {o i v : V} {st : St} {Q : V → St → Prop} (h : itemP st o i = some v) : wp (pItem o i) st Q = Q v st := by
  simp [wp, pItem, h]
theorem wp_isStr {l : List Nat} {st : St} {Q : Unit → St → Prop} : wp (isStr (.str l)) st Q = Q () st := rfl
theorem wp_isList {i : Nat} {xs : List V} {st : St} {Q : Unit → St → Prop} (h : st.sto[i]? = some (.list xs)) : wp (isList (.obj i)) st Q = Q () st := by
  simp [wp, isList, h]
theorem wp_append {i : Nat} {xs : List V} {v : V} {st : St} {Q : V → St → Prop} (h : st.sto[i]? = some (.list xs)) (hl : xs.length ≤ 1000000) : wp (cAppend [.obj i, v]) st Q = Q .none { st with sto := st.sto.set i (.list (xs ++ [v])) } := by
  simp [wp, cAppend, h, hl]
theorem wp_lenL {i : Nat} {xs : List V} {st : St} {Q : V → St → Prop} (h : st.sto[i]? = some (.list xs)) (hl : xs.length ≤ 1000000) : wp (cLen [.obj i]) st Q = Q (.int xs.length) st := by
  simp [wp, cLen, h, hl]
theorem wp_gAttr {n : String} {i : Nat} {as : List (String × V)} {v : V} {st : St} {Q : V → St → Prop} (h : st.sto[i]? = some (.inst as)) (hn : as.lookup n = some v) (hg : ∀ u, v ≠ .glob u) : wp (gAttr n (.obj i)) st Q = Q v st := by
  unfold wp gAttr
  dsimp only
  rw [h]
  dsimp only
  rw [hn]
  cases v <;> first | rfl | exact absurd rfl (hg _)
theorem wp_sAttr {n : String} {i : Nat} {as : List (String × V)} {v : V} {st : St} {Q : Unit → St → Prop} (h : st.sto[i]? = some (.inst as)) (hl : as.length ≤ 90) : wp (sAttr n v (.obj i)) st Q = Q () { st with sto := st.sto.set i (.inst (putA n v as)) } := by
  simp [wp, sAttr, h, hl]
/-- loops -/
theorem wp_loop {src : Src} {body : V → PM Fl} {Q : Fl → St → Prop} (I : List V → St → Prop) (hc : ∀ r st, I r st → ∀ p, src = some p → st.sto[p.1]? = some p.2)
    (step : ∀ x r st, I (x :: r) st → wp (body x) st (fun f st' => match f with | .next => I r st' | .cont => I r st' | .brk => Q .next st' | .ret v => Q (.ret v) st')) (done : ∀ st, I [] st → Q .next st) :
    ∀ (xs : List V) (st : St), I xs st → wp (loopF src body xs) st Q
  | [], st, h => by
    have : chk src st = .ok () st := by
      cases src with
      | none => rfl
      | some p => exact chk_some (hc _ _ h p rfl)
    unfold loopF
    rw [wp_bind]
    exact wp_of this (done st h)
  | x :: r, st, h => by
    have : chk src st = .ok () st := by
      cases src with
      | none => rfl
      | some p => exact chk_some (hc _ _ h p rfl)
    unfold loopF
    rw [wp_bind]
    refine wp_of this ?_
    rw [wp_bind]
    refine wp_mono (step x r st h) fun f st' q => ?_
    cases f with
    | next => exact wp_loop I hc step done r st' q
    | cont => exact wp_loop I hc step done r st' q
    | brk => exact q
    | ret v => exact q
end Mine
namespace Mine
noncomputable def initE : PM Fl := (seqF (PM.bind (PM.bind (PM.pure []) allocList) fun v => PM.bind (getL "self") fun a => PM.bind (sAttr "useragents" v a) fun _ => PM.pure .next) (seqF (PM.bind (PM.bind (PM.pure []) allocList) fun v => PM.bind (getL "self") fun a => PM.bind (sAttr "rulelines" v a) fun _ => PM.pure .next) (seqF (PM.bind (PM.pure .none) fun v => PM.bind (getL "self") fun a => PM.bind (sAttr "delay" v a) fun _ => PM.pure .next) (PM.bind (PM.pure .none) fun v => PM.bind (getL "self") fun a => PM.bind (sAttr "req_rate" v a) fun _ => PM.pure .next))))
theorem idx_nat {n k : Nat} (h : k < n) : idx n (k : Int) = some k := by
  unfold idx
  rw [if_pos (by omega), if_pos (by omega)]
  simp
theorem idx_last {n : Nat} (h : 0 < n) : idx n (-1) = some (n - 1) := by
  unfold idx
  rw [if_neg (by omega), if_pos (by omega)]
  congr 1
  omega
theorem get_app_len (l : List O) (o : O) (r : List O) : (l ++ o :: r)[l.length]? = some o := by
  rw [List.getElem?_append_right (Nat.le_refl _)]; simp
theorem get_pre {l l' : List O} (h : l <+: l') {i : Nat} {o : O} (e : l[i]? = some o) : l'[i]? = some o := by
  obtain ⟨t, rfl⟩ := h
  rw [List.getElem?_append_left]
  · exact e
  · rcases Nat.lt_or_ge i l.length with q | q
    · exact q
    · rw [List.getElem?_eq_none q] at e; cases e
theorem get_lt {l : List O} {i : Nat} {o : O} (e : l[i]? = some o) : i < l.length := by
  rcases Nat.lt_or_ge i l.length with q | q
  · exact q
  · rw [List.getElem?_eq_none q] at e; cases e
theorem set_app_len (l : List O) (o o' : O) (r : List O) : (l ++ o :: r).set l.length o' = l ++ o' :: r := by
  rw [List.set_append_right _ _ (Nat.le_refl _)]; simp
theorem wp_call {ps : List String} {mb : PM Fl} {vs : List V} {st : St} {Q : V → St → Prop} (hl : vs.length = ps.length) :
    wp (callP ps mb vs) st Q = wp mb ⟨fun n => (ps.zip vs).lookup n, st.sto⟩ (fun fl st' => Q (match fl with | .ret v => v | _ => .none) ⟨st.loc, st'.sto⟩) := by
  unfold wp callP
  rw [if_pos hl]
  cases mb ⟨fun n => (ps.zip vs).lookup n, st.sto⟩ <;> rfl
theorem wp_entry {st : St} {Q : V → St → Prop} (h : Q (.obj st.sto.length) ⟨st.loc, st.sto ++ [.inst [("useragents", .obj (st.sto.length + 1)), ("rulelines", .obj (st.sto.length + 2)), ("delay", .none), ("req_rate", .none)], .list [], .list []]⟩) :
    wp (newInst initE ["self"] []) st Q := by
  unfold newInst
  rw [wp_bind, wp_alloc, wp_bind, wp_call rfl]
  unfold initE
  have g0 : ∀ (as : List (String × V)) (r : List O), (st.sto ++ O.inst as :: r)[st.sto.length]? = some (.inst as) := fun as r => get_app_len _ _ _
  simp only [wp_seq', wp_bind, wp_pure, wp_allocList, wp_getL, List.length_nil, Nat.zero_le, true_and, List.zip_cons_cons, List.zip_nil_left, List.lookup_cons, List.lookup_nil, beq_self_eq_true, Option.some.injEq, exists_eq_left', List.append_assoc, List.cons_append, List.nil_append, List.length_append, List.length_cons]
  rw [wp_sAttr (as := []) (g0 _ _) (by decide)]
  simp only [set_app_len, List.append_assoc, List.cons_append, List.nil_append, List.length_append, List.length_cons, List.length_nil]
  refine ⟨_, rfl, ?_⟩
  rw [wp_sAttr (g0 _ _) (by simp [putA])]
  simp only [set_app_len]
  refine ⟨_, rfl, ?_⟩
  rw [wp_sAttr (g0 _ _) (by simp [putA])]
  simp only [set_app_len]
  refine ⟨_, rfl, ?_⟩
  rw [wp_sAttr (g0 _ _) (by simp [putA])]
  simp only [set_app_len]
  simpa [putA] using h
theorem cps_star : cps "*" = [42] := by kernel_rfl
theorem eqv_str (a b : List Nat) : PyData.eqv (.str ⟨a.toArray⟩) (.str ⟨b.toArray⟩) = decide (a = b) := by
  show ((⟨a.toArray⟩ : Str) == ⟨b.toArray⟩) = _
  by_cases h : a = b
  · subst h; simp
  · rw [decide_eq_false h, beq_eq_false_iff_ne]
    intro e
    have : a.toArray = b.toArray := congrArg Str.cps e
    exact h (by simpa using this)
theorem eqP_str (st : St) (a b : List Nat) : eqP st (.str a) (.str b) = some (decide (a = b)) := by
  show some (PyData.eqv (.str ⟨a.toArray⟩) (.str ⟨b.toArray⟩)) = _
  rw [eqv_str]
/-- the part of a name that counts -/
def part (name : List Nat) : List Nat := (name.takeWhile (fun x => decide (x ≠ 47))).map lowP
end Mine
namespace Mine
/-- steps as equations: what must hold, told by cases on the store -/
theorem wp_if {α : Type} {c : Prop} [Decidable c] {m : PM α} {st : St} {Q : α → St → Prop} : wp (fun st => if c then m st else .fail) st Q = (c ∧ wp m st Q) := by
  unfold wp
  by_cases h : c <;> simp [h]
theorem wpE_get {n : String} {st : St} {Q : V → St → Prop} : wp (getL n) st Q = (match st.loc n with | some v => Q v st | none => False) := by
  unfold wp getL
  cases st.loc n <;> rfl
theorem wpE_mod {a b : Int} {st : St} {Q : V → St → Prop} : wp (pMod (.int a) (.int b)) st Q = (0 < b ∧ Q (.int (a % b)) st) := by
  by_cases h : 0 < b <;> simp [wp, pMod, h]
theorem wpE_div {a b : Int} {st : St} {Q : V → St → Prop} : wp (pDiv (.int a) (.int b)) st Q = ((0 < b ∧ b < 1000000000) ∧ Q (.int (a / b)) st) := by
  by_cases h : 0 < b ∧ b < 1000000000 <;> simp [wp, pDiv, h]
theorem wpE_pow {a b : Int} {st : St} {Q : V → St → Prop} : wp (pPow (.int a) (.int b)) st Q = ((small a && (decide (0 ≤ b) && decide (b ≤ 1000))) = true ∧ Q (.int (a ^ b.toNat)) st) := wp_if
theorem wpE_addS {a b : List Nat} {st : St} {Q : V → St → Prop} : wp (pAdd (.str a) (.str b)) st Q = (a.length + b.length ≤ 1000000 ∧ Q (.str (a ++ b)) st) := by
  by_cases h : a.length + b.length ≤ 1000000 <;> simp [wp, pAdd, h]
theorem wpE_iaddS {a b : List Nat} {st : St} {Q : V → St → Prop} : wp (pIAdd (.str a) (.str b)) st Q = (a.length + b.length ≤ 1000000 ∧ Q (.str (a ++ b)) st) := by
  by_cases h : a.length + b.length ≤ 1000000 <;> simp [wp, pIAdd, h]
theorem wpE_iaddI {a b : Int} {st : St} {Q : V → St → Prop} : wp (pIAdd (.int a) (.int b)) st Q = Q (.int (a + b)) st := rfl
theorem wpE_lt {a b : Int} {st : St} {Q : V → St → Prop} : wp (pLt (.int a) (.int b)) st Q = Q (.bool (decide (a < b))) st := rfl
theorem wpE_le {a b : Int} {st : St} {Q : V → St → Prop} : wp (pLe (.int a) (.int b)) st Q = Q (.bool (decide (a ≤ b))) st := rfl
theorem wpE_ge {a b : Int} {st : St} {Q : V → St → Prop} : wp (pGe (.int a) (.int b)) st Q = Q (.bool (decide (b ≤ a))) st := rfl
theorem wpE_gt {a b : Int} {st : St} {Q : V → St → Prop} : wp (pGt (.int a) (.int b)) st Q = Q (.bool (decide (b < a))) st := rfl
theorem wpE_eq {a b : V} {st : St} {Q : V → St → Prop} : wp (pEq a b) st Q = (match eqP st a b with | some c => Q (.bool c) st | none => False) := by
  unfold wp pEq
  cases eqP st a b <;> rfl
theorem wpE_ne {a b : V} {st : St} {Q : V → St → Prop} : wp (pNe a b) st Q = (match eqP st a b with | some c => Q (.bool (!c)) st | none => False) := by
  unfold wp pNe
  cases eqP st a b <;> rfl
theorem wpE_is {a b : V} {st : St} {Q : V → St → Prop} : wp (pIs a b) st Q = (match isP a b with | some c => Q (.bool c) st | none => False) := by
  unfold wp pIs
  cases isP a b <;> rfl
theorem wpE_isnot {a b : V} {st : St} {Q : V → St → Prop} : wp (pIsNot a b) st Q = (match isP a b with | some c => Q (.bool (!c)) st | none => False) := by
  unfold wp pIsNot
  cases isP a b <;> rfl
theorem isP_bool (a b : Bool) : isP (.bool a) (.bool b) = some (a == b) := rfl
theorem isP_obj (i : Nat) : isP (.obj i) (.obj i) = some true := by simp [isP]
theorem wpE_in {a b : V} {st : St} {Q : V → St → Prop} : wp (pIn a b) st Q = (match inP st a b with | some c => Q (.bool c) st | none => False) := by
  unfold wp pIn
  cases inP st a b <;> rfl
theorem wpE_notin {a b : V} {st : St} {Q : V → St → Prop} : wp (pNotIn a b) st Q = (match inP st a b with | some c => Q (.bool (!c)) st | none => False) := by
  unfold wp pNotIn
  cases inP st a b <;> rfl
theorem wpE_truthyI {i : Int} {st : St} {Q : Bool → St → Prop} : wp (pTruthy (.int i)) st Q = Q (i != 0) st := rfl
theorem wpE_truthyN {st : St} {Q : Bool → St → Prop} : wp (pTruthy .none) st Q = Q false st := rfl
theorem wpE_truthyS {l : List Nat} {st : St} {Q : Bool → St → Prop} : wp (pTruthy (.str l)) st Q = (l.length ≤ 1000000 ∧ Q (!l.isEmpty) st) := by
  by_cases h : l.length ≤ 1000000 <;> simp [wp, pTruthy, h]
theorem wpE_truthyL {i : Nat} {xs : List V} {st : St} {Q : Bool → St → Prop} (hi : st.sto[i]? = some (.list xs)) : wp (pTruthy (.obj i)) st Q = (xs.length ≤ 1000000 ∧ Q (!xs.isEmpty) st) := by
  by_cases h : xs.length ≤ 1000000 <;> simp [wp, pTruthy, h, hi]
theorem wpE_itemS {l : List Nat} {k : Nat} {st : St} {Q : V → St → Prop} {c : Nat} (hl : l.length ≤ 1000000) (h : l[k]? = some c) : wp (pItem (.str l) (.int (k : Int))) st Q = Q (.str [c]) st := by
  have hlt : k < l.length := by
    rcases Nat.lt_or_ge k l.length with q | q
    · exact q
    · rw [List.getElem?_eq_none q] at h; cases h
  refine wp_item ?_
  unfold itemP
  dsimp only
  rw [if_pos hl, idx_nat hlt]
  simp [h]
theorem itemL {st : St} {j k : Nat} {xs : List V} {v : V} (h : st.sto[j]? = some (.list xs)) (hl : xs.length ≤ 1000000) (hk : xs[k]? = some v) : itemP st (.obj j) (.int (k : Int)) = some v := by
  have hlt : k < xs.length := by
    rcases Nat.lt_or_ge k xs.length with q | q
    · exact q
    · rw [List.getElem?_eq_none q] at hk; cases hk
  unfold itemP
  dsimp only
  rw [h]
  dsimp only
  rw [if_pos hl, idx_nat hlt]
  exact hk
theorem itemLast {st : St} {j : Nat} {xs : List V} {v : V} (h : st.sto[j]? = some (.list (xs ++ [v]))) (hl : xs.length < 1000000) : itemP st (.obj j) (.int (-1)) = some v := by
  unfold itemP
  dsimp only
  rw [h]
  dsimp only
  rw [if_pos (by simp; omega), idx_last (by simp)]
  simp
theorem wpE_setItem {st : St} {j k : Nat} {xs : List V} {w : V} {Q : Unit → St → Prop} (h : st.sto[j]? = some (.list xs)) (hl : xs.length ≤ 1000000) (hk : k < xs.length) :
    wp (setItemP w (.obj j) (.int (k : Int))) st Q = Q () { st with sto := st.sto.set j (.list (xs.set k w)) } := by
  unfold wp setItemP
  dsimp only
  rw [h]
  dsimp only
  rw [if_pos hl, idx_nat hk]
theorem wpE_lenS {l : List Nat} {st : St} {Q : V → St → Prop} : wp (cLen [.str l]) st Q = (l.length ≤ 1000000 ∧ Q (.int l.length) st) := by
  by_cases h : l.length ≤ 1000000 <;> simp [wp, cLen, h]
theorem wpE_lenG {a : Addr} {xs : List Int} {st : St} {Q : V → St → Prop} : wp (cLenG a xs [.glob (.ref a)]) st Q = (xs.length ≤ 1000000 ∧ Q (.int xs.length) st) := by
  by_cases h : xs.length ≤ 1000000 <;> simp [wp, cLenG, h]
theorem wpE_sliceL {i : Nat} {xs : List V} {l u : V} {lo hi : Option Int} {st : St} {Q : V → St → Prop} (hi' : st.sto[i]? = some (.list xs)) (h1 : asPart l = some lo) (h2 : asPart u = some hi) :
    wp (sliceP (.obj i) l u) st Q = (xs.length ≤ 1000000 ∧ Q (.obj st.sto.length) { st with sto := st.sto ++ [.list (cut xs lo hi)] }) := by
  unfold wp sliceP
  rw [h1, h2]
  by_cases h : xs.length ≤ 1000000 <;> simp [h, alloc, hi']
theorem wpE_iterL {i : Nat} {xs : List V} {st : St} {Q : Src × List V → St → Prop} (h : st.sto[i]? = some (.list xs)) : wp (iterOf (.obj i)) st Q = Q (some (i, .list xs), xs) st := by
  simp [wp, iterOf, h]
theorem wpE_iterS {l : List Nat} {st : St} {Q : Src × List V → St → Prop} : wp (iterOf (.str l)) st Q = Q (none, l.map fun c => .str [c]) st := rfl
def vnat (n : Nat) : V := .int (n : Int)
theorem wpE_iterG {a : Addr} {xs : List Int} {st : St} {Q : Src × List V → St → Prop} : wp (iterG a xs (.glob (.ref a))) st Q = Q (none, xs.map V.int) st := by
  simp [wp, iterG, PM.pure]
theorem wpE_max2 {a b : Int} {st : St} {Q : V → St → Prop} : wp (cMax [.int a, .int b]) st Q = Q (.int (if b > a then b else a)) st := rfl
theorem wpE_min2 {a b : Int} {st : St} {Q : V → St → Prop} : wp (cMin [.int a, .int b]) st Q = Q (.int (if b < a then b else a)) st := rfl
theorem wpE_range1 {n : Int} {st : St} {Q : V → St → Prop} : wp (cRange [.int n]) st Q = Q (.obj st.sto.length) { st with sto := st.sto ++ [.range 0 n 1] } := rfl
theorem wpE_range2 {a b : Int} {st : St} {Q : V → St → Prop} : wp (cRange [.int a, .int b]) st Q = Q (.obj st.sto.length) { st with sto := st.sto ++ [.range a b 1] } := rfl
/-- loops over a told list -/
theorem wp_for {α : Type} {f : α → V} {src : Src} {body : V → PM Fl} {Q : Fl → St → Prop} {st : St} (xs : List α) (I : List α → (String → Option V) → List O → Prop) (hsrc : ∀ d loc sto, I d loc sto → ∀ p, src = some p → sto[p.1]? = some p.2)
    (step : ∀ d x r loc sto, xs = d ++ x :: r → I d loc sto → wp (body (f x)) ⟨loc, sto⟩ (fun fl s' => match fl with | .next => I (d ++ [x]) s'.loc s'.sto | .cont => I (d ++ [x]) s'.loc s'.sto | .brk => Q .next s' | .ret v => Q (.ret v) s'))
    (fin : ∀ loc sto, I xs loc sto → Q .next ⟨loc, sto⟩) (h0 : I [] st.loc st.sto) : wp (loopF src body (xs.map f)) st Q := by
  refine wp_loop (fun r s => ∃ d rs, xs = d ++ rs ∧ r = rs.map f ∧ I d s.loc s.sto) (fun r s hs p hp => ?_) (fun x r s hs => ?_) (fun s hs => ?_) _ _ ⟨[], xs, rfl, rfl, h0⟩
  · obtain ⟨d, rs, _, _, hI⟩ := hs
    exact hsrc d s.loc s.sto hI p hp
  · obtain ⟨d, rs, e1, e2, hI⟩ := hs
    cases rs with
    | nil => cases e2
    | cons y rs =>
      rw [List.map_cons, List.cons.injEq] at e2
      obtain ⟨rfl, rfl⟩ := e2
      refine wp_mono (step d y rs s.loc s.sto e1 hI) fun fl s' q => ?_
      cases fl with
      | next => exact ⟨d ++ [y], rs, by rw [e1]; simp, rfl, q⟩
      | cont => exact ⟨d ++ [y], rs, by rw [e1]; simp, rfl, q⟩
      | brk => exact q
      | ret v => exact q
  · obtain ⟨d, rs, e1, e2, hI⟩ := hs
    cases rs with
    | nil =>
      rw [List.append_nil] at e1
      subst e1
      exact fin s.loc s.sto hI
    | cons y rs => cases e2
/-- comprehensions over a told list -/
theorem wp_comp {α : Type} {f : α → V} {fr : List String} {n : String} {mi : PM V} {mc : PM Bool} {me : PM V} {st : St} {Q : V → St → Prop} {src : Src} {a : V} {st1 : St} (xs : List α) (keep : α → Bool) (val : α → V)
    (hmi : wp mi st (fun v s => v = a ∧ s = st1)) (hit : wp (iterOf a) st1 (fun v s => v = (src, xs.map f) ∧ s = st1)) (hn : n ∉ fr) (hsrc : ∀ p, src = some p → st1.sto[p.1]? = some p.2) (hl : xs.length ≤ 1000000)
    (step : ∀ x ∈ xs, ∀ loc sto, (∀ m ∈ fr, loc m = st1.loc m) → st1.sto <+: sto → loc n = some (f x) →
      wp mc ⟨loc, sto⟩ (fun b s2 => b = keep x ∧ (s2.loc = loc ∧ st1.sto <+: s2.sto) ∧ (keep x = true → wp me s2 (fun v s3 => v = val x ∧ s3.loc = loc ∧ st1.sto <+: s3.sto))))
    (hQ : ∀ sto', st1.sto <+: sto' → Q (.obj sto'.length) ⟨st1.loc, sto' ++ [.list ((xs.filter keep).map val)]⟩) : wp (compV fr n mi mc me) st Q := by
  obtain ⟨_, _, e1, rfl, rfl⟩ := wp_run hmi
  obtain ⟨_, _, e2, rfl, rfl⟩ := wp_run hit
  unfold compV
  rw [wp_bind]
  refine wp_of e1 ?_
  rw [wp_bind]
  refine wp_of e2 ?_
  rw [wp_bind]
  rename_i st1
  have key : ∀ (ys : List α) (acc : List V) (s : St), (∀ y ∈ ys, y ∈ xs) → acc.length + ys.length ≤ 1000000 → (∀ m ∈ fr, s.loc m = st1.loc m) ∧ st1.sto <+: s.sto →
      wp (compM src (setL n) mc me acc (ys.map f)) s (fun vs s' => vs = acc ++ (ys.filter keep).map val ∧ (∀ m ∈ fr, s'.loc m = st1.loc m) ∧ st1.sto <+: s'.sto) := by
    intro ys
    have hchk : ∀ s : St, st1.sto <+: s.sto → chk src s = .ok () s := fun s hs => by
      cases src with
      | none => rfl
      | some p => exact chk_some (get_pre hs (hsrc p rfl))
    induction ys with
    | nil =>
      intro acc s _ _ h
      rw [List.map_nil]
      unfold compM
      rw [wp_bind]
      exact wp_of (hchk s h.2) ⟨by simp, h⟩
    | cons y r ih =>
      intro acc s hm hl h
      rw [List.map_cons]
      unfold compM
      rw [wp_bind]
      refine wp_of (hchk s h.2) ?_
      rw [wp_bind, wp_setL, wp_bind]
      have hs' : ∀ m ∈ fr, (if m = n then some (f y) else s.loc m) = st1.loc m := fun m hm => by
        have hne : ¬ m = n := fun (e : m = n) => hn (e ▸ hm)
        rw [if_neg hne]; exact h.1 m hm
      simp only [List.length_cons] at hl
      refine wp_mono (step y (hm y (.head _)) (fun k => if k = n then some (f y) else s.loc k) s.sto hs' h.2 (by simp)) fun b s2 q => ?_
      obtain ⟨rfl, q2, q3⟩ := q
      cases hk : keep y with
      | true =>
        dsimp only
        rw [wp_bind]
        refine wp_mono (q3 hk) fun v s3 q4 => ?_
        obtain ⟨rfl, q5, q6⟩ := q4
        have hle : acc.length ≤ 1000000 := by omega
        have e0 : (fun st => if acc.length ≤ 1000000 then compM src (setL n) mc me (acc ++ [val y]) (r.map f) st else .fail : PM (List V)) = compM src (setL n) mc me (acc ++ [val y]) (r.map f) := by
          funext s'; rw [if_pos hle]
        rw [e0]
        refine wp_mono (ih (acc ++ [val y]) s3 (fun z hz => hm z (.tail _ hz)) (by simp; omega) ⟨fun m hm => by rw [q5]; exact hs' m hm, q6⟩) fun vs s' q7 => ⟨?_, q7.2⟩
        rw [q7.1, List.filter_cons, hk]
        simp
      | false =>
        dsimp only
        refine wp_mono (ih acc s2 (fun z hz => hm z (.tail _ hz)) (by omega) ⟨fun m hm => by rw [q2.1]; exact hs' m hm, q2.2⟩) fun vs s' q7 => ⟨?_, q7.2⟩
        rw [q7.1, List.filter_cons, hk]
        simp
  obtain ⟨vs, s', e, q⟩ := wp_run (key xs [] ⟨fun m => if m ∈ fr then st1.loc m else none, st1.sto⟩ (fun _ h => h) (by simpa using hl) ⟨fun m hm => by simp [hm], List.prefix_refl _⟩)
  unfold wp inScope
  dsimp only at e ⊢
  rw [e]
  dsimp only
  rw [if_pos q.2.1]
  dsimp only
  rw [q.1]
  exact hQ s'.sto q.2.2
/-- store facts -/
theorem get_app_add (l r : List O) (k : Nat) : (l ++ r)[l.length + k]? = r[k]? := by
  rw [List.getElem?_append_right (by omega)]
  congr 1
  omega
theorem get_set_other {l : List O} {i j : Nat} {o o' : O} (h : l[i]? = some o) (hne : j ≠ i) : (l.set j o')[i]? = some o := by
  rw [List.getElem?_set_ne hne]; exact h
theorem get_set_here {l : List O} {i : Nat} {o o' : O} (h : l[i]? = some o) : (l.set i o')[i]? = some o' := List.getElem?_set_self (get_lt h)
theorem eqP_strsL {st : St} {i j : Nat} {a b : List (List Nat)} (h1 : st.sto[i]? = some (.list (a.map V.str))) (h2 : st.sto[j]? = some (.list (b.map V.str))) : eqP st (.obj i) (.obj j) = some (decide (a = b)) := by
  have key : ∀ a b : List (List Nat), PyData.eqvAll (a.map fun l => PyData.str ⟨l.toArray⟩) (b.map fun l => PyData.str ⟨l.toArray⟩) = decide (a = b) := by
    intro a
    induction a with
    | nil => intro b; cases b <;> simp [PyData.eqvAll]
    | cons x r ih =>
      intro b
      cases b with
      | nil => simp [PyData.eqvAll]
      | cons y s =>
        rw [List.map_cons, List.map_cons]
        unfold PyData.eqvAll
        rw [ih, eqv_str]
        simp
  unfold eqP
  unfold toD
  simp only [h1, h2]
  have e : ∀ a : List (List Nat), toDs (toD 3 st.sto) (a.map V.str) = some (a.map fun l => PyData.str ⟨l.toArray⟩) := by
    intro a
    induction a with
    | nil => rfl
    | cons x r ih => rw [List.map_cons, toDs, ih]; rfl
  rw [e, e]
  simp only [Option.map_some]
  congr 1
  show PyData.eqv (.list _) (.list _) = _
  unfold PyData.eqv
  exact key a b
-- the same with the state told as names and store
section
variable {loc : String → Option V} {sto : List O}
theorem wL_isList {i : Nat} {xs : List V} {Q : Unit → St → Prop} (h : sto[i]? = some (.list xs)) : wp (isList (.obj i)) ⟨loc, sto⟩ Q = Q () ⟨loc, sto⟩ := wp_isList h
theorem wL_append {i : Nat} {xs : List V} {v : V} {Q : V → St → Prop} (h : sto[i]? = some (.list xs)) (hl : xs.length ≤ 1000000) : wp (cAppend [.obj i, v]) ⟨loc, sto⟩ Q = Q .none ⟨loc, sto.set i (.list (xs ++ [v]))⟩ := wp_append h hl
theorem wL_pop {i : Nat} {xs : List V} {v : V} {Q : V → St → Prop} (h : sto[i]? = some (.list (xs ++ [v]))) (hl : xs.length < 1000000) : wp (cPop [.obj i]) ⟨loc, sto⟩ Q = Q v ⟨loc, sto.set i (.list xs)⟩ := by
  unfold wp cPop
  simp only [h]
  rw [if_pos (by simp; omega)]
  simp
theorem wL_len {i : Nat} {xs : List V} {Q : V → St → Prop} (h : sto[i]? = some (.list xs)) (hl : xs.length ≤ 1000000) : wp (cLen [.obj i]) ⟨loc, sto⟩ Q = Q (.int xs.length) ⟨loc, sto⟩ := wp_lenL h hl
theorem wL_gAttr {n : String} {i : Nat} {as : List (String × V)} {v : V} {Q : V → St → Prop} (h : sto[i]? = some (.inst as)) (hn : as.lookup n = some v) (hg : ∀ u, v ≠ .glob u) : wp (gAttr n (.obj i)) ⟨loc, sto⟩ Q = Q v ⟨loc, sto⟩ := wp_gAttr h hn hg
theorem wL_sAttr {n : String} {i : Nat} {as : List (String × V)} {v : V} {Q : Unit → St → Prop} (h : sto[i]? = some (.inst as)) (hl : as.length ≤ 90) : wp (sAttr n v (.obj i)) ⟨loc, sto⟩ Q = Q () ⟨loc, sto.set i (.inst (putA n v as))⟩ := wp_sAttr h hl
theorem wL_truthy {i : Nat} {xs : List V} {Q : Bool → St → Prop} (hi : sto[i]? = some (.list xs)) : wp (pTruthy (.obj i)) ⟨loc, sto⟩ Q = (xs.length ≤ 1000000 ∧ Q (!xs.isEmpty) ⟨loc, sto⟩) := wpE_truthyL hi
theorem wL_item {j k : Nat} {xs : List V} {v : V} {Q : V → St → Prop} (h : sto[j]? = some (.list xs)) (hl : xs.length ≤ 1000000) (hk : xs[k]? = some v) : wp (pItem (.obj j) (.int (k : Int))) ⟨loc, sto⟩ Q = Q v ⟨loc, sto⟩ := wp_item (itemL h hl hk)
theorem wL_last {j : Nat} {xs : List V} {v : V} {Q : V → St → Prop} (h : sto[j]? = some (.list (xs ++ [v]))) (hl : xs.length < 1000000) : wp (pItem (.obj j) (.int (-1))) ⟨loc, sto⟩ Q = Q v ⟨loc, sto⟩ := wp_item (itemLast h hl)
theorem wL_setItem {j k : Nat} {xs : List V} {w : V} {Q : Unit → St → Prop} (h : sto[j]? = some (.list xs)) (hl : xs.length ≤ 1000000) (hk : k < xs.length) : wp (setItemP w (.obj j) (.int (k : Int))) ⟨loc, sto⟩ Q = Q () ⟨loc, sto.set j (.list (xs.set k w))⟩ := wpE_setItem h hl hk
theorem wL_slice {i : Nat} {xs : List V} {l u : V} {lo hi : Option Int} {Q : V → St → Prop} (hi' : sto[i]? = some (.list xs)) (h1 : asPart l = some lo) (h2 : asPart u = some hi) : wp (sliceP (.obj i) l u) ⟨loc, sto⟩ Q = (xs.length ≤ 1000000 ∧ Q (.obj sto.length) ⟨loc, sto ++ [.list (cut xs lo hi)]⟩) := wpE_sliceL hi' h1 h2
theorem wL_iter {i : Nat} {xs : List V} {Q : Src × List V → St → Prop} (h : sto[i]? = some (.list xs)) : wp (iterOf (.obj i)) ⟨loc, sto⟩ Q = Q (some (i, .list xs), xs) ⟨loc, sto⟩ := wpE_iterL h
theorem eqL_strs {i j : Nat} {a b : List (List Nat)} (h1 : sto[i]? = some (.list (a.map V.str))) (h2 : sto[j]? = some (.list (b.map V.str))) : eqP ⟨loc, sto⟩ (.obj i) (.obj j) = some (decide (a = b)) := eqP_strsL h1 h2
theorem wL_entry {Q : V → St → Prop} (h : Q (.obj sto.length) ⟨loc, sto ++ [.inst [("useragents", .obj (sto.length + 1)), ("rulelines", .obj (sto.length + 2)), ("delay", .none), ("req_rate", .none)], .list [], .list []]⟩) :
    wp (newInst initE ["self"] []) ⟨loc, sto⟩ Q := wp_entry h
end
theorem filt_true {α : Type} (l : List α) : l.filter (fun _ => true) = l := List.filter_eq_self.mpr fun _ _ => rfl
theorem cps_e : cps "" = [] := by kernel_rfl
theorem loc1 (p : String) (v : V) : (fun n => ([p].zip [v]).lookup n) = fun n => if n = p then some v else none := by
  funext n
  simp only [List.zip_cons_cons, List.zip_nil_left, List.lookup_cons, List.lookup_nil]
  by_cases h1 : n = p
  · subst h1; simp
  · have : (n == p) = false := by simpa using h1
    rw [this, if_neg h1]
end Mine
namespace Mine
/-- equality of lists that may hold instances: the same one is equal -/
def eqE (st : St) (v w : V) : Option Bool := match v, w with
  | .obj i, .obj j => if i = j then some true else eqP st (.obj i) (.obj j)
  | v, w => eqP st v w
def eqsE (st : St) : List V → List V → Option Bool
  | [], [] => some true
  | v :: r, w :: q => match eqE st v w, eqsE st r q with
    | some a, some b => some (a && b)
    | _, _ => none
  | _, _ => none
def eqX (st : St) : V → V → Option Bool
  | .obj i, .obj j => match st.sto[i]?, st.sto[j]? with
    | some (.list xs), some (.list ys) => if xs.length = ys.length then eqsE st xs ys else some false
    | _, _ => none
  | _, _ => none
def pEqX (a b : V) : PM V := fun st => match eqX st a b with | some c => .ok (.bool c) st | none => .fail
def pNeX (a b : V) : PM V := fun st => match eqX st a b with | some c => .ok (.bool (!c)) st | none => .fail
section
variable {cx : Cx}
theorem eqE_at {ρ : Map} {hid : Hd} {st : St} {s : Shared} {A₀ : Around} (hu : A₀.units + 10 < cLine) (x : Rel cx ρ hid st s) {v w : V} {A B : Value} {c : Bool} (ha : VR ρ v A) (hb : VR ρ w B) (h : eqE st v w = some c) : SeqAt.EqAt A₀ s A B c := by
  have key : ∀ {v w : V} {A B : Value}, VR ρ v A → VR ρ w B → eqP st v w = some c → SeqAt.EqAt A₀ s A B c := by
    intro v w A B ha hb h
    unfold eqP at h
    split at h
    · rename_i d d' h1 h2
      cases h
      obtain ⟨fz, led, m, mloc, x'⟩ := id x
      obtain ⟨as, a1, a2, a3⟩ := toD_reads x' 4 _ A d ha h1
      obtain ⟨bs, b1, b2, b3⟩ := toD_reads x' 4 _ B d' hb h2
      exact SeqAt.eqAt_reads _ _ _ _ _ _ _ _ a1 b1 a2 b2 (by omega)
    · cases h
  unfold eqE at h
  split at h
  · split at h
    · rename_i i j e
      cases h
      subst e
      obtain ⟨p, e1, rfl⟩ := vr_obj ha; obtain ⟨q, e2, rfl⟩ := vr_obj hb
      have : p = q := Option.some.inj (e1.symm.trans e2)
      subst this
      exact SeqAt.EqAt.same _
    · exact key ha hb h
  · exact key ha hb h
theorem range_all_succ (n : Nat) (e : Nat → Bool) : (List.range (n + 1)).all e = (e 0 && (List.range n).all fun j => e (j + 1)) := by
  rw [List.range_succ_eq_map, List.all_cons, List.all_map]; rfl
theorem eqsE_at {ρ : Map} {hid : Hd} {st : St} {s : Shared} {A₀ : Around} (hu : A₀.units + 10 < cLine) (x : Rel cx ρ hid st s) : ∀ {vs ws : List V} {As Bs : List Value} {c : Bool}, VRs ρ vs As → VRs ρ ws Bs → eqsE st vs ws = some c →
    ∃ e : Nat → Bool, (∀ j A B, As[j]? = some A → Bs[j]? = some B → SeqAt.EqAt A₀ s A B (e j)) ∧ (List.range As.length).all e = c
  | _, _, _, _, c, .nil, .nil, h => by
    cases h
    exact ⟨fun _ => true, fun j A B h => by simp at h, rfl⟩
  | _, _, _, _, c, .cons x1 t1, .cons x2 t2, h => by
    unfold eqsE at h
    split at h
    · rename_i a b h1 h2
      cases h
      obtain ⟨e, e1, e2⟩ := eqsE_at hu x t1 t2 h2
      refine ⟨fun j => match j with | 0 => a | j + 1 => e j, fun j A B hA hB => ?_, ?_⟩
      · cases j with
        | zero => simp at hA hB; subst hA hB; exact eqE_at hu x x1 x2 h1
        | succ j => simp at hA hB; exact e1 j A B hA hB
      · rw [List.length_cons, range_all_succ]
        dsimp only
        rw [e2]
    · cases h
  | _, _, _, _, c, .nil, .cons _ _, h => by cases h
  | _, _, _, _, c, .cons _ _, .nil, h => by cases h
theorem eqX_at (ok : cx.Ok) {ρ : Map} {hid : Hd} {st : St} {s : Shared} (x : Rel cx ρ hid st s) {v w : V} {A B : Value} {c : Bool} (ha : VR ρ v A) (hb : VR ρ w B) (h : eqX st v w = some c) : SeqAt.RcAt cx.A s A B c ∧ SeqAt.RcNeAt cx.A s A B (!c) := by
  have hu := ok.units
  unfold eqX at h
  split at h
  · rename_i i j
    obtain ⟨p, hp, rfl⟩ := vr_obj ha
    obtain ⟨q, hq, rfl⟩ := vr_obj hb
    obtain ⟨fz, led, m, mloc, x'⟩ := id x
    split at h
    · rename_i xs ys hi hj
      obtain ⟨Xs, n1, g1, g2⟩ := x'.list_at hi hp
      obtain ⟨Ys, n2, k1, k2⟩ := x'.list_at hj hq
      have l1 : s.heap.IsList p.1 Xs.toArray := ⟨_, (x'.N _ g2).1, rfl, _, rfl⟩
      have l2 : s.heap.IsList q.1 Ys.toArray := ⟨_, (x'.N _ k2).1, rfl, _, rfl⟩
      have len1 := g1.length
      have len2 := k1.length
      split at h
      · rename_i hl
        obtain ⟨e, e1, e2⟩ := eqsE_at (A₀ := cx.A.in1) (by show cx.A.units + 1 + 10 < _; omega) x g1 k1 h
        have hsz : Xs.toArray.size = Ys.toArray.size := by simp; omega
        have he : ∀ j (h1 : j < Xs.toArray.size) (h2 : j < Ys.toArray.size), SeqAt.EqAt cx.A.in1 s Xs.toArray[j] Ys.toArray[j] (e j) := fun j h1 h2 => e1 j _ _ (by simp) (by simp)
        have r1 := SeqAt.RcAt.lists l1 l2 hsz (by omega) he
        have r2 := SeqAt.RcNeAt.lists l1 l2 hsz (by omega) he
        rw [List.size_toArray, e2] at r1 r2
        exact ⟨r1, r2⟩
      · rename_i hl
        cases h
        have hsz : (Xs.toArray.size != Ys.toArray.size) = true := by simp; omega
        exact ⟨SeqAt.RcAt.lists_lengths l1 l2 hsz (by omega), SeqAt.RcNeAt.lists_lengths l1 l2 hsz (by omega)⟩
    · cases h
  · cases h
theorem p_neX (ok : cx.Ok) : P2 cx (compareOp .NotEq) pNeX VR := by
  intro ρ hid st s x a A b B ha hb v st' h
  unfold pNeX at h
  split at h
  · rename_i c e
    cases h
    exact (eqX_at ok x ha hb e).2 _ _ _ _ (fin_same x (.bool _))
  · cases h
end
end Mine
set_option maxRecDepth 100000
namespace Mine
/-- facts of the type map -/
theorem m_owner : Manifest.owners.lookup (String.ofList ['p', 'a', 'm'].reverse) = some Manifest.sig_map := by kernel_rfl
theorem m_mro : mroOf (.type "map") = pure [.type "map", .type "object"] := by rw [mroOf_type]; kernel_rfl
theorem m_new : typeLookup (.type "map") "__new__" = pure (some (.builtin "map.__new__")) := by rw [typeLookup_type, builtinLookup_eq_fast]; kernel_rfl
theorem m_slot_init : Slot "map" "__init__" "object.__init__" :=
  .of (owner := "object") (n := "__init__") (by rw [typeLookup_type, builtinLookup_eq_fast]; kernel_rfl) (by decide +kernel) (by decide +kernel) (by decide +kernel)
    (by first | exact .inl (by decide +kernel) | exact .inr (by decide +kernel)) (by rw [isSubtype_type]; kernel_rfl)
theorem m_slot_iter : Slot "map" "__iter__" "map.__iter__" :=
  .of (owner := "map") (n := "__iter__") (by rw [typeLookup_type, builtinLookup_eq_fast]; kernel_rfl) (by decide +kernel) (by decide +kernel) (by decide +kernel)
    (by first | exact .inl (by decide +kernel) | exact .inr (by decide +kernel)) (by rw [isSubtype_type]; kernel_rfl)
theorem m_slot_next : Slot "map" "__next__" "map.__next__" :=
  .of (owner := "map") (n := "__next__") (by rw [typeLookup_type, builtinLookup_eq_fast]; kernel_rfl) (by decide +kernel) (by decide +kernel) (by decide +kernel)
    (by first | exact .inl (by decide +kernel) | exact .inr (by decide +kernel)) (by rw [isSubtype_type]; kernel_rfl)
theorem m_called : TypeCalled "map" "map.__new__" "object.__init__" :=
  ⟨by decide +kernel, by decide +kernel, ⟨_, _, m_mro⟩, madeBy_type m_mro m_new (by decide +kernel), by decide +kernel, by rw [isSubtype_type]; kernel_rfl, m_slot_init⟩
theorem m_typeCall (a b : Value) : checkTypeCall "map" ⟨[a, b], []⟩ = pure () := by kernel_rfl
theorem m_newCall (a b : Value) : checkBuiltinCall "map.__new__" ⟨[.type "map", a, b], []⟩ = pure () := by kernel_rfl
theorem m_entry_new : entryFor table "map.__new__" = some Builtin.«map.__new__» := entryFor_of_tree (by kernel_rfl)
theorem m_entry_next : entryFor table "map.__next__" = some Builtin.«map.__next__» := entryFor_of_tree (by kernel_rfl)
theorem m_entry_iter : entryFor table "map.__iter__" = some Builtin.«dict_keyiterator.__iter__» :=
  entryFor_alias (id' := "dict_keyiterator.__iter__") (by kernel_rfl) (by first | rfl | decide +kernel | (unfold String.splitOn; simp +decide [String.splitOnAux])) (by decide +kernel) (by kernel_rfl)
theorem m_args_iter (a : Value) : argsOk "map.__iter__" ⟨[a], []⟩ := by
  unfold argsOk; rw [signature?_of (id := "map.__iter__") (n := ['_', '_', 'r', 'e', 't', 'i', '_', '_']) (o := ['p', 'a', 'm']) (by kernel_rfl) m_owner]; kernel_rfl
theorem m_args_next (a : Value) : argsOk "map.__next__" ⟨[a], []⟩ := by
  unfold argsOk; rw [signature?_of (id := "map.__next__") (n := ['_', '_', 't', 'x', 'e', 'n', '_', '_']) (o := ['p', 'a', 'm']) (by kernel_rfl) m_owner]; kernel_rfl
theorem m_no_len : typeLookup (.type "map") "__len__" = pure none := by rw [typeLookup_type, builtinLookup_eq_fast]; kernel_rfl
theorem m_no_hint : typeLookup (.type "map") "__length_hint__" = pure none := by rw [typeLookup_type, builtinLookup_eq_fast]; kernel_rfl
theorem m_sub : isSubtype (.type "map") (.type "map") = pure true := by rw [isSubtype_type]; kernel_rfl
abbrev iterO (l : Addr) : Obj := { cls := .type "list_iterator", data := .fields #[.ref l, .int 0 0] }
abbrev tupO (I : Addr) : Obj := { cls := .type "tuple", data := .seq #[.ref I] }
abbrev mapO (T : Addr) : Obj := { cls := .type "map", data := .fields #[.ref T, .type "str"] }
theorem meets_map_new (l : Addr) (xs : Array Value) :
    Meets (Builtin.«map.__new__» ⟨[.type "map", .type "str", .ref l], []⟩) (fun _ R s => s.heap.IsList l xs ∧
      R (.ok (.ret (.ref (s.heap.objs.size + 2)))) { s with heap := ((s.heap.push (iterO l)).push (tupO s.heap.objs.size)).push (mapO (s.heap.objs.size + 1)) }) :=
  .of_wp fun prog w A R s h => by
    obtain ⟨hp, g, d, tk, os⟩ := s; obtain ⟨hl1, h⟩ := h
    have hsub := m_sub
    have hL1 : Heap.IsList (Shared.heap ⟨hp, g, d, tk, os⟩) l xs := hl1
    wp_walk using wpAny_pyIter_list hL1
    refine ⟨_, rfl, ?_⟩
    rw [Heap.size_push, Heap.size_push]
    exact h
section
variable {prog : Program} {w : World} {A : Around} {E : Value → Shared → Prop} {s : Shared}
theorem call_map {l : Addr} {xs : Array Value} {Q : Value → Shared → Prop} (hl : s.heap.IsList l xs)
    (h : Q (.ref (s.heap.objs.size + 2)) { s with heap := ((s.heap.push (iterO l)).push (tupO s.heap.objs.size)).push (mapO (s.heap.objs.size + 1)) }) :
    wpAny (model prog w) A (call (.type "map") [.type "str", .ref l]) Q E s := by
  refine callType_new m_called (by decide) (m_typeCall _ _) (m_newCall _ _) (fun obj => PySem.F.args_object_init_3 obj _ _) m_entry_new (meets_map_new l xs) ⟨hl, ?_, h⟩
  have e : s.heap.objs.size + 2 = ((s.heap.push (iterO l)).push (tupO s.heap.objs.size)).objs.size := by rw [Heap.size_push, Heap.size_push]
  rw [e]
  exact ⟨_, Heap.get?_push_size _ rfl, rfl⟩
theorem pyIter_map {M T : Addr} {Q : Value → Shared → Prop} (hz : s.heap.get? M = some (mapO T)) (h : Q (.ref M) s) : wpAny (model prog w) A (pyIter (.ref M)) Q E s := by
  have hT : s.TypeIs (.ref M) "map" := ⟨_, hz, rfl⟩
  refine wpAny_pyIter_slot hT m_slot_iter (wpAny_call_entry m_slot_iter hT m_entry_iter ?_ (m_args_iter _))
  show wpAny _ _ (ret (.ref M)) _ _ s
  exact wpAny_pure ⟨_, rfl, "map", _, hT, m_slot_next.lookup, h⟩
theorem map_next_item {M T I l : Addr} {i : Nat} {items : Array Value} {x : Value} {Q : Option Value → Shared → Prop} {Ex : Value → Shared → Prop} (hM : s.heap.get? M = some (mapO T)) (hT : s.heap.get? T = some (tupO I)) (hit : s.heap.IsListIter I l i) (hl : s.heap.IsList l items) (hx : items[i]? = some x) (hIM : I ≠ M)
    (h : ∀ h', h'.IsListIter I l (i + 1) → Heap.SameBut I s.heap h' → wpAny (model prog w) A.in1 (call (.type "str") [x]) (fun v s1 => Q (some v) s1) Ex { s with heap := h' })
    (hEx : ∀ e s1, Ex e s1 → ∃ K, s1.TypeIs e K ∧ isSubtype (.type K) (.type "StopIteration") = pure false ∧ E e s1) : wpAny (model prog w) A (pyNext (.ref M)) Q E s := by
  have hTy : s.TypeIs (.ref M) "map" := ⟨_, hM, rfl⟩
  unfold pyNext
  refine wpAny_bind (wpAny_attempt (wpAny_callSpecial?_slot (name := Str.ofString "__next__") hTy m_slot_next (wpAny_call_entry m_slot_next hTy m_entry_next ?_ (m_args_next _))))
  show wpAny _ _ (field (.ref M) 0 >>= _) _ _ s
  refine wpAny_bind (wpAny_field hM rfl (x := .ref T) rfl ?_)
  show wpAny _ _ (seqItems? (.ref T) >>= _) _ _ s
  refine wpAny_bind (wpAny_seqItems hT rfl ?_)
  dsimp only
  refine wpAny_bind ?_
  rw [show (#[Value.ref I] : Array Value) = [Value.ref I].toArray from rfl, List.forIn_toArray, List.forIn_cons]
  refine wpAny_bind (wpAny_bind (wpAny_holding (wpAny_nextOf_list_item hit hl hx fun h' hit' hs' => ?_)))
  refine wpAny_pure ?_
  dsimp only
  rw [List.forIn_nil]
  refine wpAny_pure ?_
  have hM' : h'.get? M = some (mapO T) := (hs'.2 M (Ne.symm hIM)).trans hM
  refine wpAny_bind (wpAny_field hM' rfl (x := .type "str") rfl ?_)
  refine wpAny_bind (wpAny_holding ?_)
  refine wpAny_mono (h h' hit' hs') (fun v s1 hv => ?_) fun e s1 he => ?_
  · exact wpAny_bind (wpAny_letGo (wpAny_pure ⟨_, rfl, wpAny_pure hv⟩))
  · obtain ⟨K, k1, k2, k3⟩ := hEx e s1 he
    refine wpAny_bind (wpAny_isInstance k1 k2 ?_)
    exact wpAny_throw k3
theorem map_next_end {M T I l : Addr} {i : Nat} {items : Array Value} {Q : Option Value → Shared → Prop} (hh : A.handled = none) (hM : s.heap.get? M = some (mapO T)) (hT : s.heap.get? T = some (tupO I)) (hit : s.heap.IsListIter I l i) (hl : s.heap.IsList l items) (hx : items[i]? = none)
    (h : ∀ h', Heap.ExtBut I s.heap h' → Q none { s with heap := h' }) : wpAny (model prog w) A (pyNext (.ref M)) Q E s := by
  have hTy : s.TypeIs (.ref M) "map" := ⟨_, hM, rfl⟩
  unfold pyNext
  refine wpAny_bind (wpAny_attempt (wpAny_callSpecial?_slot (name := Str.ofString "__next__") hTy m_slot_next (wpAny_call_entry m_slot_next hTy m_entry_next ?_ (m_args_next _))))
  show wpAny _ _ (field (.ref M) 0 >>= _) _ _ s
  refine wpAny_bind (wpAny_field hM rfl (x := .ref T) rfl ?_)
  show wpAny _ _ (seqItems? (.ref T) >>= _) _ _ s
  refine wpAny_bind (wpAny_seqItems hT rfl ?_)
  dsimp only
  refine wpAny_bind ?_
  rw [show (#[Value.ref I] : Array Value) = [Value.ref I].toArray from rfl, List.forIn_toArray, List.forIn_cons]
  refine wpAny_bind (wpAny_bind (wpAny_holding (wpAny_nextOf_list_end hh hit hl hx fun h' e hk he => ?_)))
  obtain ⟨o, ho, hc⟩ := he
  refine wpAny_bind (wpAny_isInstance (T := "StopIteration") (b := true) ⟨o, ho, hc⟩ isSubtype_stop ?_)
  exact wpAny_pure (h _ hk)
end
end Mine
namespace Mine
def cpsI (i : Int) : List Nat := cps (toString i)
/-- the text of a value; of an instance by its own method -/
def strP (rec : Nat → PM V) : V → PM V
  | .str l => fun st => if l.length ≤ 1000000 then .ok (.str l) st else .fail
  | .int i => fun st => if small i then .ok (.str (cpsI i)) st else .fail
  | .obj j => fun st => match st.sto[j]? with
    | some (.inst _) => PM.bind (rec j) (fun v => match v with | .str l => PM.pure (.str l) | _ => PM.fail) st
    | _ => .fail
  | _ => PM.fail
def cStr (rec : Nat → PM V) : List V → PM V
  | [v] => strP rec v
  | _ => PM.fail
def callS (mb : PM Fl) (j : Nat) : PM V := callP ["self"] mb [.obj j]
/-- places that are near -/
structure Near (cx : Cx) (A' : Around) (u : Nat) : Prop where
  frames : A'.frames = cx.A.frames
  handled : A'.handled = cx.A.handled
  depth : A'.depth = cx.A.depth
  units : A'.units ≤ cx.A.units + u
section
variable {cx : Cx}
theorem Near.refl : Near cx cx.A 0 := ⟨rfl, rfl, rfl, Nat.le_refl _⟩
theorem Near.in1 {A' : Around} {u : Nat} (h : Near cx A' u) : Near cx A'.in1 (u + 1) := ⟨h.frames, h.handled, h.depth, by have := h.units; show A'.units + 1 ≤ _; omega⟩
theorem near_ok (ok : cx.Ok) {A' : Around} {u : Nat} (h : Near cx A' u) (hu : u ≤ 30) (hn : 1 ≤ cx.n) : (cx.at A').Ok where
  bmain := ok.bmain
  kin := ok.kin
  top := ok.top
  below := ok.below
  frames := by show A'.frames = _; rw [h.frames]; exact ok.frames
  fframe := ok.fframe
  fkind := ok.fkind
  kind := ok.kind
  globals := ok.globals
  builtins := ok.builtins
  handled := by show A'.handled = _; rw [h.handled]; exact ok.handled
  depth := by have := ok.depth; show A'.depth + 4 * 0 + 4 < _; rw [h.depth]; omega
  units := by have := ok.units; have := h.units; show A'.units + 40 * 0 + 200 < _; omega
  cinj := ok.cinj
/-- what str() needs to know of the class -/
structure StrOf (cx : Cx) (k : Nat) (f : Addr) (mb : PM Fl) : Prop where
  lev : k + 1 ≤ cx.n
  find : findIn cx.K (.ref cx.C) "__str__" = some (some (.ref f))
  isf : isFn cx.K (.ref f) = true
  fn : Fn cx k f ["self"] mb
theorem small_log {i : Int} (h : small i = true) : i.natAbs.log2 < 1920 := by
  have h1 := small_iff h
  rcases Nat.eq_zero_or_pos i.natAbs with q | q
  · rw [q]; decide
  · have : i.natAbs.log2 < 64 := (Nat.log2_lt (by omega)).mpr h1
    omega
theorem vr_text {ρ : Map} (x : String) (t : Tok) : VR ρ (.str (cps x)) (.str (Str.ofString x) t) := by
  have h : Str.ofString x = ⟨(cps x).toArray⟩ := str_cps _
  rw [h]
  exact .str _ t (cps_ok x)
theorem str_call (ok : cx.Ok) {k : Nat} {f : Addr} {mb : PM Fl} (S : StrOf cx k f mb) {A' : Around} {u : Nat} (hA : Near cx A' u) (hu : u ≤ 20) {ρ : Map} {hid : Hd} {st st' : St} {s : Shared} (x : Rel cx ρ hid st s) {a : V} {A : Value} (ha : VR ρ a A) {v : V} (h : strP (callS mb) a st = .ok v st') :
    wpAny cx.M A' (call (.type "str") [A]) (fun W s' => ∃ ρ', ρ <+: ρ' ∧ Rel cx ρ' hid st' s' ∧ VR ρ' v W) (fun _ _ => False) s := by
  unfold strP at h
  split at h
  · obtain ⟨t, rfl⟩ := vr_str ha
    split at h
    · cases h
      exact P.str_of_str ⟨ρ, pre_refl ρ, x, ha⟩
    · cases h
  · obtain ⟨t, rfl⟩ := vr_int ha
    split at h
    · rename_i i hs
      cases h
      exact P.str_of_int (small_log hs) ⟨ρ, pre_refl ρ, x.toks _, vr_text _ _⟩
    · cases h
  · rename_i j
    obtain ⟨p, hp, rfl⟩ := vr_obj ha
    split at h
    · rename_i as hi
      obtain ⟨w, st1, e1, h1⟩ := bind_ok h
      split at h1
      · rename_i l
        cases h1
        obtain ⟨fz, led, m, mloc, x'⟩ := id x
        obtain ⟨Es, n', h1, h2, h3, h4, I⟩ := inst_at x' hi hp
        have hA2 := hA.in1.in1
        have hn := S.lev
        have hd := ok.depth
        have hun := ok.units
        have hAu := hA2.units
        refine kso_call (K := cx.K) (C := cx.C) (f := f) (by omega) (ok.kin.keeps x'.F.keep) I S.find S.isf ?_
        refine wpAny_call (S.fn.run A'.in1.in1 (near_ok ok hA2 (by omega) (by omega)) (by rw [hA2.depth]; omega) (by omega) x (.cons ha .nil) e1 fun ρ' W s' p1 r1 v1 => ?_)
        obtain ⟨t, rfl⟩ := vr_str v1
        exact ⟨ρ', p1, r1, v1⟩
      · cases h1
    · cases h
  · cases h
theorem pc_str (ok : cx.Ok) {k : Nat} {f : Addr} {mb : PM Fl} (S : StrOf cx k f mb) : PC cx (.type "str") (cStr (callS mb)) := by
  intro ρ hid st s x vs Vs hv v st' h
  unfold cStr at h
  split at h
  · obtain ⟨A, rfl, ha⟩ := vrs_one hv
    exact str_call ok S Near.refl (by omega) x ha h
  · cases h
/-- a list's items change -/
theorem upd_list {ρ : Map} {hid : Hd} {st : St} {s : Shared} (x : Rel cx ρ hid st s) {i : Nat} {p : Addr × Addr} {xs ys : List V} (hp : ρ[i]? = some p) (hi : st.sto[i]? = some (.list xs)) (hl : xs.length ≤ 1000001) {f : Array Value → Array Value}
    (hf : ∀ Xs : List Value, VRs ρ xs Xs → ∃ Ys : List Value, f Xs.toArray = Ys.toArray ∧ VRs ρ ys Ys ∧ Ys.length ≤ Xs.length + 1) {A : Around} {E : Value → Shared → Prop} {Q : Unit → Shared → Prop}
    (k : ∀ h', Rel cx ρ hid { st with sto := st.sto.set i (.list ys) } { s with heap := h' } → Q () { s with heap := h' }) : wpAny cx.M A (updateSeq p.1 f) Q E s := by
  obtain ⟨fz, led, m, mloc, x'⟩ := id x
  obtain ⟨Xs, n, g1, g2⟩ := x'.list_at hi hp
  obtain ⟨Ys, e1, e2, e3⟩ := hf Xs g1
  have hlen := g1.length
  have hg := x'.N _ g2
  have hsz : sizeLine = 16777216 := by decide
  have hm : ∃ n', Obj.mapSeq f (listOf Xs.toArray n) = listOf Ys.toArray n' := by
    unfold Obj.mapSeq
    dsimp only
    rw [e1]
    exact ⟨_, rfl⟩
  obtain ⟨n', hm⟩ := hm
  refine wpAny_updateSeq hg.1 rfl (k _ ?_) (by rw [List.size_toArray]; omega) (by rw [e1, List.size_toArray]; omega)
  have q : (s.heap.update p.1 (Obj.mapSeq f)).get? p.1 = some (listOf Ys.toArray n') := by rw [Heap.get?_update_self _ hg.1 (by rw [hm]; rfl), hm]
  have hs : Heap.SameBut p.1 s.heap (s.heap.update p.1 (Obj.mapSeq f)) := Heap.SameBut.update ..
  exact x'.put_list (tk := s.toks) hp g2 e2 (Fr.sameBut x'.F hs hg.2.1 hg.2.2) (News.updL x'.N g2 hs q)
end
/-- list.extend of the texts of a list's items -/
noncomputable def mapLoop (rec : Nat → PM V) (i : Nat) (src : Src) : List V → PM V
  | [] => PM.bind (chk src) fun _ => PM.pure .none
  | x :: r => PM.bind (chk src) fun _ => PM.bind (strP rec x) fun v => PM.bind (cAppend [.obj i, v]) fun _ => mapLoop rec i src r
noncomputable def extMap (rec : Nat → PM V) : V → V → PM V
  | .obj i, .obj j => fun st => match st.sto[i]?, st.sto[j]? with
    | some (.list xs), some (.list ys) => if xs.length ≤ 1000000 then mapLoop rec i (some (j, .list ys)) ys st else .fail
    | _, _ => .fail
  | _, _ => PM.fail
section
variable {cx : Cx}
theorem hid_get {ρ : Map} {hid : Hd} {st : St} {s : Shared} (x : Rel cx ρ hid st s) {q : Addr × Obj} (h : q ∈ hid.h) : s.heap.get? q.1 = some q.2 := by
  obtain ⟨fz, led, m, mloc, x⟩ := x
  exact (x.N _ (x.B.hin _ h)).1
theorem append_ok {i : Nat} {v r : V} {st st' : St} (h : cAppend [.obj i, v] st = .ok r st') : ∃ xs, st.sto[i]? = some (.list xs) ∧ xs.length ≤ 1000000 ∧ r = .none ∧ st' = { st with sto := st.sto.set i (.list (xs ++ [v])) } := by
  unfold cAppend at h
  dsimp only at h
  split at h
  · rename_i xs e
    split at h
    · rename_i hl
      cases h
      exact ⟨xs, e, hl, rfl, rfl⟩
    · cases h
  · cases h
theorem ext_loop (ok : cx.Ok) {k : Nat} {f : Addr} {mb : PM Fl} (S : StrOf cx k f mb) {A' : Around} {u : Nat} (hA : Near cx A' u) (hu : u ≤ 10) {i j : Nat} {all : List V} {M T I : Addr} {pi pj : Addr × Addr} {hid : Hd} (hM : ∀ q ∈ hid.h, q.1 ≠ M) (hT : ∀ q ∈ (hid.cons (M, mapO T)).h, q.1 ≠ T) (hI : ∀ q ∈ ((hid.cons (M, mapO T)).cons (T, tupO I)).h, q.1 ≠ I) :
    ∀ (xs : List V) (n : Nat) (o : Obj) (ρ : Map) (st st' : St) (s : Shared) (v : V), all = all.take n ++ xs → n + xs.length = all.length → o.cls = .type "list_iterator" → o.data = .fields #[.ref pj.1, .int n 0] →
      Rel cx ρ (((hid.cons (M, mapO T)).cons (T, tupO I)).cons (I, o)) st s → ρ[i]? = some pi → ρ[j]? = some pj → mapLoop (callS mb) i (some (j, .list all)) xs st = .ok v st' →
      ∀ {R : Result → Shared → Prop}, (∀ ρ' s', ρ <+: ρ' → Rel cx ρ' hid st' s' → v = .none → R (.ok (.ret .none)) s') → codeAny cx.M A' (.builtin "list.extend.loop" ⟨[.ref pi.1, .ref M, .none], []⟩) R s
  | [], n, o, ρ, st, st', s, v, hall, hn, oc, od, x, hpi, hpj, h, R, hR => by
    unfold mapLoop at h
    obtain ⟨_, st1, e1, h1⟩ := bind_ok h
    obtain ⟨rfl, hs⟩ := chk_ok e1
    cases h1
    have hj := hs _ rfl
    refine codeAny_builtin PySem.F.entry_extend_loop ?_
    rw [Around.under_plainId PySem.F.plain_extend_loop _]
    show wpAny _ A'.in1 (pyNext (.ref M) >>= _) _ _ s
    have gI := hid_get x (q := (I, o)) (.head _)
    have gT := hid_get x (q := (T, tupO I)) (.tail _ (.head _))
    have gM := hid_get x (q := (M, mapO T)) (.tail _ (.tail _ (.head _)))
    obtain ⟨fz, led, m, mloc, x'⟩ := id x
    obtain ⟨Xs, n', g1, g2⟩ := x'.list_at hj hpj
    have hit : s.heap.IsListIter I pj.1 n := ⟨o, gI, oc, od⟩
    have hh : A'.in1.handled = none := by rw [hA.in1.handled]; exact ok.handled
    refine wpAny_bind (map_next_end hh gM gT hit ⟨_, (x'.N _ g2).1, rfl, _, rfl⟩ ?_ fun h' hk => ?_)
    · rw [List.getElem?_toArray]
      refine List.getElem?_eq_none ?_
      rw [← g1.length, ← hn]; simp
    · exact wpAny_pure (hR ρ _ (pre_refl ρ) ((x.dropI (tk := s.toks) hI fun b ob hb e => hk b ob hb e).less.less) rfl)
  | y :: r, n, o, ρ, st, st', s, v, hall, hn, oc, od, x, hpi, hpj, h, R, hR => by
    unfold mapLoop at h
    obtain ⟨_, st1, e1, h1⟩ := bind_ok h
    obtain ⟨rfl, hs⟩ := chk_ok e1
    obtain ⟨w, st2, e2, h2⟩ := bind_ok h1
    obtain ⟨_, st3, e3, h3⟩ := bind_ok h2
    have hj := hs _ rfl
    refine codeAny_builtin PySem.F.entry_extend_loop ?_
    rw [Around.under_plainId PySem.F.plain_extend_loop _]
    show wpAny _ A'.in1 (pyNext (.ref M) >>= _) _ _ s
    have gI := hid_get x (q := (I, o)) (.head _)
    have gT := hid_get x (q := (T, tupO I)) (.tail _ (.head _))
    have gM := hid_get x (q := (M, mapO T)) (.tail _ (.tail _ (.head _)))
    obtain ⟨fz, led, m, mloc, x'⟩ := id x
    obtain ⟨Xs, n', g1, g2⟩ := x'.list_at hj hpj
    have hit : s.heap.IsListIter I pj.1 n := ⟨o, gI, oc, od⟩
    have hy : all[n]? = some y := by
      rw [hall, List.getElem?_append_right (by simp; omega)]
      have : n - (all.take n).length = 0 := by simp; simp at hn; omega
      rw [this]; rfl
    obtain ⟨Y, w1, w2⟩ := vrs_get g1 hy
    have hIM : I ≠ M := fun e => hI (M, mapO T) (.tail _ (.head _)) e.symm
    refine wpAny_bind (map_next_item (Ex := fun _ _ => False) gM gT hit ⟨_, (x'.N _ g2).1, rfl, _, rfl⟩ (by rw [List.getElem?_toArray]; exact w1) hIM (fun h' hit' hs' => ?_) fun _ _ z => z.elim)
    obtain ⟨o', ho', oc', od'⟩ := hit'
    have x2 := x.turn (tk := s.toks) hI (fun b ob hb e => (hs'.2 b hb).trans e) ho'
    refine wpAny_mono (str_call ok S hA.in1.in1 (by omega) x2 w2 e2) (fun W s2 hq => ?_) fun _ _ z => z
    obtain ⟨ρ2, p2, r2, v2⟩ := hq
    obtain ⟨zs, q1, q2, rfl, rfl⟩ := append_ok e3
    show wpAny _ A'.in1 (updateSeq pi.1 (·.push W) >>= _) _ _ _
    refine wpAny_bind (upd_list r2 (get_mono p2 hpi) q1 (by omega) (ys := zs ++ [w]) (fun Zs hz => ⟨Zs ++ [W], by simp, vrs_append hz (.cons v2 .nil), by simp⟩) fun h'' r3 => ?_)
    refine wpAny_pure ⟨plainId_quiet PySem.F.plain_extend_loop _, ?_⟩
    refine ext_loop ok S hA hu hM hT hI r (n + 1) o' ρ2 _ st' _ v ?_ (by simp at hn ⊢; omega) oc' od' r3 (get_mono p2 hpi) (get_mono p2 hpj) h3 fun ρ' s' p3 r4 hv => hR ρ' s' (pre_trans p2 p3) r4 hv
    have : all.take (n + 1) = all.take n ++ [y] := by rw [List.take_succ, hy]; rfl
    rw [this]
    rw [List.append_assoc]
    exact hall
end
end Mine
namespace Mine
section
variable {cx : Cx}
theorem Rel.sub {ρ : Map} {hid hid' : Hd} {st : St} {s : Shared} (x : Rel cx ρ hid st s) (hs : ∀ q ∈ hid'.h, q ∈ hid.h) (hz : hid'.z = hid.z) : Rel cx ρ hid' st s := by
  obtain ⟨fz, led, m, mloc, x⟩ := x
  refine ⟨fz, led, m, mloc, x.F, x.N, ?_, x.gens, x.os, x.tk⟩
  have B := x.B
  refine ⟨B.nd, B.cm, ?_, B.len, B.own, B.obj, B.sep, fun r hr => B.hin r (hs r hr), fun r hr => B.hsep r (hs r hr), B.cel, fun y c hc => ⟨fun r hr => (B.csep y c hc).1 r (hs r hr), (B.csep y c hc).2⟩, B.fin, by rw [hz]; exact B.fz0, fun r hr => B.hfz r (hs r hr), B.fsep, B.fcel, B.loc⟩
  rcases B.ln with h | ⟨g1, o, es, ep, g2, g3, g4, g5, g6, g7, g8, g9⟩
  · exact .inl h
  · exact .inr ⟨g1, o, es, ep, g2, g3, g4, g5, g6, fun r hr => g7 r (hs r hr), g8, g9⟩
theorem hid_sep {ρ : Map} {hid : Hd} {st : St} {s : Shared} (x : Rel cx ρ hid st s) {q : Addr × Obj} (h : q ∈ hid.h) {i : Nat} {p : Addr × Addr} (hp : ρ[i]? = some p) : q.1 ≠ p.1 := by
  obtain ⟨fz, led, m, mloc, x⟩ := x
  exact (x.B.hsep q h p (mem_of_get hp)).1
theorem set_none_back {st : St} {i : Nat} {xs ys : List V} (h : st.sto[i]? = some (.list xs)) : ({ st with sto := (st.sto.set i (.list ys)).set i (.list xs) } : St) = st := by
  have : (st.sto.set i (.list ys)).set i (.list xs) = st.sto := by
    rw [List.set_set]
    apply List.ext_getElem?
    intro k
    by_cases q : k = i
    · subst q; rw [List.getElem?_set_self (get_lt h), h]
    · rw [List.getElem?_set_ne (Ne.symm q)]
  rw [this]
theorem ext_call (ok : cx.Ok) {k : Nat} {f : Addr} {mb : PM Fl} (S : StrOf cx k f mb) {i j : Nat} {M T I : Addr} {pi pj : Addr × Addr} {hid : Hd} (hM : ∀ q ∈ hid.h, q.1 ≠ M) (hT : ∀ q ∈ (hid.cons (M, mapO T)).h, q.1 ≠ T) (hI : ∀ q ∈ ((hid.cons (M, mapO T)).cons (T, tupO I)).h, q.1 ≠ I)
    {ρ : Map} {st st' : St} {s : Shared} {v : V} (x : Rel cx ρ (((hid.cons (M, mapO T)).cons (T, tupO I)).cons (I, iterO pj.1)) st s) (hpi : ρ[i]? = some pi) (hpj : ρ[j]? = some pj) (h : extMap (callS mb) (.obj i) (.obj j) st = .ok v st') :
    wpAny cx.M cx.A (call (.builtin "list.extend") [.ref pi.1, .ref M]) (fun W s' => ∃ ρ', ρ <+: ρ' ∧ Rel cx ρ' hid st' s' ∧ VR ρ' v W) (fun _ _ => False) s := by
  unfold extMap at h
  dsimp only at h
  split at h
  · rename_i xs ys hi hj
    split at h
    · rename_i hl
      have gM := hid_get x (q := (M, mapO T)) (.tail _ (.tail _ (.head _)))
      have hTy : s.TypeIs (.ref M) "map" := ⟨_, gM, rfl⟩
      obtain ⟨fz, led, m, mloc, x'⟩ := id x
      obtain ⟨Xs, n, g1, g2⟩ := x'.list_at hi hpi
      have hLy : s.TypeIs (.ref pi.1) "list" := ⟨_, (x'.N _ g2).1, rfl⟩
      refine wpAny_call (codeAny_call_builtin PySem.F.slot_list_extend.plain PySem.F.entry_list_extend (PySem.F.slot_list_extend.check _ _ _ _ _ _ _ _ hLy (PySem.F.args_list_extend_2 _ _) ?_))
      show wpAny _ cx.A.in1 (Builtin.List.listExtendWith (.ref pi.1) (.ref M) .none) _ _ s
      have hSM : pi.1 ≠ M := Ne.symm (hid_sep x (q := (M, mapO T)) (.tail _ (.tail _ (.head _))) hpi)
      unfold Builtin.List.listExtendWith
      refine wpAny_bind (wpAny_typeOf hTy ?_)
      have h1 : Builtin.List.listSameRef (.ref pi.1) (.ref M) = false := by simp [Builtin.List.listSameRef, hSM]
      have h2 : (Value.type "map" == Value.type "list") = false := by decide
      have h3 : (Value.type "map" == Value.type "tuple") = false := by decide
      simp only [h1, h2, h3, Bool.or_false, Bool.false_eq_true, if_false]
      refine wpAny_bind (pyIter_map gM ?_)
      refine wpAny_bind (wpAny_holding ?_)
      unfold Builtin.List.listLengthHint
      refine wpAny_bind (wpAny_specialOf hTy m_no_len ?_)
      show wpAny _ cx.A.in1 (specialOf (Value.ref M) (Str.ofString "__length_hint__") >>= _) _ _ _
      refine wpAny_bind (wpAny_specialOf hTy m_no_hint ?_)
      refine wpAny_pure ?_
      show wpAny _ cx.A.in1 (rule "list.extend.makes-room" >>= fun _ => Builtin.List.listTouch (.ref pi.1) >>= fun _ =>
        again (.builtin "list.extend.loop" ⟨[.ref pi.1, .ref M, .none], []⟩)) _ _ _
      refine wpAny_bind (wpAny_rule ?_)
      refine wpAny_bind ?_
      show wpAny _ cx.A.in1 (updateSeq pi.1 (·.push .none) >>= fun _ => updateSeq pi.1 (·.pop)) _ _ _
      refine wpAny_bind (upd_list x hpi hi (by omega) (ys := xs ++ [.none]) (fun Zs hz => ⟨Zs ++ [.none], by simp, vrs_append hz (.cons .none .nil), by simp⟩) fun h' r1 => ?_)
      refine upd_list r1 hpi (List.getElem?_set_self (get_lt hi)) (by simp; omega) (ys := xs) (fun Zs hz => ?_) fun h'' r2 => ?_
      · obtain ⟨Ys, W, rfl, g1, g2⟩ := vrs_snoc hz
        exact ⟨Ys, by simp, g1, by simp; omega⟩
      · have r2 : Rel cx ρ (((hid.cons (M, mapO T)).cons (T, tupO I)).cons (I, iterO pj.1)) { st with sto := (st.sto.set i (.list (xs ++ [.none]))).set i (.list xs) } { s with heap := h'' } := r2
        rw [set_none_back hi] at r2
        refine wpAny_pure ⟨plainId_quiet PySem.F.plain_extend_loop _, ?_⟩
        refine ext_loop ok S Near.refl (by omega) hM hT hI ys 0 (iterO pj.1) ρ st st' _ v (by simp) (by simp) rfl rfl r2 hpi hpj h fun ρ' s' p1 r3 hv => ?_
        subst hv
        exact ⟨ρ', p1, r3, .none⟩
    · cases h
  · cases h
set_option maxRecDepth 100000 in
theorem sim_ExtMap (ok : cx.Ok) {k : Nat} {f : Addr} {mb : PM Fl} (S : StrOf cx k f mb) {o e : Expr} {apos pos mpos np sp : Pos} {mo ml : PM V} (ho : SimV cx (eval o cx.env) mo) (hmap : SimV cx (eval (.Name "map" np) cx.env) (PM.pure (.glob (.type "map")))) (hstr : SimV cx (eval (.Name "str" sp) cx.env) (PM.pure (.glob (.type "str"))))
    (hl : SimV cx (eval e cx.env) ml) (hst : isStarred e = false) (hb : plainBase o = true) (hline : (apos.endLine == pos.line) = true) :
    SimV cx (eval (.Call (.Attribute o "extend" apos) [.Call (.Name "map" np) [.Name "str" sp, e] [] mpos] [] pos) cx.env) (PM.bind mo fun v => PM.bind (isList v) fun _ => PM.bind ml fun l => extMap (callS mb) v l) := by
  intro ρ hid st s x v st' h
  obtain ⟨a, st1, e1, h1⟩ := bind_ok h
  obtain ⟨_, st2, e2, h2⟩ := bind_ok h1
  obtain ⟨b, st3, e3, h3⟩ := bind_ok h2
  clear h h1 h2
  have hplain : (backTo pos (starEach [.Call (.Name "map" np) [.Name "str" sp, e] [] mpos] cx.env)).any (·.1) = false := plain_cons rfl plain_nil
  have hplain2 : (backTo mpos (starEach [.Name "str" sp, e] cx.env)).any (·.1) = false := plain_cons rfl (plain_cons hst plain_nil)
  refine MethodCall_ (wp_seq (ho ρ hid st s x a st1 e1) fun A s1 ρ1 p1 r1 v1 => ?_) (meth_form (cx := cx) hb hplain rfl hline)
  unfold isList at e2
  split at e2
  · rename_i i
    obtain ⟨p, hp', rfl⟩ := vr_obj v1
    split at e2
    · rename_i xs hi
      cases e2
      obtain ⟨fz, led, m, mloc, r'⟩ := id r1
      obtain ⟨Xs, n, g1, g2⟩ := r'.list_at hi hp'
      refine kl_method r'.N g2 PySem.F.slot_list_extend rfl ?_
      refine callWith_of (P := cx.K.In) (by rw [hplain]; rfl) keep_builtin (evalArgs_of hplain ?_)
      rw [star_plain rfl]
      refine spliced_cons ?_
      rw [call_name]
      refine wpAny_bind (wp_seq (hmap ρ1 hid st1 s1 r1 _ _ rfl) fun U s2 ρ2 p2 r2 v2 => ?_)
      cases vr_glob v2
      refine callWith_of (P := cx.K.In) (by rw [hplain2]; rfl) keep_type (evalArgs_of hplain2 ?_)
      rw [star_plain rfl, star_plain hst]
      refine spliced_cons (wp_seq (hstr ρ2 hid st1 s2 r2 _ _ rfl) fun U s3 ρ3 p3 r3 v3 => ?_)
      cases vr_glob v3
      refine spliced_cons (wp_seq (hl ρ3 hid st1 s3 r3 b st3 e3) fun B s4 ρ4 p4 r4 v4 => spliced_nil ?_)
      have kin : ∀ {ρ : Map} {hid : Hd} {st : St} {s : Shared}, Rel cx ρ hid st s → cx.K.In s.heap := fun r => by
        obtain ⟨fz, led, m, mloc, r⟩ := r
        exact ok.kin.keeps r.F.keep
      refine ⟨kin r4, ?_⟩
      have pp := pre_trans p2 (pre_trans p3 p4)
      have hpi := get_mono pp hp'
      -- the list
      have hb2 : ∃ j ys, b = .obj j ∧ st3.sto[j]? = some (.list ys) := by
        cases b <;> try (cases h3; done)
        rename_i j
        unfold extMap at h3
        dsimp only at h3
        split at h3
        · rename_i q1 q2
          exact ⟨j, _, rfl, q2⟩
        · cases h3
      obtain ⟨j, ys, rfl, hj⟩ := hb2
      obtain ⟨pj, hpj, rfl⟩ := vr_obj v4
      obtain ⟨fz4, led4, m4, mloc4, r4'⟩ := id r4
      obtain ⟨Ys, n4, g3, g4⟩ := r4'.list_at hj hpj
      have hit : s4.heap.IsList pj.1 Ys.toArray := ⟨_, (r4'.N _ g4).1, rfl, _, rfl⟩
      refine call_map hit ?_
      obtain ⟨y1, n1⟩ := r4.hide (ob := iterO pj.1) (tk := s4.toks) rfl
      obtain ⟨y2, n2⟩ := y1.hide (ob := tupO s4.heap.objs.size) (tk := s4.toks) rfl
      obtain ⟨y3, n3⟩ := y2.hide (ob := mapO (s4.heap.objs.size + 1)) (tk := s4.toks) rfl
      dsimp only at n2 n3 y2 y3
      rw [Heap.size_push] at n2 y2
      rw [Heap.size_push, Heap.size_push] at n3 y3
      have y4 : Rel cx ρ4 (((hid.cons (s4.heap.objs.size + 2, mapO (s4.heap.objs.size + 1))).cons (s4.heap.objs.size + 1, tupO s4.heap.objs.size)).cons (s4.heap.objs.size, iterO pj.1)) st3
          { s4 with heap := ((s4.heap.push (iterO pj.1)).push (tupO s4.heap.objs.size)).push (mapO (s4.heap.objs.size + 1)) } := by
        refine y3.sub (fun q hq => ?_) rfl
        rcases List.mem_cons.mp hq with rfl | hq
        · exact .tail _ (.tail _ (.head _))
        · rcases List.mem_cons.mp hq with rfl | hq
          · exact .tail _ (.head _)
          · rcases List.mem_cons.mp hq with rfl | hq
            · exact .head _
            · exact .tail _ (.tail _ (.tail _ hq))
      refine spliced_nil ⟨kin y4, ?_⟩
      refine wpAny_mono (ext_call ok S ?_ ?_ ?_ y4 hpi hpj h3) (fun W s5 hq => ?_) fun _ _ z => z
      · intro q hq
        have := n3 q (.tail _ (.tail _ hq))
        rw [Heap.size_push] at this
        exact this
      · intro q hq
        rcases List.mem_cons.mp hq with rfl | hq
        · show s4.heap.objs.size + 2 ≠ s4.heap.objs.size + 1; omega
        · exact n2 q (.tail _ hq)
      · intro q hq
        rcases List.mem_cons.mp hq with rfl | hq
        · show s4.heap.objs.size + 1 ≠ s4.heap.objs.size; omega
        · rcases List.mem_cons.mp hq with rfl | hq
          · show s4.heap.objs.size + 2 ≠ s4.heap.objs.size; omega
          · exact n1 q hq
      · obtain ⟨ρ5, p5, r5, v5⟩ := hq
        exact ⟨ρ5, pre_trans p1 (pre_trans pp p5), r5, v5⟩
    · cases e2
  · cases e2
end
end Mine
namespace Mine
/-- f-strings -/
def fmtP : V → PM V
  | .str l => fun st => if l.length ≤ 1000000 then .ok (.str l) st else .fail
  | .int i => fun st => if small i then .ok (.str (cpsI i)) st else .fail
  | _ => PM.fail
def joinP : List Nat → List (PM V) → PM V
  | out, [] => PM.pure (.str out)
  | out, p :: r => PM.bind p fun v => match v with
    | .str y => fun st => if out.length + y.length ≤ 1000000 then joinP (out ++ y) r st else .fail
    | _ => PM.fail
section
variable {cx : Cx}
theorem sim_Fmt {e : Expr} {pos : Pos} {m : PM V} (h : SimV cx (eval e cx.env) m) : SimV cx (eval (.FormattedValue e (-1) none pos) cx.env) (PM.bind m fmtP) := by
  intro ρ hid st s x v st' h0
  obtain ⟨a, st1, e1, h1⟩ := bind_ok h0
  refine FormattedValue_plain (wp_seq (h ρ hid st s x a st1 e1) fun A s1 ρ1 p1 r1 v1 => ?_)
  unfold fmtP at h1
  split at h1
  · split at h1
    · rename_i l hl
      cases h1
      have ho := vr_ok v1
      obtain ⟨t, rfl⟩ := vr_str v1
      exact lf r1.pos (PyProof.Rows.formatField_str (fun t' tk htk => ⟨ρ1, p1, r1.toks tk htk, .str _ t' ho⟩) (by rw [str_len]; exact list_fits hl))
    · cases h1
  · split at h1
    · rename_i i hs
      cases h1
      obtain ⟨t, rfl⟩ := vr_int v1
      exact PyProof.Rows.formatField_int_small (small_log hs) ⟨ρ1, p1, r1.toks _, vr_text _ _⟩
    · cases h1
  · cases h1
abbrev SimPs (cx : Cx) (es : List Expr) (ps : List (PM V)) : Prop := Paired (fun e p => SimV cx (eval e cx.env) p) es ps
theorem sim_parts_nil : SimPs cx [] [] := .nil
theorem sim_parts_cons {e : Expr} {es : List Expr} {p : PM V} {ps : List (PM V)} (h1 : SimV cx (eval e cx.env) p) (h2 : SimPs cx es ps) : SimPs cx (e :: es) (p :: ps) := .cons h1 h2
theorem join_parts : ∀ {es : List Expr} {ps : List (PM V)}, SimPs cx es ps → ∀ (out : List Nat), okS out → out.length ≤ 1000000 → Sim cx (joinParts ⟨out.toArray⟩ (evalEach es cx.env)) (joinP out ps) VR
  | _, _, .nil, out, ho, hl => by
    intro ρ hid st s x v st' h
    cases h
    exact PyProof.Rows.joinParts_nil ⟨ρ, pre_refl ρ, x.toks _, .str _ _ ho⟩ (by rw [str_len]; exact list_fits hl)
  | _, _, .cons h1 h2, out, ho, hl => by
    intro ρ hid st s x v st' h
    unfold joinP at h
    obtain ⟨a, st1, e1, h3⟩ := bind_ok h
    show wpAny _ _ (joinParts ⟨out.toArray⟩ (eval _ cx.env :: evalEach _ cx.env)) _ _ _
    refine PyProof.Rows.joinParts_cons (wp_seq (h1 ρ hid st s x a st1 e1) fun A s1 ρ1 p1 r1 v1 => ?_)
    split at h3
    · rename_i y
      split at h3
      · rename_i hl2
        have hy := vr_ok v1
        obtain ⟨t, rfl⟩ := vr_str v1
        dsimp only
        refine ⟨by rw [str_app, str_len, List.length_append]; exact list_fits hl2, ?_⟩
        rw [str_app]
        refine wp_seq (join_parts h2 (out ++ y) (okS_append ho hy) (by simpa using hl2) ρ1 hid st1 s1 r1 v st' h3) fun W s2 ρ2 p2 r2 v2 => ⟨ρ2, pre_trans p1 p2, r2, v2⟩
      · cases h3
    · cases h3
theorem sim_JoinedStr {e1 e2 : Expr} {es : List Expr} {pos : Pos} {p1 p2 : PM V} {ps : List (PM V)} (h : SimPs cx (e1 :: e2 :: es) (p1 :: p2 :: ps)) : SimV cx (eval (.JoinedStr (e1 :: e2 :: es) pos) cx.env) (joinP [] (p1 :: p2 :: ps)) := by
  intro ρ hid st s x v st' h0
  exact PyProof.Rows.JoinedStr_many (join_parts h [] (fun c hc => by cases hc) (by simp) ρ hid st s x v st' h0)
end
theorem strOf_ok {cx : Cx} (_ok : cx.Ok) {k : Nat} {f : Addr} {mb : PM Fl} (h1 : k + 1 ≤ cx.n) (h2 : findIn cx.K (.ref cx.C) "__str__" = some (some (.ref f))) (h3 : isFn cx.K (.ref f) = true) (h4 : Fn cx k f ["self"] mb) : StrOf cx k f mb := ⟨h1, h2, h3, h4⟩
/-- Entry.__str__ -/
noncomputable def strB_f1 : PM Fl := (PM.bind (PM.bind (getL "ret") fun v => PM.bind (isList v) fun _ => PM.bind (PM.bind (joinP [] [(PM.pure (.str (cps "User-agent: "))), (PM.bind (getL "agent") fmtP)]) fun v => PM.bind (PM.pure []) fun vs => PM.pure (v :: vs)) fun vs => cAppend (v :: vs)) fun v => match v with | .obj _ => PM.fail | .glob _ => PM.fail | _ => PM.pure .next)
noncomputable def strB_s2 : PM Fl := (PM.bind (PM.bind (getL "self") (gAttr "req_rate")) fun v => PM.bind (setL "rate" v) fun _ => PM.pure .next)
noncomputable def strB_s3 : PM Fl := (PM.bind (PM.bind (getL "ret") fun v => PM.bind (isList v) fun _ => PM.bind (PM.bind (joinP [] [(PM.pure (.str (cps "Request-rate: "))), (PM.bind (PM.bind (getL "rate") (gAttr "requests")) fmtP), (PM.pure (.str (cps "/"))), (PM.bind (PM.bind (getL "rate") (gAttr "seconds")) fmtP)]) fun v => PM.bind (PM.pure []) fun vs => PM.pure (v :: vs)) fun vs => cAppend (v :: vs)) fun v => match v with | .obj _ => PM.fail | .glob _ => PM.fail | _ => PM.pure .next)
noncomputable def strB_s4 : PM Fl := (iteP (PM.bind (PM.bind (PM.bind (getL "self") (gAttr "useragents")) pTruthy) fun b => PM.pure (!b)) (PM.bind (PM.pure (.str (cps ""))) fun v => PM.pure (.ret v)) (PM.pure .next))
noncomputable def strB_s5 : PM Fl := (PM.bind (PM.bind (PM.pure []) allocList) fun v => PM.bind (setL "ret" v) fun _ => PM.pure .next)
noncomputable def strB_s6 : PM Fl := (PM.bind (PM.bind (getL "self") (gAttr "useragents")) fun v => PM.bind (iterOf v) fun p => loopF p.1 (fun x => PM.bind ((setL "agent") x) fun _ => strB_f1) p.2)
noncomputable def strB_s7 : PM Fl := (iteP (PM.bind (PM.bind (getL "self") (gAttr "delay")) fun a => PM.bind (PM.pure .none) fun b => PM.bind (pIsNot a b) pTruthy) (PM.bind (PM.bind (getL "ret") fun v => PM.bind (isList v) fun _ => PM.bind (PM.bind (joinP [] [(PM.pure (.str (cps "Crawl-delay: "))), (PM.bind (PM.bind (getL "self") (gAttr "delay")) fmtP)]) fun v => PM.bind (PM.pure []) fun vs => PM.pure (v :: vs)) fun vs => cAppend (v :: vs)) fun v => match v with | .obj _ => PM.fail | .glob _ => PM.fail | _ => PM.pure .next) (PM.pure .next))
noncomputable def strB_s8 : PM Fl := (iteP (PM.bind (PM.bind (getL "self") (gAttr "req_rate")) fun a => PM.bind (PM.pure .none) fun b => PM.bind (pIsNot a b) pTruthy) (seqF strB_s2 strB_s3) (PM.pure .next))
noncomputable def strB_s9 (mb : PM Fl) : PM Fl := (iteP (PM.bind (PM.bind (getL "self") (gAttr "rulelines")) pTruthy) (PM.bind (PM.bind (getL "ret") fun v => PM.bind (isList v) fun _ => PM.bind (PM.bind (getL "self") (gAttr "rulelines")) fun l => extMap (callS mb) v l) fun v => match v with | .obj _ => PM.fail | .glob _ => PM.fail | _ => PM.pure .next) (PM.bind (PM.bind (getL "ret") fun v => PM.bind (isList v) fun _ => PM.bind (PM.bind (PM.pure (.str (cps "Allow:"))) fun v => PM.bind (PM.pure []) fun vs => PM.pure (v :: vs)) fun vs => cAppend (v :: vs)) fun v => match v with | .obj _ => PM.fail | .glob _ => PM.fail | _ => PM.pure .next))
noncomputable def strB_s10 : PM Fl := (PM.bind (PM.bind (PM.pure (.str (cps "\n"))) fun v => PM.bind (isStr v) fun _ => PM.bind (PM.bind (getL "ret") fun v => PM.bind (PM.pure []) fun vs => PM.pure (v :: vs)) fun vs => cJoin (v :: vs)) fun v => PM.pure (.ret v))
noncomputable def strB (mb : PM Fl) : PM Fl := (seqF strB_s4 (seqF strB_s5 (seqF strB_s6 (seqF strB_s7 (seqF strB_s8 (seqF (strB_s9 mb) strB_s10))))))
noncomputable def strE : Nat → PM Fl
  | 0 => PM.fail
  | n + 1 => strB (strE n)
end Mine
namespace Mine
section
variable {cx : Cx}
/-- a call whose value, an object, is dropped -/
theorem sim_ExprO {e : Expr} {pos : Pos} {m : PM V} (h : SimV cx (eval e cx.env) m) (hi : interactive cx.env = false) (hs : swapsWith e none pos.line cx.env = pure false)
    (hd : ∀ v, dropValue e pos v = (match v with | .ref _ => (do standAt pos; let _ ← runValue (.builtin "proto.let_go" {}); pure .next) | _ => pure .next)) :
    SimS cx (.Expr e pos) (PM.bind m fun v => match v with | .obj _ => PM.pure .next | _ => PM.fail) := by
  intro ρ hid st s x v st' e0
  obtain ⟨a, st1, e1, e⟩ := bind_ok e0
  rw [exec_Expr cx.env _ pos hi hs]
  refine wpAny_bind (wpAny_standAt (wpAny_bind (wp_seq (h ρ hid st s x a st1 e1) fun A s1 ρ1 p1 r1 v1 => ?_)))
  rw [hd]
  cases v1 with
  | obj _ =>
    cases e
    exact wpAny_bind (wpAny_standAt (wpAny_bind (wpAny_runValue (codeAny_builtin entry_let_go (show wpAny _ _ (ret .none) _ _ s1 from wpAny_pure (wpAny_pure ⟨ρ1, p1, r1, .next⟩))))))
  | _ => cases e
end
end Mine
namespace Mine
noncomputable def l02s1 : PM Fl := (iteP (andP (PM.bind (PM.bind (getL "top") fun o => PM.bind (PM.pure (.int 1)) fun i => pItem o i) pTruthy) (andP (PM.bind (PM.bind (getL "top") fun o => PM.bind (PM.pure (.int 2)) fun i => pItem o i) fun a => PM.bind (PM.pure (.int 0)) fun b => PM.bind (pEq a b) pTruthy) (PM.pure true))) (PM.bind (PM.bind (getL "lines") fun v => PM.bind (isList v) fun _ => PM.bind (PM.bind (PM.pure (.str (cps "Allow:"))) fun v => PM.bind (PM.pure []) fun vs => PM.pure (v :: vs)) fun vs => cAppend (v :: vs)) fun v => match v with | .obj _ => PM.fail | .glob _ => PM.fail | _ => PM.pure .next) (PM.pure .next))
noncomputable def l02s2 : PM Fl := (PM.bind (PM.bind (getL "opened") fun v => PM.bind (isList v) fun _ => PM.bind (PM.pure []) fun vs => cPop (v :: vs)) fun v => match v with | .obj _ => PM.pure .next | _ => PM.fail)
noncomputable def l02s3 : PM Fl := (iteP (PM.bind (PM.bind (PM.bind (getL "opened") fun v => PM.bind (PM.pure []) fun vs => PM.pure (v :: vs)) cLen) fun a => PM.bind (PM.pure (.int 1)) fun b => PM.bind (pGt a b) pTruthy) (seqF l02s1 l02s2) (PM.pure .next))
noncomputable def l02s4 : PM Fl := (PM.pure .cont)
noncomputable def l02c5 : PM V := compV [] "agent" (PM.bind (getL "one") (gAttr "useragents")) (PM.pure true) (PM.bind (PM.pure (.str (cps "User-agent: "))) fun a => PM.bind (getL "agent") fun b => pAdd a b)
noncomputable def l02s6 : PM Fl := (PM.bind (PM.bind (getL "lines") fun v => PM.bind (isList v) fun _ => PM.bind (PM.bind l02c5 fun v => PM.bind (PM.pure []) fun vs => PM.pure (v :: vs)) fun vs => cExtendE (v :: vs)) fun v => match v with | .obj _ => PM.fail | .glob _ => PM.fail | _ => PM.pure .next)
noncomputable def l02s7 : PM Fl := (iteP (PM.bind (PM.bind (PM.bind (getL "rest") fun a => PM.bind (PM.pure (.int 3)) fun b => pDiv a b) fun a => PM.bind (PM.pure (.int 2)) fun b => pMod a b) fun a => PM.bind (PM.pure (.int 1)) fun b => PM.bind (pEq a b) pTruthy) (PM.bind (PM.bind (getL "lines") fun v => PM.bind (isList v) fun _ => PM.bind (PM.bind (PM.pure (.str (cps "Crawl-delay: 0"))) fun v => PM.bind (PM.pure []) fun vs => PM.pure (v :: vs)) fun vs => cAppend (v :: vs)) fun v => match v with | .obj _ => PM.fail | .glob _ => PM.fail | _ => PM.pure .next) (PM.pure .next))
noncomputable def l02s8 : PM Fl := (PM.bind (PM.bind (PM.pure []) (newInst initE ["self"])) fun v => PM.bind (setL "one" v) fun _ => PM.pure .next)
noncomputable def l02s9 : PM Fl := (PM.bind (PM.bind (PM.bind (PM.bind (PM.pure (.str (cps "fig"))) fun v => PM.bind (PM.bind (PM.pure (.str (cps "*"))) fun v => PM.bind (PM.pure []) fun vs => PM.pure (v :: vs)) fun vs => PM.pure (v :: vs)) allocList) fun o => PM.bind (PM.pure .none) fun l => PM.bind (PM.bind (getL "rest") fun a => PM.bind (PM.pure (.int 3)) fun b => pMod a b) fun u => sliceP o l u) fun v => PM.bind (getL "one") fun a => PM.bind (sAttr "useragents" v a) fun _ => PM.pure .next)
noncomputable def l02s10 : PM Fl := (iteP (PM.bind (PM.bind (PM.bind (getL "rest") fun a => PM.bind (PM.pure (.int 3)) fun b => pDiv a b) fun a => PM.bind (PM.pure (.int 2)) fun b => pMod a b) fun a => PM.bind (PM.pure (.int 1)) fun b => PM.bind (pEq a b) pTruthy) (PM.bind (PM.pure (.int 0)) fun v => PM.bind (getL "one") fun a => PM.bind (sAttr "delay" v a) fun _ => PM.pure .next) (PM.pure .next))
noncomputable def l02s11 : PM Fl := (PM.bind (PM.bind (PM.bind (PM.bind (getL "top") fun o => PM.bind (PM.pure (.int 0)) fun i => pItem o i) (gAttr "rulelines")) fun v => PM.bind (isList v) fun _ => PM.bind (PM.bind (getL "one") fun v => PM.bind (PM.pure []) fun vs => PM.pure (v :: vs)) fun vs => cAppend (v :: vs)) fun v => match v with | .obj _ => PM.fail | .glob _ => PM.fail | _ => PM.pure .next)
noncomputable def l02s12 : PM Fl := (PM.bind (PM.bind (PM.bind (getL "top") fun o => PM.bind (PM.pure (.int 1)) fun i => pItem o i) fun v => PM.bind (pTruthy v) fun b => match b with | true => (PM.bind (PM.bind (getL "one") (gAttr "useragents")) fun a => PM.bind (PM.bind (PM.pure []) allocList) fun b => pNe a b) | false => PM.pure v) fun v => PM.bind (setL "heard" v) fun _ => PM.pure .next)
noncomputable def l02s13 : PM Fl := (iteP (PM.bind (getL "heard") pTruthy) (seqF l02s6 l02s7) (iteP (PM.bind (PM.bind (getL "top") fun o => PM.bind (PM.pure (.int 1)) fun i => pItem o i) pTruthy) (PM.bind (PM.bind (getL "lines") fun v => PM.bind (isList v) fun _ => PM.bind (PM.bind (PM.pure (.str (cps ""))) fun v => PM.bind (PM.pure []) fun vs => PM.pure (v :: vs)) fun vs => cAppend (v :: vs)) fun v => match v with | .obj _ => PM.fail | .glob _ => PM.fail | _ => PM.pure .next) (PM.pure .next)))
noncomputable def l02s14 : PM Fl := (PM.bind (PM.bind (getL "opened") fun v => PM.bind (isList v) fun _ => PM.bind (PM.bind (PM.bind (PM.bind (getL "one") fun v => PM.bind (PM.bind (getL "heard") fun v => PM.bind (PM.bind (PM.pure (.int 0)) fun v => PM.bind (PM.pure []) fun vs => PM.pure (v :: vs)) fun vs => PM.pure (v :: vs)) fun vs => PM.pure (v :: vs)) allocList) fun v => PM.bind (PM.pure []) fun vs => PM.pure (v :: vs)) fun vs => cAppend (v :: vs)) fun v => match v with | .obj _ => PM.fail | .glob _ => PM.fail | _ => PM.pure .next)
noncomputable def l02s15 : PM Fl := (PM.bind (PM.bind (PM.bind (PM.bind (getL "top") fun o => PM.bind (PM.pure (.int 0)) fun i => pItem o i) (gAttr "rulelines")) fun v => PM.bind (isList v) fun _ => PM.bind (PM.bind (PM.bind (getL "rest") fun a => PM.bind (PM.pure (.int 10)) fun b => pMod a b) fun v => PM.bind (PM.pure []) fun vs => PM.pure (v :: vs)) fun vs => cAppend (v :: vs)) fun v => match v with | .obj _ => PM.fail | .glob _ => PM.fail | _ => PM.pure .next)
noncomputable def l02s16 : PM Fl := (iteP (PM.bind (PM.bind (getL "top") fun o => PM.bind (PM.pure (.int 1)) fun i => pItem o i) pTruthy) (PM.bind (PM.bind (getL "lines") fun v => PM.bind (isList v) fun _ => PM.bind (PM.bind (PM.bind (getL "figures") fun o => PM.bind (PM.bind (getL "rest") fun a => PM.bind (PM.pure (.int 10)) fun b => pMod a b) fun i => pItem o i) fun v => PM.bind (PM.pure []) fun vs => PM.pure (v :: vs)) fun vs => cAppend (v :: vs)) fun v => match v with | .obj _ => PM.fail | .glob _ => PM.fail | _ => PM.pure .next) (PM.pure .next))
noncomputable def l02s17 : PM Fl := (PM.bind (PM.bind (PM.bind (PM.bind (getL "top") fun o => PM.bind (PM.pure (.int 0)) fun i => pItem o i) (gAttr "rulelines")) fun v => PM.bind (isList v) fun _ => PM.bind (PM.bind (PM.bind (PM.pure (.str (cps "Disallow: /"))) fun a => PM.bind (PM.bind (getL "figures") fun o => PM.bind (PM.bind (getL "rest") fun a => PM.bind (PM.pure (.int 10)) fun b => pMod a b) fun i => pItem o i) fun b => pAdd a b) fun v => PM.bind (PM.pure []) fun vs => PM.pure (v :: vs)) fun vs => cAppend (v :: vs)) fun v => match v with | .obj _ => PM.fail | .glob _ => PM.fail | _ => PM.pure .next)
noncomputable def l02s18 : PM Fl := (iteP (PM.bind (PM.bind (getL "top") fun o => PM.bind (PM.pure (.int 1)) fun i => pItem o i) pTruthy) (PM.bind (PM.bind (getL "lines") fun v => PM.bind (isList v) fun _ => PM.bind (PM.bind (PM.bind (PM.pure (.str (cps "Disallow: /"))) fun a => PM.bind (PM.bind (getL "figures") fun o => PM.bind (PM.bind (getL "rest") fun a => PM.bind (PM.pure (.int 10)) fun b => pMod a b) fun i => pItem o i) fun b => pAdd a b) fun v => PM.bind (PM.pure []) fun vs => PM.pure (v :: vs)) fun vs => cAppend (v :: vs)) fun v => match v with | .obj _ => PM.fail | .glob _ => PM.fail | _ => PM.pure .next) (PM.pure .next))
noncomputable def l02s19 : PM Fl := (PM.bind (PM.bind (getL "x") fun a => PM.bind (PM.pure (.int 4)) fun b => pMod a b) fun v => PM.bind (setL "step" v) fun _ => PM.pure .next)
noncomputable def l02s20 : PM Fl := (PM.bind (PM.bind (getL "x") fun a => PM.bind (PM.pure (.int 4)) fun b => pDiv a b) fun v => PM.bind (setL "rest" v) fun _ => PM.pure .next)
noncomputable def l02s21 : PM Fl := (PM.bind (PM.bind (getL "opened") fun o => PM.bind (PM.bind (PM.pure (.int 1)) pNeg) fun i => pItem o i) fun v => PM.bind (setL "top" v) fun _ => PM.pure .next)
noncomputable def l02s22 : PM Fl := (iteP (PM.bind (getL "step") fun a => PM.bind (PM.pure (.int 3)) fun b => PM.bind (pEq a b) pTruthy) (seqF l02s3 l02s4) (PM.pure .next))
noncomputable def l02s23 : PM Fl := (PM.bind (getL "top") fun a => PM.bind (PM.pure (.int 2)) fun b => PM.bind (pItem a b) fun old => PM.bind (PM.pure (.int 1)) fun v => PM.bind (pIAdd old v) fun new => PM.bind (setItemP new a b) fun _ => PM.pure .next)
noncomputable def l02s24 : PM Fl := (iteP (andP (PM.bind (getL "step") fun a => PM.bind (PM.pure (.int 0)) fun b => PM.bind (pEq a b) pTruthy) (andP (PM.bind (PM.bind (PM.bind (getL "opened") fun v => PM.bind (PM.pure []) fun vs => PM.pure (v :: vs)) cLen) fun a => PM.bind (PM.pure (.int 6)) fun b => PM.bind (pLt a b) pTruthy) (PM.pure true))) (seqF l02s8 (seqF l02s9 (seqF l02s10 (seqF l02s11 (seqF l02s12 (seqF l02s13 l02s14)))))) (iteP (PM.bind (getL "step") fun a => PM.bind (PM.pure (.int 2)) fun b => PM.bind (pEq a b) pTruthy) (seqF l02s15 l02s16) (seqF l02s17 l02s18)))
noncomputable def l02f25 : PM Fl := (seqF l02s19 (seqF l02s20 (seqF l02s21 (seqF l02s22 (seqF l02s23 l02s24)))))
noncomputable def l02s26 : PM Fl := (PM.bind (PM.bind (getL "opened") fun v => PM.bind (isList v) fun _ => PM.bind (PM.pure []) fun vs => cPop (v :: vs)) fun v => PM.bind (setL "top" v) fun _ => PM.pure .next)
noncomputable def l02s27 : PM Fl := (iteP (andP (PM.bind (PM.bind (getL "top") fun o => PM.bind (PM.pure (.int 1)) fun i => pItem o i) pTruthy) (andP (PM.bind (PM.bind (getL "top") fun o => PM.bind (PM.pure (.int 2)) fun i => pItem o i) fun a => PM.bind (PM.pure (.int 0)) fun b => PM.bind (pEq a b) pTruthy) (PM.pure true))) (PM.bind (PM.bind (getL "lines") fun v => PM.bind (isList v) fun _ => PM.bind (PM.bind (PM.pure (.str (cps "Allow:"))) fun v => PM.bind (PM.pure []) fun vs => PM.pure (v :: vs)) fun vs => cAppend (v :: vs)) fun v => match v with | .obj _ => PM.fail | .glob _ => PM.fail | _ => PM.pure .next) (PM.pure .next))
noncomputable def l02w28 : PM Fl := (seqF l02s26 l02s27)
noncomputable def l02s29 : PM Fl := (PM.bind (PM.pure (.str (cps "0123456789"))) fun v => PM.bind (setL "figures" v) fun _ => PM.pure .next)
noncomputable def l02s30 : PM Fl := (PM.bind (PM.bind (PM.pure []) (newInst initE ["self"])) fun v => PM.bind (setL "root" v) fun _ => PM.pure .next)
noncomputable def l02s31 : PM Fl := (PM.bind (PM.bind (PM.bind (getL "root") (gAttr "useragents")) fun v => PM.bind (isList v) fun _ => PM.bind (PM.bind (PM.pure (.str (cps "root"))) fun v => PM.bind (PM.pure []) fun vs => PM.pure (v :: vs)) fun vs => cAppend (v :: vs)) fun v => match v with | .obj _ => PM.fail | .glob _ => PM.fail | _ => PM.pure .next)
noncomputable def l02s32 : PM Fl := (PM.bind (PM.bind (PM.bind (PM.pure (.str (cps "User-agent: root"))) fun v => PM.bind (PM.pure []) fun vs => PM.pure (v :: vs)) allocList) fun v => PM.bind (setL "lines" v) fun _ => PM.pure .next)
noncomputable def l02s33 : PM Fl := (PM.bind (PM.bind (PM.bind (PM.bind (PM.bind (getL "root") fun v => PM.bind (PM.bind (PM.pure (.bool true)) fun v => PM.bind (PM.bind (PM.pure (.int 0)) fun v => PM.bind (PM.pure []) fun vs => PM.pure (v :: vs)) fun vs => PM.pure (v :: vs)) fun vs => PM.pure (v :: vs)) allocList) fun v => PM.bind (PM.pure []) fun vs => PM.pure (v :: vs)) allocList) fun v => PM.bind (setL "opened" v) fun _ => PM.pure .next)
noncomputable def l02s34 (a : Addr) (xs : List Int) : PM Fl := (PM.bind (PM.bind (PM.bind (getL "script") fun v => PM.bind (PM.pure []) fun vs => PM.pure (v :: vs)) (cListG a xs)) fun v => PM.bind (iterOf v) fun p => loopF p.1 (fun x => PM.bind ((setL "x") x) fun _ => l02f25) p.2)
noncomputable def l02s35 : PM Fl := (whileF (PM.bind (getL "opened") fun a => PM.bind (PM.bind (PM.pure []) allocList) fun b => PM.bind (pNeX a b) pTruthy) l02w28 1000)
noncomputable def l02s36 : PM Fl := (PM.bind (PM.bind (PM.bind (PM.bind (getL "root") fun v => PM.bind (PM.pure []) fun vs => PM.pure (v :: vs)) (cStr (callS (strE 6)))) fun a => PM.bind (PM.bind (PM.pure (.str (cps "\n"))) fun v => PM.bind (isStr v) fun _ => PM.bind (PM.bind (getL "lines") fun v => PM.bind (PM.pure []) fun vs => PM.pure (v :: vs)) fun vs => cJoin (v :: vs)) fun b => pEq a b) fun v => PM.pure (.ret v))
noncomputable def law02 (a : Addr) (xs : List Int) : PM Fl := (seqF l02s29 (seqF l02s30 (seqF l02s31 (seqF l02s32 (seqF l02s33 (seqF (l02s34 a xs) (seqF l02s35 l02s36)))))))
end Mine
set_option linter.unusedSimpArgs false
set_option linter.unusedVariables false
namespace Mine
section
variable {loc : String → Option V} {sto : List O}
end
end Mine
set_option linter.unusedSimpArgs false
set_option linter.unusedVariables false
namespace Mine
theorem wN_sAttr {loc : String → Option V} {ss r : List O} {as : List (String × V)} {n : String} {v : V} {Q : Unit → St → Prop} : wp (sAttr n v (.obj ss.length)) ⟨loc, ss ++ O.inst as :: r⟩ Q = (as.length ≤ 90 ∧ Q () ⟨loc, ss ++ O.inst (putA n v as) :: r⟩) := by
  have g0 : (ss ++ O.inst as :: r)[ss.length]? = some (.inst as) := get_app_len _ _ _
  by_cases h : as.length ≤ 90
  · rw [wL_sAttr g0 h, set_app_len]; simp [h]
  · simp [wp, sAttr, g0, h]
section
variable {loc : String → Option V} {sto : List O}
theorem wpE_neX {a b : V} {Q : V → St → Prop} : wp (pNeX a b) ⟨loc, sto⟩ Q = (match eqX ⟨loc, sto⟩ a b with | some c => Q (.bool (!c)) ⟨loc, sto⟩ | none => False) := by
  unfold wp pNeX
  cases eqX ⟨loc, sto⟩ a b <;> rfl
end
end Mine
set_option linter.unusedSimpArgs false
set_option linter.unusedVariables false
namespace Mine
theorem wp_join0 {out : List Nat} {st : St} {Q : V → St → Prop} : wp (joinP out []) st Q = Q (.str out) st := rfl
theorem wp_join1 {out : List Nat} {p : PM V} {r : List (PM V)} {st : St} {Q : V → St → Prop} : wp (joinP out (p :: r)) st Q = wp p st (fun v st' => match v with | .str y => out.length + y.length ≤ 1000000 ∧ wp (joinP (out ++ y) r) st' Q | _ => False) := by
  conv => lhs; unfold joinP
  rw [wp_bind]
  congr 1
  funext v st'
  cases v with
  | str y =>
    dsimp only
    exact wp_if
  | _ => rfl
theorem wp_fmtS {l : List Nat} {st : St} {Q : V → St → Prop} : wp (fmtP (.str l)) st Q = (l.length ≤ 1000000 ∧ Q (.str l) st) := wp_if
theorem wp_fmtI {i : Int} {st : St} {Q : V → St → Prop} : wp (fmtP (.int i)) st Q = (small i = true ∧ Q (.str (cpsI i)) st) := wp_if
theorem wp_strPS {rec : Nat → PM V} {l : List Nat} {st : St} {Q : V → St → Prop} : wp (strP rec (.str l)) st Q = (l.length ≤ 1000000 ∧ Q (.str l) st) := wp_if
theorem wp_strPI {rec : Nat → PM V} {i : Int} {st : St} {Q : V → St → Prop} : wp (strP rec (.int i)) st Q = (small i = true ∧ Q (.str (cpsI i)) st) := wp_if
theorem wp_strPO {rec : Nat → PM V} {j : Nat} {as : List (String × V)} {loc : String → Option V} {sto : List O} {Q : V → St → Prop} (h : sto[j]? = some (.inst as)) : wp (strP rec (.obj j)) ⟨loc, sto⟩ Q = wp (rec j) ⟨loc, sto⟩ (fun v st' => match v with | .str l => Q (.str l) st' | _ => False) := by
  have e : strP rec (.obj j) ⟨loc, sto⟩ = PM.bind (rec j) (fun v => match v with | .str l => PM.pure (.str l) | _ => PM.fail) ⟨loc, sto⟩ := by
    unfold strP
    simp only [h]
    all_goals rfl
  have e2 : wp (strP rec (.obj j)) ⟨loc, sto⟩ Q = wp (PM.bind (rec j) (fun v => match v with | .str l => PM.pure (.str l) | _ => PM.fail)) ⟨loc, sto⟩ Q := by
    unfold wp; rw [e]
  rw [e2, wp_bind]
  congr 1
  funext v st'
  cases v <;> rfl
theorem wp_cStr {rec : Nat → PM V} {v : V} {st : St} {Q : V → St → Prop} : wp (cStr rec [v]) st Q = wp (strP rec v) st Q := rfl
theorem wL_join {loc : String → Option V} {sto : List O} {sep : List Nat} {j : Nat} {ls : List (List Nat)} {Q : V → St → Prop} (h : sto[j]? = some (.list (ls.map V.str))) (hl : (ls.map (·.length)).sum + ls.length ≤ 1000000) (hs : sep.length ≤ 16) : wp (cJoin [.str sep, .obj j]) ⟨loc, sto⟩ Q = Q (.str (joinL sep ls)) ⟨loc, sto⟩ := by
  unfold wp cJoin
  simp only [h, strsOf_map]
  rw [if_pos ⟨hl, hs⟩]
theorem wE_entry {loc : String → Option V} {sto : List O} {Q : V → St → Prop} : wp (newInst initE ["self"] []) ⟨loc, sto⟩ Q = Q (.obj sto.length) ⟨loc, sto ++ [.inst [("useragents", .obj (sto.length + 1)), ("rulelines", .obj (sto.length + 2)), ("delay", .none), ("req_rate", .none)], .list [], .list []]⟩ := by
  have key : wp (newInst initE ["self"] []) ⟨loc, sto⟩ (fun v st => v = .obj sto.length ∧ st = ⟨loc, sto ++ [.inst [("useragents", .obj (sto.length + 1)), ("rulelines", .obj (sto.length + 2)), ("delay", .none), ("req_rate", .none)], .list [], .list []]⟩) := wL_entry ⟨rfl, rfl⟩
  obtain ⟨v, st, e, rfl, rfl⟩ := wp_run key
  unfold wp
  rw [e]
theorem run_wp {m : PM Fl} {st : St} {f : Fl} (w : wp m st (fun g _ => g = f)) : ∃ st', m st = .ok f st' := by
  obtain ⟨g, st', e, rfl⟩ := wp_run w
  exact ⟨st', e⟩
/-- a wp behind a wall: the elaborator does not run it -/
structure WPs (m : PM Fl) (st : St) (Q : Fl → St → Prop) : Prop where
  h : wp m st Q
theorem run_wps {m : PM Fl} {st : St} {f : Fl} (w : WPs m st (fun g _ => g = f)) : ∃ st', m st = .ok f st' := run_wp w.h
/-- a value's text, asked in any later store -/
def TX (k : Nat) (ss : List O) (v : V) (w : List Nat) : Prop := ∀ (loc : String → Option V) (ss' : List O) (Q : V → St → Prop), ss <+: ss' → (∀ ss'', ss' <+: ss'' → Q (.str w) ⟨loc, ss''⟩) → wp (strP (callS (strE k)) v) ⟨loc, ss'⟩ Q
theorem tx_str {k : Nat} {ss : List O} {l : List Nat} (h : l.length ≤ 1000000) : TX k ss (.str l) l := fun loc ss' Q hp hQ => by
  rw [wp_strPS]; exact ⟨h, hQ ss' (List.prefix_refl _)⟩
theorem tx_int {k : Nat} {ss : List O} {i : Int} (h : small i = true) : TX k ss (.int i) (cpsI i) := fun loc ss' Q hp hQ => by
  rw [wp_strPI]; exact ⟨h, hQ ss' (List.prefix_refl _)⟩
def rateV (ss : List O) : Option (Int × Int) → V → Prop
  | none, v => v = .none
  | some r, v => ∃ q bs, v = .obj q ∧ ss[q]? = some (.inst bs) ∧ bs.lookup "requests" = some (.int r.1) ∧ bs.lookup "seconds" = some (.int r.2) ∧ small r.1 = true ∧ small r.2 = true
def delV : Option Int → V
  | none => .none
  | some d => .int d
structure Ent (ss : List O) (i U R : Nat) (ags : List (List Nat)) (dv : Option Int) (rv : Option (Int × Int)) (rs : List V) : Prop where
  at' : ∃ as v, ss[i]? = some (.inst as) ∧ as.lookup "useragents" = some (.obj U) ∧ as.lookup "rulelines" = some (.obj R) ∧ as.lookup "delay" = some (delV dv) ∧ as.lookup "req_rate" = some v ∧ rateV ss rv v
  oU : ss[U]? = some (.list (ags.map V.str))
  oR : ss[R]? = some (.list rs)
  sd : ∀ d, dv = some d → small d = true
theorem Ent.pre {ss ss' : List O} {i U R : Nat} {ags : List (List Nat)} {dv : Option Int} {rv : Option (Int × Int)} {rs : List V} (h : Ent ss i U R ags dv rv rs) (p : ss <+: ss') : Ent ss' i U R ags dv rv rs := by
  obtain ⟨⟨as, v, a1, a2, a3, a4, a5, a6⟩, oU, oR, sd⟩ := h
  refine ⟨⟨as, v, get_pre p a1, a2, a3, a4, a5, ?_⟩, get_pre p oU, get_pre p oR, sd⟩
  cases rv with
  | none => exact a6
  | some r => obtain ⟨q, bs, b1, b2, b3, b4, b5⟩ := a6; exact ⟨q, bs, b1, get_pre p b2, b3, b4, b5⟩
def cUA : List Nat := cps "User-agent: "
def cCD : List Nat := cps "Crawl-delay: "
def cRR : List Nat := cps "Request-rate: "
def cAll : List Nat := cps "Allow:"
def lnA (ags : List (List Nat)) : List (List Nat) := ags.map fun g => cUA ++ g
def lnD : Option Int → List (List Nat)
  | none => []
  | some d => [cCD ++ cpsI d]
def lnR : Option (Int × Int) → List (List Nat)
  | none => []
  | some r => [cRR ++ cpsI r.1 ++ [47] ++ cpsI r.2]
def lnW (ws : List (List Nat)) : List (List Nat) := if ws = [] then [cAll] else ws
def linesE (ags : List (List Nat)) (dv : Option Int) (rv : Option (Int × Int)) (ws : List (List Nat)) : List (List Nat) := lnA ags ++ lnD dv ++ lnR rv ++ lnW ws
def textE (ags : List (List Nat)) (dv : Option Int) (rv : Option (Int × Int)) (ws : List (List Nat)) : List Nat := if ags = [] then [] else joinL [10] (linesE ags dv rv ws)
theorem cps_nl : cps "\n" = [10] := by kernel_rfl
theorem cps_sl : cps "/" = [47] := by kernel_rfl
theorem len_UA : cUA.length = 12 := by kernel_rfl
theorem sum_app (a b : List (List Nat)) : ((a ++ b).map (·.length)).sum = (a.map (·.length)).sum + (b.map (·.length)).sum := by
  rw [List.map_append, List.sum_append]
theorem mem_sum {a : List (List Nat)} {l : List Nat} (h : l ∈ a) : l.length ≤ (a.map (·.length)).sum := by
  induction a with
  | nil => cases h
  | cons x r ih =>
    rw [List.map_cons, List.sum_cons]
    rcases List.mem_cons.mp h with rfl | h
    · omega
    · have := ih h; omega
theorem wp_mapLoop {k : Nat} {loc : String → Option V} {ss ss' : List O} {R : Nat} {all : List V} (hp : ss <+: ss') (hR : ss'[R]? = some (.list all)) {Q : V → St → Prop} : ∀ {rs : List V} {ws : List (List Nat)}, Paired (TX k ss) rs ws → ∀ (ls : List (List Nat)) (more : List O), ls.length + rs.length ≤ 1000000 →
    (∀ more', Q .none ⟨loc, ss' ++ O.list ((ls ++ ws).map V.str) :: more'⟩) → wp (mapLoop (callS (strE k)) ss'.length (some (R, .list all)) rs) ⟨loc, ss' ++ O.list (ls.map V.str) :: more⟩ Q
  | _, _, .nil, ls, more, hl, hQ => by
    unfold mapLoop
    rw [wp_bind]
    refine wp_of (chk_some (get_pre (List.prefix_append _ _) hR)) ?_
    rw [wp_pure]
    have := hQ more
    rwa [List.append_nil] at this
  | _, _, .cons (a := x) (b := w) h1 h2, ls, more, hl, hQ => by
    unfold mapLoop
    rw [wp_bind]
    refine wp_of (chk_some (get_pre (List.prefix_append _ _) hR)) ?_
    rw [wp_bind]
    refine h1 loc _ _ (hp.trans (List.prefix_append _ _)) fun ss2 p2 => ?_
    obtain ⟨t, rfl⟩ := p2
    rw [List.append_assoc, List.cons_append]
    rw [List.length_cons] at hl
    rw [wp_bind, wL_append (get_app_len _ _ _) (by simp; omega), set_app_len]
    have e : O.list (ls.map V.str ++ [V.str w]) = O.list ((ls ++ [w]).map V.str) := by simp
    rw [e]
    refine wp_mapLoop hp hR h2 (ls ++ [w]) (more ++ t) (by simp; omega) fun more' => ?_
    have := hQ more'
    simpa [List.append_assoc] using this
theorem tx_ent {k : Nat} {ss : List O} {i U R : Nat} {ags : List (List Nat)} {dv : Option Int} {rv : Option (Int × Int)} {rs : List V} {ws : List (List Nat)} (h : Ent ss i U R ags dv rv rs) (hw : Paired (TX k ss) rs ws)
    (hb : ((linesE ags dv rv ws).map (·.length)).sum + (linesE ags dv rv ws).length ≤ 1000000) : TX (k + 1) ss (.obj i) (textE ags dv rv ws) := by
  intro loc ss' Q hp hQ
  have h' := h.pre hp
  obtain ⟨⟨as, v, a1, a2, a3, a4, a5, a6⟩, oU, oR, sd⟩ := h'
  have hwl := hw.length
  have hb' := hb
  unfold linesE at hb'
  rw [sum_app, sum_app, sum_app] at hb'
  simp only [List.length_append] at hb'
  have hal : (lnA ags).length = ags.length := by simp [lnA]
  have hrl : rs.length ≤ 1000000 := by
    unfold lnW at hb'
    split at hb'
    · rename_i q; rw [hwl, q]; simp
    · rw [hwl]; omega
  rw [wp_strPO a1]
  show wp (callP ["self"] (strB (strE k)) [.obj i]) ⟨loc, ss'⟩ _
  rw [wp_call rfl, loc1]
  unfold strB strB_s4
  simp only [wp_bind, wp_pure, wp_seq', wp_ite, wp_and, wp_or, wp_setL, wp_allocList, wp_allocTuple, wp_alloc, wpE_get, wpE_mod, wpE_div, wpE_pow, wpE_iaddS, wpE_iaddI, wpE_addS, wp_add, wp_sub, wp_neg, wpE_lt, wpE_le, wpE_gt, wpE_ge, wpE_eq, wpE_ne, wpE_is, wpE_isnot, isP_bool, isP_obj, eqP_int, eqP_str, wpE_in, wpE_notin, wp_truthyB, wpE_truthyI, wpE_truthyN, wpE_truthyS, wp_isStr, wpE_lenS, wpE_lenG, wpE_range1, wpE_range2, wpE_iterS, wpE_iterG, wpE_max2, wpE_min2, if_true, if_false, String.reduceEq, reduceIte, true_and, and_true, List.length_nil, List.length_cons, List.nil_append, List.cons_append, Bool.false_eq_true, decide_eq_true_eq, Nat.zero_le, Int.reduceLT, Int.reduceLE, Int.reduceNeg, Nat.reduceLeDiff, Nat.reduceAdd, wL_gAttr (n := "useragents") (v := .obj U) a1 a2 (by intro u e; cases e), wL_truthy oU, cps_e]
  refine ⟨by simp; omega, ?_⟩
  by_cases hag : ags = []
  · subst hag
    simp only [List.map_nil, List.isEmpty_nil, Bool.not_true, Bool.not_false, if_true]
    have := hQ ss' (List.prefix_refl _)
    unfold textE at this
    rwa [if_pos rfl] at this
  have hne : (ags.map V.str).isEmpty = false := by cases ags with | nil => exact absurd rfl hag | cons _ _ => rfl
  simp only [hne, Bool.not_false, Bool.not_true, Bool.false_eq_true, if_false]
  unfold strB_s5 strB_s6
  have g1 := get_pre (List.prefix_append ss' [O.list []]) a1
  have gU := get_pre (List.prefix_append ss' [O.list []]) oU
  simp only [wp_bind, wp_pure, wp_seq', wp_ite, wp_and, wp_or, wp_setL, wp_allocList, wp_allocTuple, wp_alloc, wpE_get, wpE_mod, wpE_div, wpE_pow, wpE_iaddS, wpE_iaddI, wpE_addS, wp_add, wp_sub, wp_neg, wpE_lt, wpE_le, wpE_gt, wpE_ge, wpE_eq, wpE_ne, wpE_is, wpE_isnot, isP_bool, isP_obj, eqP_int, eqP_str, wpE_in, wpE_notin, wp_truthyB, wpE_truthyI, wpE_truthyN, wpE_truthyS, wp_isStr, wpE_lenS, wpE_lenG, wpE_range1, wpE_range2, wpE_iterS, wpE_iterG, wpE_max2, wpE_min2, if_true, if_false, String.reduceEq, reduceIte, true_and, and_true, List.length_nil, List.length_cons, List.nil_append, List.cons_append, Bool.false_eq_true, decide_eq_true_eq, Nat.zero_le, Int.reduceLT, Int.reduceLE, Int.reduceNeg, Nat.reduceLeDiff, Nat.reduceAdd, wL_gAttr (n := "useragents") (v := .obj U) g1 a2 (by intro u e; cases e), wL_iter gU]
  have pX : ∀ r : List O, ss' <+: ss' ++ r := fun r => List.prefix_append _ _
  refine wp_for (f := V.str) ags (fun d sl2 ss2 => sl2 "self" = some (.obj i) ∧ sl2 "ret" = some (.obj ss'.length) ∧ ss2 = ss' ++ [O.list ((lnA d).map V.str)]) (fun d sl2 ss2 hI p hp => by cases hp; rw [hI.2.2]; exact get_pre (pX _) oU) (fun d g r sl2 ss2 hd hI => ?_) (fun sl2 ss2 hI => ?_) ⟨by simp, by simp, rfl⟩
  · obtain ⟨i1, i2, rfl⟩ := hI
    have hg : g ∈ ags := by rw [hd]; simp
    have hgl : cUA.length + g.length ≤ 900000 + 1000000 ∧ g.length ≤ 1000000 - 12 := by
      have : (cUA ++ g).length ≤ ((lnA ags).map (·.length)).sum := mem_sum (by unfold lnA; exact List.mem_map_of_mem hg)
      rw [List.length_append, len_UA] at this
      rw [len_UA]
      omega
    have hdl : d.length ≤ 1000000 := by
      have := congrArg List.length hd
      simp at this
      omega
    rw [wp_bind, wp_setL]
    unfold strB_f1
    have hl1 : (List.length ([] : List Nat)) + cUA.length ≤ 1000000 := by rw [len_UA]; decide
    simp only [wp_bind, wp_pure, wp_seq', wp_ite, wp_and, wp_or, wp_setL, wp_allocList, wp_allocTuple, wp_alloc, wpE_get, wpE_mod, wpE_div, wpE_pow, wpE_iaddS, wpE_iaddI, wpE_addS, wp_add, wp_sub, wp_neg, wpE_lt, wpE_le, wpE_gt, wpE_ge, wpE_eq, wpE_ne, wpE_is, wpE_isnot, isP_bool, isP_obj, eqP_int, eqP_str, wpE_in, wpE_notin, wp_truthyB, wpE_truthyI, wpE_truthyN, wpE_truthyS, wp_isStr, wpE_lenS, wpE_lenG, wpE_range1, wpE_range2, wpE_iterS, wpE_iterG, wpE_max2, wpE_min2, if_true, if_false, String.reduceEq, reduceIte, true_and, and_true, List.length_nil, List.length_cons, List.nil_append, List.cons_append, Bool.false_eq_true, decide_eq_true_eq, Nat.zero_le, Int.reduceLT, Int.reduceLE, Int.reduceNeg, Nat.reduceLeDiff, Nat.reduceAdd, i2, wL_isList (get_app_len ss' (O.list ((lnA d).map V.str)) []), wp_join1, wp_join0, wp_fmtS]
    refine ⟨hl1, by omega, by show ([] ++ cUA).length + g.length ≤ _; rw [List.nil_append, len_UA]; omega, ?_⟩
    rw [wL_append (get_app_len _ _ _) (by simp [lnA]; omega), set_app_len]
    refine ⟨by simpa using i1, by simpa using i2, ?_⟩
    show ss' ++ [O.list ((lnA d).map V.str ++ [V.str (cUA ++ g)])] = _
    simp [lnA]
  · obtain ⟨i1, i2, rfl⟩ := hI
    generalize hL1 : lnA ags = L1 at hb' hal
    have q1 := get_pre (pX [O.list (L1.map V.str)]) a1
    have hsm : ((L1.map (·.length)).sum + ((lnD dv).map (·.length)).sum + ((lnR rv).map (·.length)).sum + ((lnW ws).map (·.length)).sum) + (L1.length + (lnD dv).length + (lnR rv).length + (lnW ws).length) ≤ 1000000 := hb'
    -- the delay
    have st7 : ∀ (Q2 : Fl → St → Prop), (∀ sl3, sl3 "self" = some (.obj i) → sl3 "ret" = some (.obj ss'.length) → Q2 .next ⟨sl3, ss' ++ [O.list ((L1 ++ lnD dv).map V.str)]⟩) → wp strB_s7 ⟨sl2, ss' ++ [O.list (L1.map V.str)]⟩ Q2 := by
      intro Q2 hQ2
      unfold strB_s7
      cases hdv : dv with
      | none =>
        rw [hdv] at a4
        simp only [wp_bind, wp_pure, wp_seq', wp_ite, wp_and, wp_or, wp_setL, wp_allocList, wp_allocTuple, wp_alloc, wpE_get, wpE_mod, wpE_div, wpE_pow, wpE_iaddS, wpE_iaddI, wpE_addS, wp_add, wp_sub, wp_neg, wpE_lt, wpE_le, wpE_gt, wpE_ge, wpE_eq, wpE_ne, wpE_is, wpE_isnot, isP_bool, isP_obj, eqP_int, eqP_str, wpE_in, wpE_notin, wp_truthyB, wpE_truthyI, wpE_truthyN, wpE_truthyS, wp_isStr, wpE_lenS, wpE_lenG, wpE_range1, wpE_range2, wpE_iterS, wpE_iterG, wpE_max2, wpE_min2, if_true, if_false, String.reduceEq, reduceIte, true_and, and_true, List.length_nil, List.length_cons, List.nil_append, List.cons_append, Bool.false_eq_true, decide_eq_true_eq, Nat.zero_le, Int.reduceLT, Int.reduceLE, Int.reduceNeg, Nat.reduceLeDiff, Nat.reduceAdd, i1, wL_gAttr (n := "delay") (v := .none) q1 a4 (by intro u e; cases e), isP, Bool.not_true]
        have := hQ2 sl2 i1 i2
        rw [hdv] at this
        simpa [lnD] using this
      | some dd =>
        rw [hdv] at a4 hsm
        have hd1 : (cCD ++ cpsI dd).length ≤ 1000000 := by
          have : ((lnD (some dd)).map (·.length)).sum = (cCD ++ cpsI dd).length := by simp [lnD]
          omega
        rw [List.length_append] at hd1
        simp only [wp_bind, wp_pure, wp_seq', wp_ite, wp_and, wp_or, wp_setL, wp_allocList, wp_allocTuple, wp_alloc, wpE_get, wpE_mod, wpE_div, wpE_pow, wpE_iaddS, wpE_iaddI, wpE_addS, wp_add, wp_sub, wp_neg, wpE_lt, wpE_le, wpE_gt, wpE_ge, wpE_eq, wpE_ne, wpE_is, wpE_isnot, isP_bool, isP_obj, eqP_int, eqP_str, wpE_in, wpE_notin, wp_truthyB, wpE_truthyI, wpE_truthyN, wpE_truthyS, wp_isStr, wpE_lenS, wpE_lenG, wpE_range1, wpE_range2, wpE_iterS, wpE_iterG, wpE_max2, wpE_min2, if_true, if_false, String.reduceEq, reduceIte, true_and, and_true, List.length_nil, List.length_cons, List.nil_append, List.cons_append, Bool.false_eq_true, decide_eq_true_eq, Nat.zero_le, Int.reduceLT, Int.reduceLE, Int.reduceNeg, Nat.reduceLeDiff, Nat.reduceAdd, i1, i2, wL_gAttr (n := "delay") (v := .int dd) q1 a4 (by intro u e; cases e), isP, Bool.not_false, wL_isList (get_app_len ss' (O.list (L1.map V.str)) []), wp_join1, wp_join0, wp_fmtI]
        refine ⟨by show 0 + cCD.length ≤ _; omega, sd dd hdv, by show ([] ++ cCD).length + _ ≤ _; rw [List.nil_append]; omega, ?_⟩
        rw [wL_append (get_app_len _ _ _) (by simp; omega), set_app_len]
        have := hQ2 sl2 i1 i2
        rw [hdv] at this
        simpa [lnD, cCD, wp_pure] using this
    dsimp only
    refine st7 _ fun sl3 j1 j2 => ?_
    dsimp only
    generalize hL2 : L1 ++ lnD dv = L2
    have q2 := get_pre (pX [O.list (L2.map V.str)]) a1
    have hL2l : L2.length = L1.length + (lnD dv).length := by rw [← hL2, List.length_append]
    have st8 : ∀ (Q2 : Fl → St → Prop), (∀ sl4, sl4 "self" = some (.obj i) → sl4 "ret" = some (.obj ss'.length) → Q2 .next ⟨sl4, ss' ++ [O.list ((L2 ++ lnR rv).map V.str)]⟩) → wp strB_s8 ⟨sl3, ss' ++ [O.list (L2.map V.str)]⟩ Q2 := by
      intro Q2 hQ2
      unfold strB_s8
      cases hrv : rv with
      | none =>
        rw [hrv] at a6
        have a6 : v = .none := a6
        subst a6
        simp only [wp_bind, wp_pure, wp_seq', wp_ite, wp_and, wp_or, wp_setL, wp_allocList, wp_allocTuple, wp_alloc, wpE_get, wpE_mod, wpE_div, wpE_pow, wpE_iaddS, wpE_iaddI, wpE_addS, wp_add, wp_sub, wp_neg, wpE_lt, wpE_le, wpE_gt, wpE_ge, wpE_eq, wpE_ne, wpE_is, wpE_isnot, isP_bool, isP_obj, eqP_int, eqP_str, wpE_in, wpE_notin, wp_truthyB, wpE_truthyI, wpE_truthyN, wpE_truthyS, wp_isStr, wpE_lenS, wpE_lenG, wpE_range1, wpE_range2, wpE_iterS, wpE_iterG, wpE_max2, wpE_min2, if_true, if_false, String.reduceEq, reduceIte, true_and, and_true, List.length_nil, List.length_cons, List.nil_append, List.cons_append, Bool.false_eq_true, decide_eq_true_eq, Nat.zero_le, Int.reduceLT, Int.reduceLE, Int.reduceNeg, Nat.reduceLeDiff, Nat.reduceAdd, j1, wL_gAttr (n := "req_rate") (v := .none) q2 a5 (by intro u e; cases e), isP, Bool.not_true]
        have := hQ2 sl3 j1 j2
        rw [hrv] at this
        simpa [lnR] using this
      | some rr =>
        rw [hrv] at a6 hsm
        obtain ⟨q, bs, rfl, b2, b3, b4, b5, b6⟩ := a6
        have b2' := get_pre (pX [O.list (L2.map V.str)]) b2
        have hd1 : (cRR ++ cpsI rr.1 ++ [47] ++ cpsI rr.2).length ≤ 1000000 := by
          have : ((lnR (some rr)).map (·.length)).sum = (cRR ++ cpsI rr.1 ++ [47] ++ cpsI rr.2).length := by simp [lnR]
          omega
        simp only [List.length_append, List.length_singleton] at hd1
        unfold strB_s2 strB_s3
        simp only [wp_bind, wp_pure, wp_seq', wp_ite, wp_and, wp_or, wp_setL, wp_allocList, wp_allocTuple, wp_alloc, wpE_get, wpE_mod, wpE_div, wpE_pow, wpE_iaddS, wpE_iaddI, wpE_addS, wp_add, wp_sub, wp_neg, wpE_lt, wpE_le, wpE_gt, wpE_ge, wpE_eq, wpE_ne, wpE_is, wpE_isnot, isP_bool, isP_obj, eqP_int, eqP_str, wpE_in, wpE_notin, wp_truthyB, wpE_truthyI, wpE_truthyN, wpE_truthyS, wp_isStr, wpE_lenS, wpE_lenG, wpE_range1, wpE_range2, wpE_iterS, wpE_iterG, wpE_max2, wpE_min2, if_true, if_false, String.reduceEq, reduceIte, true_and, and_true, List.length_nil, List.length_cons, List.nil_append, List.cons_append, Bool.false_eq_true, decide_eq_true_eq, Nat.zero_le, Int.reduceLT, Int.reduceLE, Int.reduceNeg, Nat.reduceLeDiff, Nat.reduceAdd, j1, j2, wL_gAttr (n := "req_rate") (v := .obj q) q2 a5 (by intro u e; cases e), isP, Bool.not_false, wL_isList (get_app_len ss' (O.list (L2.map V.str)) []), wp_join1, wp_join0, wp_fmtI,
          wL_gAttr (n := "requests") (v := .int rr.1) b2' b3 (by intro u e; cases e), wL_gAttr (n := "seconds") (v := .int rr.2) b2' b4 (by intro u e; cases e), cps_sl]
        refine ⟨by show 0 + cRR.length ≤ _; omega, b5, by show ([] ++ cRR).length + _ ≤ _; rw [List.nil_append]; omega, by show (cRR ++ cpsI rr.1).length ≤ _; simp; omega, b6, by show ([] ++ cRR ++ cpsI rr.1 ++ [47]).length + _ ≤ _; simp; omega, ?_⟩
        rw [wL_append (get_app_len _ _ _) (by simp; omega), set_app_len]
        have := hQ2 (fun k => if k = "rate" then some (V.obj q) else sl3 k) (by simpa using j1) (by simpa using j2)
        rw [hrv] at this
        simpa [lnR, cRR, wp_pure] using this
    refine st8 _ fun sl4 k1 k2 => ?_
    dsimp only
    generalize hL3 : L2 ++ lnR rv = L3
    have hL3l : L3.length = L2.length + (lnR rv).length := by rw [← hL3, List.length_append]
    have q3 := get_pre (pX [O.list (L3.map V.str)]) a1
    have r3 := get_pre (pX [O.list (L3.map V.str)]) oR
    have fin : ∀ (sl5 : String → Option V) (more : List O), sl5 "ret" = some (.obj ss'.length) → wp strB_s10 ⟨sl5, ss' ++ O.list ((L3 ++ lnW ws).map V.str) :: more⟩ (fun fl st' => ∃ l, fl = .ret (.str l) ∧ Q (.str l) ⟨loc, st'.sto⟩) := by
      intro sl5 more hr
      have hlin : L3 ++ lnW ws = linesE ags dv rv ws := by rw [← hL3, ← hL2, ← hL1]; rfl
      unfold strB_s10
      simp only [wp_bind, wp_pure, wp_seq', wp_ite, wp_and, wp_or, wp_setL, wp_allocList, wp_allocTuple, wp_alloc, wpE_get, wpE_mod, wpE_div, wpE_pow, wpE_iaddS, wpE_iaddI, wpE_addS, wp_add, wp_sub, wp_neg, wpE_lt, wpE_le, wpE_gt, wpE_ge, wpE_eq, wpE_ne, wpE_is, wpE_isnot, isP_bool, isP_obj, eqP_int, eqP_str, wpE_in, wpE_notin, wp_truthyB, wpE_truthyI, wpE_truthyN, wpE_truthyS, wp_isStr, wpE_lenS, wpE_lenG, wpE_range1, wpE_range2, wpE_iterS, wpE_iterG, wpE_max2, wpE_min2, if_true, if_false, String.reduceEq, reduceIte, true_and, and_true, List.length_nil, List.length_cons, List.nil_append, List.cons_append, Bool.false_eq_true, decide_eq_true_eq, Nat.zero_le, Int.reduceLT, Int.reduceLE, Int.reduceNeg, Nat.reduceLeDiff, Nat.reduceAdd, hr, cps_nl]
      rw [wL_join (get_app_len _ _ _) (by rw [hlin]; exact hb) (by decide)]
      have := hQ (ss' ++ O.list ((L3 ++ lnW ws).map V.str) :: more) (pX _)
      unfold textE at this
      rw [if_neg hag, ← hlin] at this
      exact ⟨_, rfl, this⟩
    unfold strB_s9
    simp only [wp_bind, wp_pure, wp_seq', wp_ite, wp_and, wp_or, wp_setL, wp_allocList, wp_allocTuple, wp_alloc, wpE_get, wpE_mod, wpE_div, wpE_pow, wpE_iaddS, wpE_iaddI, wpE_addS, wp_add, wp_sub, wp_neg, wpE_lt, wpE_le, wpE_gt, wpE_ge, wpE_eq, wpE_ne, wpE_is, wpE_isnot, isP_bool, isP_obj, eqP_int, eqP_str, wpE_in, wpE_notin, wp_truthyB, wpE_truthyI, wpE_truthyN, wpE_truthyS, wp_isStr, wpE_lenS, wpE_lenG, wpE_range1, wpE_range2, wpE_iterS, wpE_iterG, wpE_max2, wpE_min2, if_true, if_false, String.reduceEq, reduceIte, true_and, and_true, List.length_nil, List.length_cons, List.nil_append, List.cons_append, Bool.false_eq_true, decide_eq_true_eq, Nat.zero_le, Int.reduceLT, Int.reduceLE, Int.reduceNeg, Nat.reduceLeDiff, Nat.reduceAdd, k1, k2, wL_gAttr (n := "rulelines") (v := .obj R) q3 a3 (by intro u e; cases e), wL_truthy r3]
    refine ⟨hrl, ?_⟩
    by_cases hrs : rs = []
    · subst hrs
      have hws : ws = [] := List.length_eq_zero_iff.mp hwl.symm
      subst hws
      have hW : lnW ([] : List (List Nat)) = [cAll] := rfl
      rw [hW] at hsm
      simp only [List.isEmpty_nil, Bool.not_true, Bool.false_eq_true, if_false, wp_bind, wp_pure, wp_seq', wp_ite, wp_and, wp_or, wp_setL, wp_allocList, wp_allocTuple, wp_alloc, wpE_get, wpE_mod, wpE_div, wpE_pow, wpE_iaddS, wpE_iaddI, wpE_addS, wp_add, wp_sub, wp_neg, wpE_lt, wpE_le, wpE_gt, wpE_ge, wpE_eq, wpE_ne, wpE_is, wpE_isnot, isP_bool, isP_obj, eqP_int, eqP_str, wpE_in, wpE_notin, wp_truthyB, wpE_truthyI, wpE_truthyN, wpE_truthyS, wp_isStr, wpE_lenS, wpE_lenG, wpE_range1, wpE_range2, wpE_iterS, wpE_iterG, wpE_max2, wpE_min2, if_true, if_false, String.reduceEq, reduceIte, true_and, and_true, List.length_nil, List.length_cons, List.nil_append, List.cons_append, Bool.false_eq_true, decide_eq_true_eq, Nat.zero_le, Int.reduceLT, Int.reduceLE, Int.reduceNeg, Nat.reduceLeDiff, Nat.reduceAdd, k2, wL_isList (get_app_len ss' (O.list (L3.map V.str)) [])]
      rw [wL_append (get_app_len _ _ _) (by simp at hsm ⊢; omega), set_app_len]
      have := fin sl4 [] k2
      rw [hW] at this
      have e : O.list (L3.map V.str ++ [V.str (cps "Allow:")]) = O.list ((L3 ++ [cAll]).map V.str) := by simp [cAll]
      rw [e]
      simp only [wp_pure]
      refine wp_mono this fun fl st' q => ?_
      obtain ⟨l, rfl, q⟩ := q
      exact q
    · have hrne : rs.isEmpty = false := by cases rs with | nil => exact absurd rfl hrs | cons _ _ => rfl
      have hwn : ws ≠ [] := fun e => hrs (List.length_eq_zero_iff.mp (by rw [hwl, e]; rfl))
      have hW : lnW ws = ws := if_neg hwn
      rw [hW] at hsm
      simp only [hrne, Bool.not_false, if_true, wp_bind, wp_pure, wp_seq', wp_ite, wp_and, wp_or, wp_setL, wp_allocList, wp_allocTuple, wp_alloc, wpE_get, wpE_mod, wpE_div, wpE_pow, wpE_iaddS, wpE_iaddI, wpE_addS, wp_add, wp_sub, wp_neg, wpE_lt, wpE_le, wpE_gt, wpE_ge, wpE_eq, wpE_ne, wpE_is, wpE_isnot, isP_bool, isP_obj, eqP_int, eqP_str, wpE_in, wpE_notin, wp_truthyB, wpE_truthyI, wpE_truthyN, wpE_truthyS, wp_isStr, wpE_lenS, wpE_lenG, wpE_range1, wpE_range2, wpE_iterS, wpE_iterG, wpE_max2, wpE_min2, if_true, if_false, String.reduceEq, reduceIte, true_and, and_true, List.length_nil, List.length_cons, List.nil_append, List.cons_append, Bool.false_eq_true, decide_eq_true_eq, Nat.zero_le, Int.reduceLT, Int.reduceLE, Int.reduceNeg, Nat.reduceLeDiff, Nat.reduceAdd, k1, k2, wL_isList (get_app_len ss' (O.list (L3.map V.str)) []), wL_gAttr (n := "rulelines") (v := .obj R) q3 a3 (by intro u e; cases e)]
      have eX : ∀ (Q2 : V → St → Prop), wp (extMap (callS (strE k)) (.obj ss'.length) (.obj R)) ⟨sl4, ss' ++ [O.list (L3.map V.str)]⟩ Q2 = wp (mapLoop (callS (strE k)) ss'.length (some (R, .list rs)) rs) ⟨sl4, ss' ++ [O.list (L3.map V.str)]⟩ Q2 := by
        intro Q2
        unfold wp extMap
        simp only [get_app_len, r3]
        rw [if_pos (by simp; omega)]
      rw [eX]
      refine wp_mapLoop hp oR hw L3 [] (by omega) fun more' => ?_
      have := fin sl4 more' k2
      rw [hW] at this
      simp only [wp_pure]
      refine wp_mono this fun fl st' q => ?_
      obtain ⟨l, rfl, q⟩ := q
      exact q
end Mine
set_option linter.unusedSimpArgs false
set_option linter.unusedVariables false
namespace Mine
/-- rules of a closed record, the last one outermost -/
inductive Fo where
  | nil
  | txt (f : Fo) (t : List Nat)
  | num (f : Fo) (n : Int)
  | rcd (f : Fo) (i U R : Nat) (ags : List (List Nat)) (dv : Option Int) (cs : Fo)
def recL (ags : List (List Nat)) (dv : Option Int) (ls : List (List Nat)) : List (List Nat) := if ags = [] then [[]] else lnA ags ++ lnD dv ++ lnW ls
def Fo.vals : Fo → List V
  | .nil => []
  | .txt f t => f.vals ++ [.str t]
  | .num f n => f.vals ++ [.int n]
  | .rcd f i _ _ _ _ _ => f.vals ++ [.obj i]
def Fo.grp : Fo → List (List (List Nat))
  | .nil => []
  | .txt f t => f.grp ++ [[t]]
  | .num f n => f.grp ++ [[cpsI n]]
  | .rcd f _ _ _ ags dv cs => f.grp ++ [recL ags dv cs.grp.flatten]
def Fo.lns (f : Fo) : List (List Nat) := f.grp.flatten
def Fo.txs (f : Fo) : List (List Nat) := f.grp.map (joinL [10])
def Fo.dep : Fo → Nat
  | .nil => 0
  | .txt f _ => f.dep
  | .num f _ => f.dep
  | .rcd f _ _ _ _ _ cs => max f.dep (cs.dep + 1)
def sS (ls : List (List Nat)) : Nat := (ls.map (·.length)).sum + ls.length
theorem sS_app (a b : List (List Nat)) : sS (a ++ b) = sS a + sS b := by
  unfold sS; rw [sum_app, List.length_append]; omega
theorem sS_one (l : List Nat) : sS [l] = l.length + 1 := by simp [sS]
def Fo.M : Fo → Nat
  | .nil => 0
  | .txt f t => f.M + t.length + 1
  | .num f n => f.M + (cpsI n).length + 1
  | .rcd f _ _ _ ags dv cs => f.M + cs.M + sS (lnA ags) + sS (lnD dv) + 20
theorem joinL_app {s : List Nat} : ∀ {a b : List (List Nat)}, a ≠ [] → b ≠ [] → joinL s (a ++ b) = joinL s a ++ s ++ joinL s b
  | [], _, h, _ => absurd rfl h
  | [x], b, _, hb => by
    cases b with
    | nil => exact absurd rfl hb
    | cons y r => rfl
  | x :: y :: r, b, _, hb => by
    have ih := joinL_app (s := s) (a := y :: r) (b := b) (by simp) hb
    show x ++ s ++ joinL s ((y :: r) ++ b) = x ++ s ++ joinL s (y :: r) ++ s ++ joinL s b
    rw [ih]
    simp [List.append_assoc]
theorem joinL_flat {s : List Nat} : ∀ {G : List (List (List Nat))}, (∀ g ∈ G, g ≠ []) → joinL s (G.map (joinL s)) = joinL s G.flatten
  | [], _ => rfl
  | [g], _ => by simp [joinL]
  | g :: h :: r, hG => by
    have ih := joinL_flat (s := s) (G := h :: r) fun x hx => hG x (.tail _ hx)
    have hne : (h :: r).flatten ≠ [] := by
      have := hG h (.tail _ (.head _))
      intro e
      rw [List.flatten_cons] at e
      exact this (List.append_eq_nil_iff.mp e).1
    rw [List.flatten_cons, joinL_app (hG g (.head _)) hne, ← ih]
    rfl
theorem joinL_pre {s : List Nat} (P : List (List Nat)) {G : List (List (List Nat))} (hG : ∀ g ∈ G, g ≠ []) : joinL s (P ++ G.map (joinL s)) = joinL s (P ++ G.flatten) := by
  have h := joinL_flat (s := s) (G := P.map (fun l => [l]) ++ G) fun g hg => by
    rcases List.mem_append.mp hg with hg | hg
    · obtain ⟨l, _, rfl⟩ := List.mem_map.mp hg; simp
    · exact hG g hg
  have e1 : (P.map (fun l => [l]) ++ G).map (joinL s) = P ++ G.map (joinL s) := by
    rw [List.map_append, List.map_map]
    congr 1
    conv => rhs; rw [← List.map_id P]
    rfl
  have e2 : (P.map (fun l => [l]) ++ G).flatten = P ++ G.flatten := by
    rw [List.flatten_append]
    congr 1
    clear h e1
    induction P with
    | nil => rfl
    | cons x r ih => simp [List.flatten_cons, ih]
  rw [e1, e2] at h
  exact h
theorem recL_ne (ags : List (List Nat)) (dv : Option Int) (ls : List (List Nat)) : recL ags dv ls ≠ [] := by
  unfold recL
  split
  · simp
  · rename_i h
    intro e
    have := (List.append_eq_nil_iff.mp (List.append_eq_nil_iff.mp e).1).1
    unfold lnA at this
    exact h (List.map_eq_nil_iff.mp this)
theorem Fo.grp_ne : ∀ (f : Fo), ∀ g ∈ f.grp, g ≠ []
  | .nil, g, h => by cases h
  | .txt f t, g, h => by
    rcases List.mem_append.mp h with h | h
    · exact grp_ne f g h
    · rw [List.mem_singleton] at h; subst h; simp
  | .num f n, g, h => by
    rcases List.mem_append.mp h with h | h
    · exact grp_ne f g h
    · rw [List.mem_singleton] at h; subst h; simp
  | .rcd f i U R ags dv cs, g, h => by
    rcases List.mem_append.mp h with h | h
    · exact grp_ne f g h
    · rw [List.mem_singleton] at h; subst h; exact recL_ne _ _ _
theorem lns_nil {f : Fo} : f.lns = [] ↔ f.grp = [] := by
  unfold Fo.lns
  constructor
  · intro h
    cases q : f.grp with
    | nil => rfl
    | cons g r =>
      rw [q, List.flatten_cons] at h
      exact absurd (List.append_eq_nil_iff.mp h).1 (f.grp_ne g (by rw [q]; exact .head _))
  · intro h; rw [h]; rfl
theorem text_rec (ags : List (List Nat)) (dv : Option Int) (cs : Fo) : textE ags dv none cs.txs = joinL [10] (recL ags dv cs.lns) := by
  unfold textE recL
  split
  · rfl
  · unfold linesE
    show joinL [10] (lnA ags ++ lnD dv ++ [] ++ lnW cs.txs) = _
    rw [List.append_nil]
    unfold lnW
    by_cases h : cs.grp = []
    · rw [if_pos (by unfold Fo.txs; rw [h]; rfl), if_pos (lns_nil.mpr h)]
    · rw [if_neg (by unfold Fo.txs; simpa using h), if_neg (fun e => h (lns_nil.mp e))]
      exact joinL_pre _ cs.grp_ne
theorem txs_app_rec (f : Fo) (i U R : Nat) (ags : List (List Nat)) (dv : Option Int) (cs : Fo) : (Fo.rcd f i U R ags dv cs).txs = f.txs ++ [textE ags dv none cs.txs] := by
  rw [text_rec]
  unfold Fo.txs
  simp [Fo.grp, Fo.lns]
theorem txs_len (f : Fo) : f.txs.length = f.vals.length := by
  induction f with
  | nil => rfl
  | txt f t ih => unfold Fo.txs at *; simp [Fo.grp, Fo.vals] at *; exact ih
  | num f n ih => unfold Fo.txs at *; simp [Fo.grp, Fo.vals] at *; exact ih
  | rcd f i U R ags dv cs ih _ => unfold Fo.txs at *; simp [Fo.grp, Fo.vals] at *; exact ih
theorem grp_vals (f : Fo) : f.grp = [] ↔ f.vals = [] := by
  cases f <;> simp [Fo.grp, Fo.vals]
theorem joinL_len (ls : List (List Nat)) : (joinL [10] ls).length ≤ sS ls := by
  induction ls with
  | nil => simp [joinL, sS]
  | cons x r ih =>
    cases r with
    | nil => show x.length ≤ _; simp [sS]
    | cons y r =>
      have e : sS (x :: y :: r) = x.length + 1 + sS (y :: r) := by rw [show x :: y :: r = [x] ++ (y :: r) from rfl, sS_app, sS_one]
      show (x ++ [10] ++ joinL [10] (y :: r)).length ≤ _
      rw [e]
      simp only [List.length_append, List.length_cons, List.length_nil]
      omega
theorem sS_W (cs : Fo) {m : Nat} (h : sS cs.txs ≤ m) : sS (lnW cs.txs) ≤ m + 10 := by
  unfold lnW
  split
  · have : sS [cAll] = 7 := by decide +kernel
    omega
  · omega
theorem sS_txs : ∀ f : Fo, sS f.txs ≤ f.M
  | .nil => by simp [Fo.txs, Fo.grp, sS]
  | .txt f t => by
    have ih := sS_txs f
    have e : (Fo.txt f t).txs = f.txs ++ [t] := by unfold Fo.txs; simp [Fo.grp, joinL]
    rw [e, sS_app, sS_one]
    show _ ≤ f.M + t.length + 1
    omega
  | .num f n => by
    have ih := sS_txs f
    have e : (Fo.num f n).txs = f.txs ++ [cpsI n] := by unfold Fo.txs; simp [Fo.grp, joinL]
    rw [e, sS_app, sS_one]
    show _ ≤ f.M + (cpsI n).length + 1
    omega
  | .rcd f i U R ags dv cs => by
    have ih := sS_txs f
    have ih2 := sS_txs cs
    rw [txs_app_rec, sS_app, sS_one]
    show _ ≤ f.M + cs.M + sS (lnA ags) + sS (lnD dv) + 20
    have hw := sS_W cs ih2
    have : (textE ags dv none cs.txs).length ≤ sS (lnA ags) + sS (lnD dv) + sS (lnW cs.txs) := by
      unfold textE
      split
      · simp
      · refine Nat.le_trans (joinL_len _) ?_
        unfold linesE
        rw [sS_app, sS_app, sS_app]
        show _ + _ + sS [] + _ ≤ _
        simp [sS]
    omega
/-- a closed record's objects in the store -/
def Fo.Ok (ss : List O) (lo hi : Nat) : Fo → Prop
  | .nil => True
  | .txt f t => f.Ok ss lo hi ∧ t.length ≤ 30
  | .num f n => f.Ok ss lo hi ∧ small n = true
  | .rcd f i U R ags dv cs => f.Ok ss lo hi ∧ Ent ss i U R ags dv none cs.vals ∧ ((lo ≤ i ∧ i < hi) ∧ (lo ≤ U ∧ U < hi) ∧ (lo ≤ R ∧ R < hi)) ∧ cs.Ok ss lo hi
theorem Ent.ke {ss ss' : List O} {i U R : Nat} {ags : List (List Nat)} {dv : Option Int} {rs : List V} (h : Ent ss i U R ags dv none rs) (k : ∀ j o, (j = i ∨ j = U ∨ j = R) → ss[j]? = some o → ss'[j]? = some o) : Ent ss' i U R ags dv none rs := by
  obtain ⟨⟨as, v, a1, a2, a3, a4, a5, a6⟩, oU, oR, sd⟩ := h
  exact ⟨⟨as, v, k _ _ (.inl rfl) a1, a2, a3, a4, a5, a6⟩, k _ _ (.inr (.inl rfl)) oU, k _ _ (.inr (.inr rfl)) oR, sd⟩
theorem Fo.Ok.ke {ss ss' : List O} {lo hi : Nat} (k : ∀ j o, lo ≤ j → j < hi → ss[j]? = some o → ss'[j]? = some o) : ∀ {f : Fo}, f.Ok ss lo hi → f.Ok ss' lo hi
  | .nil, _ => trivial
  | .txt f t, h => ⟨Fo.Ok.ke k h.1, h.2⟩
  | .num f n, h => ⟨Fo.Ok.ke k h.1, h.2⟩
  | .rcd f i U R ags dv cs, h => by
    obtain ⟨h1, h2, h3, h4⟩ := h
    refine ⟨Fo.Ok.ke k h1, h2.ke fun j o hj e => ?_, h3, Fo.Ok.ke k h4⟩
    rcases hj with rfl | rfl | rfl
    · exact k _ _ h3.1.1 h3.1.2 e
    · exact k _ _ h3.2.1.1 h3.2.1.2 e
    · exact k _ _ h3.2.2.1 h3.2.2.2 e
theorem Fo.Ok.wide {ss : List O} {lo hi lo' hi' : Nat} (h1 : lo' ≤ lo) (h2 : hi ≤ hi') : ∀ {f : Fo}, f.Ok ss lo hi → f.Ok ss lo' hi'
  | .nil, _ => trivial
  | .txt f t, h => ⟨Fo.Ok.wide h1 h2 h.1, h.2⟩
  | .num f n, h => ⟨Fo.Ok.wide h1 h2 h.1, h.2⟩
  | .rcd f i U R ags dv cs, h => by
    obtain ⟨a1, a2, a3, a4⟩ := h
    exact ⟨Fo.Ok.wide h1 h2 a1, a2, by omega, Fo.Ok.wide h1 h2 a4⟩
theorem paired_snoc {α β : Type} {F : α → β → Prop} : ∀ {a : List α} {b : List β} {x : α} {y : β}, Paired F a b → F x y → Paired F (a ++ [x]) (b ++ [y])
  | _, _, _, _, .nil, h => .cons h .nil
  | _, _, _, _, .cons p t, h => .cons p (paired_snoc t h)
theorem bound_rec {ags : List (List Nat)} {dv : Option Int} {cs : Fo} (h : cs.M + sS (lnA ags) + sS (lnD dv) + 20 ≤ 500000) : ((linesE ags dv none cs.txs).map (·.length)).sum + (linesE ags dv none cs.txs).length ≤ 1000000 := by
  have hw := sS_W cs (sS_txs cs)
  show sS (linesE ags dv none cs.txs) ≤ _
  unfold linesE
  rw [sS_app, sS_app, sS_app]
  have : sS (lnR none) = 0 := rfl
  omega
theorem tx_fo {ss : List O} {lo hi : Nat} : ∀ {f : Fo} {k : Nat}, f.Ok ss lo hi → f.dep ≤ k → f.M ≤ 500000 → Paired (TX k ss) f.vals f.txs
  | .nil, k, _, _, _ => .nil
  | .txt f t, k, h, hd, hm => by
    have e : (Fo.txt f t).txs = f.txs ++ [t] := by unfold Fo.txs; simp [Fo.grp, joinL]
    rw [e]
    have hm : f.M + t.length + 1 ≤ 500000 := hm
    exact paired_snoc (tx_fo h.1 hd (by omega)) (tx_str (by have := h.2; omega))
  | .num f n, k, h, hd, hm => by
    have e : (Fo.num f n).txs = f.txs ++ [cpsI n] := by unfold Fo.txs; simp [Fo.grp, joinL]
    rw [e]
    have hm : f.M + (cpsI n).length + 1 ≤ 500000 := hm
    exact paired_snoc (tx_fo h.1 hd (by omega)) (tx_int h.2)
  | .rcd f i U R ags dv cs, k, h, hd, hm => by
    obtain ⟨a1, a2, a3, a4⟩ := h
    rw [txs_app_rec]
    have hm : f.M + cs.M + sS (lnA ags) + sS (lnD dv) + 20 ≤ 500000 := hm
    have hd : max f.dep (cs.dep + 1) ≤ k := hd
    cases k with
    | zero => omega
    | succ k => exact paired_snoc (tx_fo a1 (by omega) (by omega)) (tx_ent a2 (tx_fo a4 (by omega) (by omega)) (bound_rec (by omega)))
end Mine
set_option linter.unusedSimpArgs false
set_option linter.unusedVariables false
namespace Mine
/-- an open record -/
structure Fm where
  i : Nat
  U : Nat
  R : Nat
  t : Nat
  ags : List (List Nat)
  dv : Option Int
  hd : Bool
  cs : Fo
def nxV : Option Nat → List V
  | none => []
  | some j => [.obj j]
def hdOf : List Fm → Bool
  | [] => true
  | p :: _ => p.hd
structure FmOk (ss : List O) (hi : Nat) (nx : Option Nat) (p : Fm) (r : List Fm) : Prop where
  e : Ent ss p.i p.U p.R p.ags p.dv none (p.cs.vals ++ nxV nx)
  t : ss[p.t]? = some (.list [.obj p.i, .bool p.hd, vnat (p.cs.vals ++ nxV nx).length])
  o1 : p.i < p.U
  o2 : p.i < p.R
  o3 : p.U < p.t
  o4 : p.R < p.t
  o5 : p.U ≠ p.R
  o6 : p.t < hi
  n1 : p.i ≠ 3 ∧ p.i ≠ 5
  n2 : p.U ≠ 3 ∧ p.U ≠ 5
  n3 : p.R ≠ 3 ∧ p.R ≠ 5 ∧ p.R ≠ 6
  n4 : p.t ≠ 3 ∧ p.t ≠ 5 ∧ p.t ≠ 6
  n7 : r ≠ [] → 7 ≤ p.i
  c : p.cs.Ok ss (max (p.t + 1) 7) hi
  h : p.hd = (hdOf r && decide (p.ags ≠ []))
  d : p.cs.dep + r.length ≤ 5
  a1 : p.ags.length ≤ 2
  a2 : ∀ g ∈ p.ags, g.length ≤ 5
  v : p.dv = none ∨ p.dv = some 0
def StOk (ss : List O) : Nat → Option Nat → List Fm → Prop
  | _, _, [] => True
  | hi, nx, p :: r => FmOk ss hi nx p r ∧ StOk ss p.i (some p.i) r
theorem FmOk.ke {ss ss' : List O} {hi : Nat} {nx : Option Nat} {p : Fm} {r : List Fm} (h : FmOk ss hi nx p r) (k : ∀ j o, j < hi → j ≠ 3 → j ≠ 5 → ss[j]? = some o → ss'[j]? = some o) : FmOk ss' hi nx p r := by
  have o1 := h.o1; have o2 := h.o2; have o3 := h.o3; have o4 := h.o4; have o6 := h.o6
  refine ⟨h.e.ke fun j o hj e => ?_, k _ _ o6 h.n4.1 h.n4.2.1 h.t, o1, o2, o3, o4, h.o5, o6, h.n1, h.n2, h.n3, h.n4, h.n7, h.c.ke fun j o h1 h2 e => k j o h2 (by omega) (by omega) e, h.h, h.d, h.a1, h.a2, h.v⟩
  rcases hj with rfl | rfl | rfl
  · exact k _ _ (by omega) h.n1.1 h.n1.2 e
  · exact k _ _ (by omega) h.n2.1 h.n2.2 e
  · exact k _ _ (by omega) h.n3.1 h.n3.2.1 e
theorem StOk.ke {ss ss' : List O} : ∀ {hi : Nat} {nx : Option Nat} {st : List Fm}, StOk ss hi nx st → (∀ j o, j < hi → j ≠ 3 → j ≠ 5 → ss[j]? = some o → ss'[j]? = some o) → StOk ss' hi nx st
  | _, _, [], _, _ => trivial
  | hi, nx, p :: r, h, k => ⟨h.1.ke k, StOk.ke h.2 fun j o hj a b e => k j o (by have := h.1.o1; have := h.1.o3; have := h.1.o6; omega) a b e⟩
theorem FmOk.hi {ss : List O} {hi hi' : Nat} {nx : Option Nat} {p : Fm} {r : List Fm} (h : FmOk ss hi nx p r) (k : hi ≤ hi') : FmOk ss hi' nx p r :=
  ⟨h.e, h.t, h.o1, h.o2, h.o3, h.o4, h.o5, by have := h.o6; omega, h.n1, h.n2, h.n3, h.n4, h.n7, h.c.wide (Nat.le_refl _) k, h.h, h.d, h.a1, h.a2, h.v⟩
def closeF (p q : Fm) : Fm := { p with cs := .rcd p.cs q.i q.U q.R q.ags q.dv q.cs }
theorem close_ok {ss : List O} {hi : Nat} {p q : Fm} {r : List Fm} (h : StOk ss hi none (q :: p :: r)) : StOk ss hi none (closeF p q :: r) := by
  obtain ⟨hq, hp, hr⟩ := h
  have q1 := hq.o1; have q2 := hq.o2; have q3 := hq.o3; have q4 := hq.o4; have q6 := hq.o6
  have q7 := hq.n7 (by simp)
  have p6 := hp.o6
  have hd := hq.d
  have pd := hp.d
  rw [List.length_cons] at hd
  have eq : (closeF p q).cs.vals ++ nxV none = p.cs.vals ++ nxV (some q.i) := by
    show (p.cs.vals ++ [V.obj q.i]) ++ [] = p.cs.vals ++ [V.obj q.i]
    rw [List.append_nil]
  refine ⟨⟨by rw [eq]; exact hp.e, by rw [eq]; exact hp.t, hp.o1, hp.o2, hp.o3, hp.o4, hp.o5, by show p.t < hi; omega, hp.n1, hp.n2, hp.n3, hp.n4, hp.n7, ?_, hp.h, ?_, hp.a1, hp.a2, hp.v⟩, hr⟩
  · refine ⟨hp.c.wide (Nat.le_refl _) (by omega), ?_, ?_, hq.c.wide ?_ (Nat.le_refl _)⟩
    · have := hq.e
      rw [show nxV none = ([] : List V) from rfl, List.append_nil] at this
      exact this
    · show ((max (p.t + 1) 7 ≤ q.i ∧ q.i < hi) ∧ (max (p.t + 1) 7 ≤ q.U ∧ q.U < hi) ∧ (max (p.t + 1) 7 ≤ q.R ∧ q.R < hi))
      omega
    · show max (p.t + 1) 7 ≤ max (q.t + 1) 7
      omega
  · show max p.cs.dep (q.cs.dep + 1) + r.length ≤ 5
    omega
def own (ph : Bool) (p : Fm) : List (List Nat) := if p.hd then lnA p.ags ++ lnD p.dv ++ p.cs.lns else if ph then [[]] else []
def plines : List Fm → List (List Nat)
  | [] => []
  | p :: r => plines r ++ own (hdOf r) p
def alw2 (q : Fm) : List (List Nat) := if q.hd = true ∧ q.cs.vals = [] then [cAll] else []
theorem plines_close {ss : List O} {hi : Nat} {p q : Fm} {r : List Fm} (h : StOk ss hi none (q :: p :: r)) : plines (closeF p q :: r) = plines (q :: p :: r) ++ alw2 q := by
  have hq := h.1.h
  show plines r ++ own (hdOf r) (closeF p q) = (plines r ++ own (hdOf r) p) ++ own p.hd q ++ alw2 q
  rw [List.append_assoc, List.append_assoc]
  congr 1
  have hq : q.hd = (p.hd && decide (q.ags ≠ [])) := hq
  unfold own alw2
  show (if p.hd = true then lnA p.ags ++ lnD p.dv ++ (Fo.rcd p.cs q.i q.U q.R q.ags q.dv q.cs).lns else if hdOf r = true then [[]] else []) = _
  cases hpd : p.hd with
  | false =>
    rw [hpd] at hq
    have hq : q.hd = false := hq
    simp [hq]
  | true =>
    rw [hpd] at hq
    have e : (Fo.rcd p.cs q.i q.U q.R q.ags q.dv q.cs).lns = p.cs.lns ++ recL q.ags q.dv q.cs.lns := by
      unfold Fo.lns
      simp [Fo.grp]
    rw [e]
    by_cases hag : q.ags = []
    · have hq : q.hd = false := by rw [hq, hag]; simp
      have : recL q.ags q.dv q.cs.lns = [[]] := by unfold recL; rw [if_pos hag]
      rw [this]
      simp [hq]
    · have hq : q.hd = true := by rw [hq]; simp [hag]
      have : recL q.ags q.dv q.cs.lns = lnA q.ags ++ lnD q.dv ++ lnW q.cs.lns := by unfold recL; rw [if_neg hag]
      rw [this]
      by_cases hv : q.cs.vals = []
      · have hl : q.cs.lns = [] := lns_nil.mpr ((grp_vals _).mpr hv)
        simp [hq, hv, hl, lnW]
      · have hl : ¬ q.cs.lns = [] := fun e => hv ((grp_vals _).mp (lns_nil.mp e))
        simp [hq, hv, hl, lnW]
def Mst : List Fm → Nat
  | [] => 0
  | p :: r => Mst r + (p.cs.M + sS (lnA p.ags) + sS (lnD p.dv) + 20)
theorem Mst_close (p q : Fm) (r : List Fm) : Mst (closeF p q :: r) = Mst (q :: p :: r) := by
  show Mst r + ((p.cs.M + q.cs.M + sS (lnA q.ags) + sS (lnD q.dv) + 20) + sS (lnA p.ags) + sS (lnD p.dv) + 20) = Mst r + (p.cs.M + sS (lnA p.ags) + sS (lnD p.dv) + 20) + (q.cs.M + sS (lnA q.ags) + sS (lnD q.dv) + 20)
  omega
/-- a rule comes to the top record -/
theorem fm_add {ss ss' : List O} {hi hi' : Nat} {q : Fm} {r : List Fm} {v : V} {f : Fo} {nx : Option Nat} (h : FmOk ss hi none q r) (hv : f.vals ++ nxV nx = q.cs.vals ++ [v]) (gR : ss'[q.R]? = some (.list (q.cs.vals ++ [v]))) (gt : ss'[q.t]? = some (.list [.obj q.i, .bool q.hd, vnat (q.cs.vals.length + 1)]))
    (k : ∀ j o, j < hi → j ≠ 3 → j ≠ 5 → j ≠ q.R → j ≠ q.t → ss[j]? = some o → ss'[j]? = some o) (hf : f.Ok ss' (max (q.t + 1) 7) hi') (hhi : hi ≤ hi') (hd : f.dep ≤ q.cs.dep) : FmOk ss' hi' nx { q with cs := f } r := by
  have o1 := h.o1; have o2 := h.o2; have o3 := h.o3; have o4 := h.o4; have o5 := h.o5; have o6 := h.o6
  obtain ⟨⟨as, w, a1, a2, a3, a4, a5, a6⟩, oU, oR, sd⟩ := h.e
  refine ⟨⟨⟨as, w, k q.i _ (by omega) h.n1.1 h.n1.2 (by omega) (by omega) a1, a2, a3, a4, a5, a6⟩, k q.U _ (by omega) h.n2.1 h.n2.2 o5 (by omega) oU, by show ss'[q.R]? = _; rw [gR, hv], sd⟩, ?_, o1, o2, o3, o4, o5, by show q.t < hi'; omega, h.n1, h.n2, h.n3, h.n4, h.n7, hf, h.h, ?_, h.a1, h.a2, h.v⟩
  · show ss'[q.t]? = _
    rw [gt]
    dsimp only
    rw [hv, List.length_append]
    rfl
  · show f.dep + r.length ≤ 5
    have := h.d
    omega
theorem st_keep {ss ss' : List O} {hi : Nat} {q : Fm} {r : List Fm} (h : FmOk ss hi none q r) (hr : StOk ss q.i (some q.i) r) (k : ∀ j o, j < hi → j ≠ 3 → j ≠ 5 → j ≠ q.R → j ≠ q.t → ss[j]? = some o → ss'[j]? = some o) : StOk ss' q.i (some q.i) r := by
  have o1 := h.o1; have o2 := h.o2; have o3 := h.o3; have o4 := h.o4; have o6 := h.o6
  exact hr.ke fun j o hj a b e => k j o (by omega) a b (by omega) (by omega) e
theorem cs_keep {ss ss' : List O} {hi : Nat} {q : Fm} {r : List Fm} (h : FmOk ss hi none q r) (k : ∀ j o, j < hi → j ≠ 3 → j ≠ 5 → j ≠ q.R → j ≠ q.t → ss[j]? = some o → ss'[j]? = some o) : q.cs.Ok ss' (max (q.t + 1) 7) hi := by
  have o4 := h.o4
  exact h.c.ke fun j o a b e => k j o b (by omega) (by omega) (by omega) (by omega) e
end Mine
set_option linter.unusedSimpArgs false
set_option linter.unusedVariables false
namespace Mine
def dgs2 : List Nat := [48, 49, 50, 51, 52, 53, 54, 55, 56, 57]
def rootN : List Nat := [114, 111, 111, 116]
structure L2 (sl : String → Option V) : Prop where
  l1 : sl "figures" = some (.str dgs2)
  l2 : sl "root" = some (.obj 0)
  l3 : sl "lines" = some (.obj 3)
  l5 : sl "opened" = some (.obj 5)
theorem L2.upd {sl sl' : String → Option V} (h : L2 sl) (k : ∀ m, m ∈ ["figures", "root", "lines", "opened"] → sl' m = sl m) : L2 sl' :=
  ⟨(k _ (by decide)).trans h.l1, (k _ (by decide)).trans h.l2, (k _ (by decide)).trans h.l3, (k _ (by decide)).trans h.l5⟩
structure I2 (ss : List O) (xs : List Int) (st : List Fm) : Prop where
  ok : StOk ss ss.length none st
  g3 : ss[3]? = some (.list ((plines st).map V.str))
  g5 : ss[5]? = some (.list (st.reverse.map fun p => .obj p.t))
  g6 : ss[6]? = some (.list (xs.map V.int))
  ro : ∃ p, st.getLast? = some p ∧ p.i = 0 ∧ p.ags = [rootN] ∧ p.dv = none
  ln : st.length ≤ 6
structure B2 (n : Nat) (st : List Fm) : Prop where
  m : Mst st ≤ 100 * n + 100
  l : (plines st).length ≤ 5 * n + 5
theorem w_allow {sl : String → Option V} {ss : List O} {T i c : Nat} {hd : Bool} {ls : List (List Nat)} (ht : sl "top" = some (.obj T)) (gT : ss[T]? = some (.list [.obj i, .bool hd, vnat c])) (hl : sl "lines" = some (.obj 3)) (g3 : ss[3]? = some (.list (ls.map V.str))) (hn : ls.length ≤ 1000000) {Q : Fl → St → Prop}
    (hQ : ∀ ss', ss'.length = ss.length → ss'[3]? = some (.list ((ls ++ if hd = true ∧ c = 0 then [cAll] else []).map V.str)) → (∀ j o, j ≠ 3 → ss[j]? = some o → ss'[j]? = some o) → Q .next ⟨sl, ss'⟩) : wp l02s1 ⟨sl, ss⟩ Q := by
  have i1 : ∀ (loc : String → Option V) (Q2 : V → St → Prop), wp (pItem (.obj T) (.int 1)) ⟨loc, ss⟩ Q2 = Q2 (.bool hd) ⟨loc, ss⟩ := fun loc Q2 => wL_item (k := 1) gT (by simp) rfl
  have i2 : ∀ (loc : String → Option V) (Q2 : V → St → Prop), wp (pItem (.obj T) (.int 2)) ⟨loc, ss⟩ Q2 = Q2 (vnat c) ⟨loc, ss⟩ := fun loc Q2 => wL_item (k := 2) gT (by simp) rfl
  unfold l02s1
  simp only [wp_bind, wp_pure, wp_seq', wp_ite, wp_and, wp_or, wp_setL, wp_allocList, wp_allocTuple, wp_alloc, wpE_get, wpE_mod, wpE_div, wpE_pow, wpE_iaddS, wpE_iaddI, wpE_addS, wp_add, wp_sub, wp_neg, wpE_lt, wpE_le, wpE_gt, wpE_ge, wpE_eq, wpE_ne, wpE_is, wpE_isnot, isP_bool, isP_obj, eqP_int, eqP_str, wpE_in, wpE_notin, wp_truthyB, wpE_truthyI, wpE_truthyN, wpE_truthyS, wp_isStr, wpE_lenS, wpE_lenG, wpE_range1, wpE_range2, wpE_iterS, wpE_iterG, wpE_max2, wpE_min2, if_true, if_false, String.reduceEq, reduceIte, true_and, and_true, List.length_nil, List.length_cons, List.nil_append, List.cons_append, Bool.false_eq_true, decide_eq_true_eq, Nat.zero_le, Int.reduceLT, Int.reduceLE, Int.reduceNeg, Nat.reduceLeDiff, Nat.reduceAdd, ht, i1]
  cases hd with
  | false =>
    simp only [Bool.false_eq_true, if_false]
    refine hQ ss rfl ?_ fun j o _ e => e
    rw [g3]; simp
  | true =>
    simp only [if_true, wp_bind, wp_pure, wp_seq', wp_ite, wp_and, wp_or, wp_setL, wp_allocList, wp_allocTuple, wp_alloc, wpE_get, wpE_mod, wpE_div, wpE_pow, wpE_iaddS, wpE_iaddI, wpE_addS, wp_add, wp_sub, wp_neg, wpE_lt, wpE_le, wpE_gt, wpE_ge, wpE_eq, wpE_ne, wpE_is, wpE_isnot, isP_bool, isP_obj, eqP_int, eqP_str, wpE_in, wpE_notin, wp_truthyB, wpE_truthyI, wpE_truthyN, wpE_truthyS, wp_isStr, wpE_lenS, wpE_lenG, wpE_range1, wpE_range2, wpE_iterS, wpE_iterG, wpE_max2, wpE_min2, if_true, if_false, String.reduceEq, reduceIte, true_and, and_true, List.length_nil, List.length_cons, List.nil_append, List.cons_append, Bool.false_eq_true, decide_eq_true_eq, Nat.zero_le, Int.reduceLT, Int.reduceLE, Int.reduceNeg, Nat.reduceLeDiff, Nat.reduceAdd, ht, i2, vnat]
    by_cases hc : c = 0
    · have h0 : ((c : Nat) : Int) = 0 := by omega
      simp only [h0, decide_true, if_true, wp_bind, wp_pure, wp_seq', wp_ite, wp_and, wp_or, wp_setL, wp_allocList, wp_allocTuple, wp_alloc, wpE_get, wpE_mod, wpE_div, wpE_pow, wpE_iaddS, wpE_iaddI, wpE_addS, wp_add, wp_sub, wp_neg, wpE_lt, wpE_le, wpE_gt, wpE_ge, wpE_eq, wpE_ne, wpE_is, wpE_isnot, isP_bool, isP_obj, eqP_int, eqP_str, wpE_in, wpE_notin, wp_truthyB, wpE_truthyI, wpE_truthyN, wpE_truthyS, wp_isStr, wpE_lenS, wpE_lenG, wpE_range1, wpE_range2, wpE_iterS, wpE_iterG, wpE_max2, wpE_min2, if_true, if_false, String.reduceEq, reduceIte, true_and, and_true, List.length_nil, List.length_cons, List.nil_append, List.cons_append, Bool.false_eq_true, decide_eq_true_eq, Nat.zero_le, Int.reduceLT, Int.reduceLE, Int.reduceNeg, Nat.reduceLeDiff, Nat.reduceAdd, hl, wL_isList g3, wL_append g3 (show _ ≤ 1000000 by simpa using hn)]
      refine hQ _ (by simp) ?_ fun j o hj e => get_set_other e (Ne.symm hj)
      rw [get_set_here g3]
      simp [hc, cAll]
    · have h0 : ¬ ((c : Nat) : Int) = 0 := by omega
      simp only [h0, decide_false, Bool.false_eq_true, if_false]
      refine hQ ss rfl ?_ fun j o _ e => e
      rw [g3]; simp [hc]
theorem alw_eq (q : Fm) : (if q.hd = true ∧ (q.cs.vals ++ nxV none).length = 0 then [cAll] else []) = alw2 q := by
  unfold alw2
  have : ((q.cs.vals ++ nxV none).length = 0) ↔ q.cs.vals = [] := by
    show ((q.cs.vals ++ []).length = 0) ↔ _
    rw [List.append_nil, List.length_eq_zero_iff]
  by_cases h1 : q.hd = true <;> by_cases h2 : q.cs.vals = [] <;> simp [h1, h2, nxV]
section
variable {sl : String → Option V} {ss : List O} {xs : List Int} {q : Fm} {r : List Fm} {n : Nat}
/-- the last open record is closed -/
theorem t2_close {p : Fm} (hl : L2 sl) (h : I2 ss xs (q :: p :: r)) (b : B2 n (q :: p :: r)) (hn : n ≤ 63) (ht : sl "top" = some (.obj q.t)) {Q : Fl → St → Prop} (hQ : ∀ ss', I2 ss' xs (closeF p q :: r) → B2 (n + 1) (closeF p q :: r) → Q .next ⟨sl, ss'⟩) : wp (seqF l02s1 l02s2) ⟨sl, ss⟩ Q := by
  have hm := b.m
  have hbl := b.l
  rw [wp_seq']
  refine w_allow ht h.ok.1.t hl.l3 h.g3 (by omega) fun ss' hlen g3' k => ?_
  dsimp only
  rw [alw_eq, ← plines_close h.ok] at g3'
  have g5' := k _ _ (by decide) h.g5
  rw [List.reverse_cons, List.map_append] at g5'
  have hrl : (p :: r).reverse.length ≤ 6 := by have := h.ln; simp at this ⊢; omega
  unfold l02s2
  simp only [wp_bind, wp_pure, wp_seq', wp_ite, wp_and, wp_or, wp_setL, wp_allocList, wp_allocTuple, wp_alloc, wpE_get, wpE_mod, wpE_div, wpE_pow, wpE_iaddS, wpE_iaddI, wpE_addS, wp_add, wp_sub, wp_neg, wpE_lt, wpE_le, wpE_gt, wpE_ge, wpE_eq, wpE_ne, wpE_is, wpE_isnot, isP_bool, isP_obj, eqP_int, eqP_str, wpE_in, wpE_notin, wp_truthyB, wpE_truthyI, wpE_truthyN, wpE_truthyS, wp_isStr, wpE_lenS, wpE_lenG, wpE_range1, wpE_range2, wpE_iterS, wpE_iterG, wpE_max2, wpE_min2, if_true, if_false, String.reduceEq, reduceIte, true_and, and_true, List.length_nil, List.length_cons, List.nil_append, List.cons_append, Bool.false_eq_true, decide_eq_true_eq, Nat.zero_le, Int.reduceLT, Int.reduceLE, Int.reduceNeg, Nat.reduceLeDiff, Nat.reduceAdd, hl.l5, wL_isList g5']
  rw [wL_pop (xs := (p :: r).reverse.map fun p => V.obj p.t) (v := .obj q.t) g5' (by rw [List.length_map]; omega)]
  simp only [wp_pure]
  have k2 : ∀ j o, j ≠ 3 → j ≠ 5 → ss[j]? = some o → (ss'.set 5 (O.list ((p :: r).reverse.map fun p => V.obj p.t)))[j]? = some o := fun j o a b e => get_set_other (k j o a e) (Ne.symm b)
  have hal : (alw2 q).length ≤ 1 := by unfold alw2; split <;> simp
  refine hQ _ ⟨?_, get_set_other g3' (by decide), ?_, k2 _ _ (by decide) (by decide) h.g6, ?_, ?_⟩ ⟨by rw [Mst_close]; omega, by rw [plines_close h.ok, List.length_append]; omega⟩
  · rw [List.length_set, hlen]
    exact (close_ok h.ok).ke fun j o hj a b e => k2 j o a b e
  · rw [get_set_here g5', List.reverse_cons, List.reverse_cons, List.map_append, List.map_append]; rfl
  · obtain ⟨p0, a1, a2, a3, a4⟩ := h.ro
    cases r with
    | nil =>
      simp at a1
      subst a1
      exact ⟨_, rfl, a2, a3, a4⟩
    | cons p2 r2 =>
      refine ⟨p0, ?_, a2, a3, a4⟩
      simpa [List.getLast?_cons_cons] using a1
  · have := h.ln
    simp at this ⊢
    omega
/-- a text or a number as a rule -/
theorem t2_leaf {v : V} {w : List Nat} {f : Fo} {m1 m2 : PM Fl} (hl : L2 sl) (h : I2 ss xs (q :: r)) (b : B2 n (q :: r)) (hn : n ≤ 63) (ht : sl "top" = some (.obj q.t)) (hv : f.vals = q.cs.vals ++ [v]) (hfl : f.lns = q.cs.lns ++ [w]) (hfd : f.dep = q.cs.dep) (hfM : f.M ≤ q.cs.M + 40)
    (hfO : ∀ ss' lo hi, q.cs.Ok ss' lo hi → f.Ok ss' lo hi)
    (h1 : ∀ (B : List O) (Q : Fl → St → Prop) (as : List (String × V)), B[q.t]? = some (.list [.obj q.i, .bool q.hd, vnat (q.cs.vals.length + 1)]) → B[q.i]? = some (.inst as) → as.lookup "rulelines" = some (.obj q.R) → B[q.R]? = some (.list q.cs.vals) → Q .next ⟨sl, B.set q.R (.list (q.cs.vals ++ [v]))⟩ → wp m1 ⟨sl, B⟩ Q)
    (h2 : ∀ (B : List O) (Q : Fl → St → Prop), B[q.t]? = some (.list [.obj q.i, .bool q.hd, vnat (q.cs.vals.length + 1)]) → B[3]? = some (.list ((plines (q :: r)).map V.str)) → (q.hd = true → Q .next ⟨sl, B.set 3 (.list ((plines (q :: r) ++ [w]).map V.str))⟩) → (q.hd = false → Q .next ⟨sl, B⟩) → wp m2 ⟨sl, B⟩ Q)
    {Q : Fl → St → Prop} (hQ : ∀ ss', I2 ss' xs ({ q with cs := f } :: r) → B2 (n + 1) ({ q with cs := f } :: r) → Q .next ⟨sl, ss'⟩) : wp (seqF l02s23 (seqF m1 m2)) ⟨sl, ss⟩ Q := by
  have hm := b.m
  have hbl := b.l
  have hq := h.ok.1
  have o1 := hq.o1; have o2 := hq.o2; have o3 := hq.o3; have o4 := hq.o4; have o5 := hq.o5; have o6 := hq.o6
  have eV : q.cs.vals ++ nxV none = q.cs.vals := List.append_nil _
  have gt := hq.t
  rw [eV] at gt
  obtain ⟨⟨as, w0, a1, a2, a3, a4, a5, a6⟩, oU, oR, sd⟩ := hq.e
  rw [eV] at oR
  have i2 : ∀ (loc : String → Option V) (Q2 : V → St → Prop), wp (pItem (.obj q.t) (.int 2)) ⟨loc, ss⟩ Q2 = Q2 (vnat q.cs.vals.length) ⟨loc, ss⟩ := fun loc Q2 => wL_item (k := 2) gt (by simp) rfl
  have s2 : ∀ (loc : String → Option V) (v : V) (Q2 : Unit → St → Prop), wp (setItemP v (.obj q.t) (.int 2)) ⟨loc, ss⟩ Q2 = Q2 () ⟨loc, ss.set q.t (.list [.obj q.i, .bool q.hd, v])⟩ := fun loc v Q2 => wL_setItem (k := 2) gt (by simp) (by simp)
  rw [wp_seq']
  unfold l02s23
  simp only [wp_bind, wp_pure, wp_seq', wp_ite, wp_and, wp_or, wp_setL, wp_allocList, wp_allocTuple, wp_alloc, wpE_get, wpE_mod, wpE_div, wpE_pow, wpE_iaddS, wpE_iaddI, wpE_addS, wp_add, wp_sub, wp_neg, wpE_lt, wpE_le, wpE_gt, wpE_ge, wpE_eq, wpE_ne, wpE_is, wpE_isnot, isP_bool, isP_obj, eqP_int, eqP_str, wpE_in, wpE_notin, wp_truthyB, wpE_truthyI, wpE_truthyN, wpE_truthyS, wp_isStr, wpE_lenS, wpE_lenG, wpE_range1, wpE_range2, wpE_iterS, wpE_iterG, wpE_max2, wpE_min2, if_true, if_false, String.reduceEq, reduceIte, true_and, and_true, List.length_nil, List.length_cons, List.nil_append, List.cons_append, Bool.false_eq_true, decide_eq_true_eq, Nat.zero_le, Int.reduceLT, Int.reduceLE, Int.reduceNeg, Nat.reduceLeDiff, Nat.reduceAdd, ht, i2, vnat, s2]
  have dt := get_set_here (o' := O.list [.obj q.i, .bool q.hd, .int ((q.cs.vals.length : Int) + 1)]) gt
  have dO : ∀ j o, j ≠ q.t → ss[j]? = some o → (ss.set q.t (O.list [.obj q.i, .bool q.hd, .int ((q.cs.vals.length : Int) + 1)]))[j]? = some o := fun j o hj e => get_set_other e (Ne.symm hj)
  have hBl : (ss.set q.t (O.list [.obj q.i, .bool q.hd, .int ((q.cs.vals.length : Int) + 1)])).length = ss.length := by simp
  generalize (ss.set q.t (O.list [.obj q.i, .bool q.hd, .int ((q.cs.vals.length : Int) + 1)])) = B at dt dO hBl
  have dt' : B[q.t]? = some (.list [.obj q.i, .bool q.hd, vnat (q.cs.vals.length + 1)]) := by rw [dt]; rfl
  have bR := dO _ _ (by omega) oR
  refine h1 B _ as dt' (dO _ _ (by omega) a1) a3 bR ?_
  have eR := get_set_here (o' := O.list (q.cs.vals ++ [v])) bR
  have eO : ∀ j o, j ≠ q.R → B[j]? = some o → (B.set q.R (O.list (q.cs.vals ++ [v])))[j]? = some o := fun j o hj e => get_set_other e (Ne.symm hj)
  have hCl : (B.set q.R (O.list (q.cs.vals ++ [v]))).length = ss.length := by rw [List.length_set, hBl]
  generalize (B.set q.R (O.list (q.cs.vals ++ [v]))) = C at eR eO hCl
  have c3 := eO _ _ (Ne.symm hq.n3.1) (dO _ _ (Ne.symm hq.n4.1) h.g3)
  have ct := eO _ _ (by omega) dt'
  dsimp only
  have fin : ∀ D : List O, D.length = ss.length → (∀ j o, j ≠ 3 → C[j]? = some o → D[j]? = some o) → D[3]? = some (.list ((plines ({ q with cs := f } :: r)).map V.str)) → Q .next ⟨sl, D⟩ := by
    intro D hDl dk d3
    have kk : ∀ j o, j < ss.length → j ≠ 3 → j ≠ 5 → j ≠ q.R → j ≠ q.t → ss[j]? = some o → D[j]? = some o := fun j o _ x3 _ xR xt e => dk j o x3 (eO j o xR (dO j o xt e))
    have k5 : ∀ j o, j ≠ 3 → j ≠ q.R → j ≠ q.t → ss[j]? = some o → D[j]? = some o := fun j o x3 xR xt e => dk j o x3 (eO j o xR (dO j o xt e))
    refine hQ D ⟨⟨?_, ?_⟩, d3, ?_, k5 _ _ (by decide) (Ne.symm hq.n3.2.2) (Ne.symm hq.n4.2.2) h.g6, ?_, h.ln⟩ ⟨?_, ?_⟩
    · rw [hDl]
      refine fm_add (v := v) (nx := none) hq (by rw [hv]; exact List.append_nil _) (dk _ _ hq.n3.1 eR) (dk _ _ hq.n4.1 ct) kk (hfO _ _ _ (cs_keep hq kk)) (Nat.le_refl _) (by omega)
    · exact st_keep (q := q) hq h.ok.2 kk
    · rw [k5 _ _ (by decide) (Ne.symm hq.n3.2.1) (Ne.symm hq.n4.2.1) h.g5]
      simp
    · obtain ⟨p0, x1, x2, x3, x4⟩ := h.ro
      cases r with
      | nil =>
        simp at x1
        subst x1
        exact ⟨_, rfl, x2, x3, x4⟩
      | cons p2 r2 => exact ⟨p0, by simpa [List.getLast?_cons_cons] using x1, x2, x3, x4⟩
    · show Mst r + (f.M + sS (lnA q.ags) + sS (lnD q.dv) + 20) ≤ _
      have hm : Mst r + (q.cs.M + sS (lnA q.ags) + sS (lnD q.dv) + 20) ≤ 100 * n + 100 := hm
      omega
    · show (plines r ++ own (hdOf r) { q with cs := f }).length ≤ _
      have hbl : (plines r ++ own (hdOf r) q).length ≤ 5 * n + 5 := hbl
      rw [List.length_append] at hbl ⊢
      have : (own (hdOf r) { q with cs := f }).length ≤ (own (hdOf r) q).length + 1 := by
        unfold own
        dsimp only
        rw [hfl]
        split
        · simp only [List.length_append, List.length_singleton]; omega
        · omega
      omega
  refine h2 C _ ct c3 (fun hh => ?_) (fun hh => ?_)
  · refine fin _ (by rw [List.length_set, hCl]) (fun j o hj e => get_set_other e (Ne.symm hj)) ?_
    rw [get_set_here c3]
    have : plines ({ q with cs := f } :: r) = plines (q :: r) ++ [w] := by
      show plines r ++ own (hdOf r) { q with cs := f } = (plines r ++ own (hdOf r) q) ++ [w]
      rw [List.append_assoc]
      congr 1
      unfold own
      dsimp only
      rw [hh, hfl]
      simp
    rw [this]
  · refine fin C hCl (fun j o _ e => e) ?_
    rw [c3]
    have : plines ({ q with cs := f } :: r) = plines (q :: r) := by
      show plines r ++ own (hdOf r) { q with cs := f } = plines r ++ own (hdOf r) q
      congr 1
      unfold own
      dsimp only
      rw [hh]
      simp
    rw [this]
end
end Mine
set_option linter.unusedSimpArgs false
set_option linter.unusedVariables false
namespace Mine
theorem wL_extNe {loc : String → Option V} {sto : List O} {i j : Nat} {xs ys : List V} {Q : V → St → Prop} (hi : sto[i]? = some (.list xs)) (hj : sto[j]? = some (.list ys)) (hl : xs.length + ys.length ≤ 1000000) (hne : ys ≠ []) : wp (cExtendE [.obj i, .obj j]) ⟨loc, sto⟩ Q = Q .none ⟨loc, sto.set i (.list (xs ++ ys))⟩ := by
  cases ys with
  | nil => exact absurd rfl hne
  | cons y r =>
    have e : cExtendE [.obj i, .obj j] ⟨loc, sto⟩ = .ok .none ⟨loc, sto.set i (.list (xs ++ y :: r))⟩ := by
      unfold cExtendE
      simp only [hi, hj]
      unfold cExtend
      simp only [hi, hj]
      rw [if_pos ⟨hl, by simp⟩]
    unfold wp
    rw [e]
theorem mod10 (x : Int) : ∃ p : Nat, p < 10 ∧ x % 10 = (p : Int) := ⟨(x % 10).toNat, by omega⟩
theorem dg_ok : ∀ p ∈ List.range 10, dgs2[p]? = some (48 + p) ∧ cpsI (p : Int) = [48 + p] := by decide +kernel
theorem cps_dg2 : cps "0123456789" = dgs2 := by kernel_rfl
def cDis : List Nat := cps "Disallow: /"
theorem cDis_len : cDis.length = 11 := by kernel_rfl
section
variable {sl : String → Option V} {ss : List O} {xs : List Int} {q : Fm} {r : List Fm} {n : Nat} {x : Int}
theorem t2_num (hl : L2 sl) (h : I2 ss xs (q :: r)) (b : B2 n (q :: r)) (hn : n ≤ 63) (ht : sl "top" = some (.obj q.t)) (hr : sl "rest" = some (.int x)) {Q : Fl → St → Prop} (hQ : ∀ ss' f, I2 ss' xs ({ q with cs := f } :: r) → B2 (n + 1) ({ q with cs := f } :: r) → Q .next ⟨sl, ss'⟩) : wp (seqF l02s23 (seqF l02s15 l02s16)) ⟨sl, ss⟩ Q := by
  obtain ⟨p, hp, hpe⟩ := mod10 x
  obtain ⟨e1, e2⟩ := dg_ok p (List.mem_range.mpr hp)
  have hm := b.m
  have hvl : q.cs.vals.length ≤ 1000000 := by
    have := sS_txs q.cs
    rw [← txs_len]
    unfold sS at this
    have hm : Mst r + (q.cs.M + sS (lnA q.ags) + sS (lnD q.dv) + 20) ≤ 100 * n + 100 := hm
    omega
  refine t2_leaf (v := .int (p : Int)) (w := cpsI (p : Int)) (f := .num q.cs (p : Int)) hl h b hn ht rfl (by unfold Fo.lns; simp [Fo.grp]) rfl (by show q.cs.M + (cpsI (p : Int)).length + 1 ≤ _; rw [e2]; simp) (fun ss' lo hi h => ⟨h, by unfold small; rw [Bool.and_eq_true, decide_eq_true_eq, decide_eq_true_eq]; omega⟩) ?_ ?_ fun ss' a b => hQ ss' _ a b
  · intro B Q2 as gt g1 g2 gR hq2
    have i0 : ∀ (loc : String → Option V) (Q2 : V → St → Prop), wp (pItem (.obj q.t) (.int 0)) ⟨loc, B⟩ Q2 = Q2 (.obj q.i) ⟨loc, B⟩ := fun loc Q2 => wL_item (k := 0) gt (by simp) rfl
    unfold l02s15
    simp only [wp_bind, wp_pure, wp_seq', wp_ite, wp_and, wp_or, wp_setL, wp_allocList, wp_allocTuple, wp_alloc, wpE_get, wpE_mod, wpE_div, wpE_pow, wpE_iaddS, wpE_iaddI, wpE_addS, wp_add, wp_sub, wp_neg, wpE_lt, wpE_le, wpE_gt, wpE_ge, wpE_eq, wpE_ne, wpE_is, wpE_isnot, isP_bool, isP_obj, eqP_int, eqP_str, wpE_in, wpE_notin, wp_truthyB, wpE_truthyI, wpE_truthyN, wpE_truthyS, wp_isStr, wpE_lenS, wpE_lenG, wpE_range1, wpE_range2, wpE_iterS, wpE_iterG, wpE_max2, wpE_min2, if_true, if_false, String.reduceEq, reduceIte, true_and, and_true, List.length_nil, List.length_cons, List.nil_append, List.cons_append, Bool.false_eq_true, decide_eq_true_eq, Nat.zero_le, Int.reduceLT, Int.reduceLE, Int.reduceNeg, Nat.reduceLeDiff, Nat.reduceAdd, ht, i0, wL_gAttr (n := "rulelines") (v := .obj q.R) g1 g2 (by intro u e; cases e), wL_isList gR, hr, hpe, wL_append gR hvl]
    exact hq2
  · intro B Q2 gt g3 hq1 hq2
    have i1 : ∀ (loc : String → Option V) (Q2 : V → St → Prop), wp (pItem (.obj q.t) (.int 1)) ⟨loc, B⟩ Q2 = Q2 (.bool q.hd) ⟨loc, B⟩ := fun loc Q2 => wL_item (k := 1) gt (by simp) rfl
    unfold l02s16
    simp only [wp_bind, wp_pure, wp_seq', wp_ite, wp_and, wp_or, wp_setL, wp_allocList, wp_allocTuple, wp_alloc, wpE_get, wpE_mod, wpE_div, wpE_pow, wpE_iaddS, wpE_iaddI, wpE_addS, wp_add, wp_sub, wp_neg, wpE_lt, wpE_le, wpE_gt, wpE_ge, wpE_eq, wpE_ne, wpE_is, wpE_isnot, isP_bool, isP_obj, eqP_int, eqP_str, wpE_in, wpE_notin, wp_truthyB, wpE_truthyI, wpE_truthyN, wpE_truthyS, wp_isStr, wpE_lenS, wpE_lenG, wpE_range1, wpE_range2, wpE_iterS, wpE_iterG, wpE_max2, wpE_min2, if_true, if_false, String.reduceEq, reduceIte, true_and, and_true, List.length_nil, List.length_cons, List.nil_append, List.cons_append, Bool.false_eq_true, decide_eq_true_eq, Nat.zero_le, Int.reduceLT, Int.reduceLE, Int.reduceNeg, Nat.reduceLeDiff, Nat.reduceAdd, ht, i1]
    cases hh : q.hd with
    | false => simp only [Bool.false_eq_true, if_false]; exact hq2 hh
    | true =>
      simp only [if_true, wp_bind, wp_pure, wp_seq', wp_ite, wp_and, wp_or, wp_setL, wp_allocList, wp_allocTuple, wp_alloc, wpE_get, wpE_mod, wpE_div, wpE_pow, wpE_iaddS, wpE_iaddI, wpE_addS, wp_add, wp_sub, wp_neg, wpE_lt, wpE_le, wpE_gt, wpE_ge, wpE_eq, wpE_ne, wpE_is, wpE_isnot, isP_bool, isP_obj, eqP_int, eqP_str, wpE_in, wpE_notin, wp_truthyB, wpE_truthyI, wpE_truthyN, wpE_truthyS, wp_isStr, wpE_lenS, wpE_lenG, wpE_range1, wpE_range2, wpE_iterS, wpE_iterG, wpE_max2, wpE_min2, if_true, if_false, String.reduceEq, reduceIte, true_and, and_true, List.length_nil, List.length_cons, List.nil_append, List.cons_append, Bool.false_eq_true, decide_eq_true_eq, Nat.zero_le, Int.reduceLT, Int.reduceLE, Int.reduceNeg, Nat.reduceLeDiff, Nat.reduceAdd, hl.l3, hl.l1, hr, hpe, wL_isList g3]
      rw [wpE_itemS (by decide) e1, wL_append g3 (by have := b.l; simp; omega)]
      simp only [wp_bind, wp_pure, wp_seq', wp_ite, wp_and, wp_or, wp_setL, wp_allocList, wp_allocTuple, wp_alloc, wpE_get, wpE_mod, wpE_div, wpE_pow, wpE_iaddS, wpE_iaddI, wpE_addS, wp_add, wp_sub, wp_neg, wpE_lt, wpE_le, wpE_gt, wpE_ge, wpE_eq, wpE_ne, wpE_is, wpE_isnot, isP_bool, isP_obj, eqP_int, eqP_str, wpE_in, wpE_notin, wp_truthyB, wpE_truthyI, wpE_truthyN, wpE_truthyS, wp_isStr, wpE_lenS, wpE_lenG, wpE_range1, wpE_range2, wpE_iterS, wpE_iterG, wpE_max2, wpE_min2, if_true, if_false, String.reduceEq, reduceIte, true_and, and_true, List.length_nil, List.length_cons, List.nil_append, List.cons_append, Bool.false_eq_true, decide_eq_true_eq, Nat.zero_le, Int.reduceLT, Int.reduceLE, Int.reduceNeg, Nat.reduceLeDiff, Nat.reduceAdd]
      have := hq1 hh
      rw [e2] at this
      simpa using this
theorem t2_txt (hl : L2 sl) (h : I2 ss xs (q :: r)) (b : B2 n (q :: r)) (hn : n ≤ 63) (ht : sl "top" = some (.obj q.t)) (hr : sl "rest" = some (.int x)) {Q : Fl → St → Prop} (hQ : ∀ ss' f, I2 ss' xs ({ q with cs := f } :: r) → B2 (n + 1) ({ q with cs := f } :: r) → Q .next ⟨sl, ss'⟩) : wp (seqF l02s23 (seqF l02s17 l02s18)) ⟨sl, ss⟩ Q := by
  obtain ⟨p, hp, hpe⟩ := mod10 x
  obtain ⟨e1, e2⟩ := dg_ok p (List.mem_range.mpr hp)
  have hm := b.m
  have hvl : q.cs.vals.length ≤ 1000000 := by
    have := sS_txs q.cs
    rw [← txs_len]
    unfold sS at this
    have hm : Mst r + (q.cs.M + sS (lnA q.ags) + sS (lnD q.dv) + 20) ≤ 100 * n + 100 := hm
    omega
  have hcl : (cps "Disallow: /").length = 11 := by kernel_rfl
  have hle : (cps "Disallow: /").length + [48 + p].length ≤ 1000000 := by rw [hcl]; simp
  refine t2_leaf (v := .str (cDis ++ [48 + p])) (w := cDis ++ [48 + p]) (f := .txt q.cs (cDis ++ [48 + p])) hl h b hn ht rfl (by unfold Fo.lns; simp [Fo.grp]) rfl (by show q.cs.M + (cDis ++ [48 + p]).length + 1 ≤ _; rw [List.length_append, cDis_len]; simp) (fun ss' lo hi h => ⟨h, by rw [List.length_append, cDis_len]; simp⟩) ?_ ?_ fun ss' a b => hQ ss' _ a b
  · intro B Q2 as gt g1 g2 gR hq2
    have i0 : ∀ (loc : String → Option V) (Q2 : V → St → Prop), wp (pItem (.obj q.t) (.int 0)) ⟨loc, B⟩ Q2 = Q2 (.obj q.i) ⟨loc, B⟩ := fun loc Q2 => wL_item (k := 0) gt (by simp) rfl
    unfold l02s17
    simp only [wp_bind, wp_pure, wp_seq', wp_ite, wp_and, wp_or, wp_setL, wp_allocList, wp_allocTuple, wp_alloc, wpE_get, wpE_mod, wpE_div, wpE_pow, wpE_iaddS, wpE_iaddI, wpE_addS, wp_add, wp_sub, wp_neg, wpE_lt, wpE_le, wpE_gt, wpE_ge, wpE_eq, wpE_ne, wpE_is, wpE_isnot, isP_bool, isP_obj, eqP_int, eqP_str, wpE_in, wpE_notin, wp_truthyB, wpE_truthyI, wpE_truthyN, wpE_truthyS, wp_isStr, wpE_lenS, wpE_lenG, wpE_range1, wpE_range2, wpE_iterS, wpE_iterG, wpE_max2, wpE_min2, if_true, if_false, String.reduceEq, reduceIte, true_and, and_true, List.length_nil, List.length_cons, List.nil_append, List.cons_append, Bool.false_eq_true, decide_eq_true_eq, Nat.zero_le, Int.reduceLT, Int.reduceLE, Int.reduceNeg, Nat.reduceLeDiff, Nat.reduceAdd, ht, i0, wL_gAttr (n := "rulelines") (v := .obj q.R) g1 g2 (by intro u e; cases e), wL_isList gR, hr, hl.l1, hpe]
    rw [wpE_itemS (by decide) e1, wpE_addS]
    refine ⟨hle, ?_⟩
    rw [wL_append gR hvl]
    exact hq2
  · intro B Q2 gt g3 hq1 hq2
    have i1 : ∀ (loc : String → Option V) (Q2 : V → St → Prop), wp (pItem (.obj q.t) (.int 1)) ⟨loc, B⟩ Q2 = Q2 (.bool q.hd) ⟨loc, B⟩ := fun loc Q2 => wL_item (k := 1) gt (by simp) rfl
    unfold l02s18
    simp only [wp_bind, wp_pure, wp_seq', wp_ite, wp_and, wp_or, wp_setL, wp_allocList, wp_allocTuple, wp_alloc, wpE_get, wpE_mod, wpE_div, wpE_pow, wpE_iaddS, wpE_iaddI, wpE_addS, wp_add, wp_sub, wp_neg, wpE_lt, wpE_le, wpE_gt, wpE_ge, wpE_eq, wpE_ne, wpE_is, wpE_isnot, isP_bool, isP_obj, eqP_int, eqP_str, wpE_in, wpE_notin, wp_truthyB, wpE_truthyI, wpE_truthyN, wpE_truthyS, wp_isStr, wpE_lenS, wpE_lenG, wpE_range1, wpE_range2, wpE_iterS, wpE_iterG, wpE_max2, wpE_min2, if_true, if_false, String.reduceEq, reduceIte, true_and, and_true, List.length_nil, List.length_cons, List.nil_append, List.cons_append, Bool.false_eq_true, decide_eq_true_eq, Nat.zero_le, Int.reduceLT, Int.reduceLE, Int.reduceNeg, Nat.reduceLeDiff, Nat.reduceAdd, ht, i1]
    cases hh : q.hd with
    | false => simp only [Bool.false_eq_true, if_false]; exact hq2 hh
    | true =>
      simp only [if_true, wp_bind, wp_pure, wp_seq', wp_ite, wp_and, wp_or, wp_setL, wp_allocList, wp_allocTuple, wp_alloc, wpE_get, wpE_mod, wpE_div, wpE_pow, wpE_iaddS, wpE_iaddI, wpE_addS, wp_add, wp_sub, wp_neg, wpE_lt, wpE_le, wpE_gt, wpE_ge, wpE_eq, wpE_ne, wpE_is, wpE_isnot, isP_bool, isP_obj, eqP_int, eqP_str, wpE_in, wpE_notin, wp_truthyB, wpE_truthyI, wpE_truthyN, wpE_truthyS, wp_isStr, wpE_lenS, wpE_lenG, wpE_range1, wpE_range2, wpE_iterS, wpE_iterG, wpE_max2, wpE_min2, if_true, if_false, String.reduceEq, reduceIte, true_and, and_true, List.length_nil, List.length_cons, List.nil_append, List.cons_append, Bool.false_eq_true, decide_eq_true_eq, Nat.zero_le, Int.reduceLT, Int.reduceLE, Int.reduceNeg, Nat.reduceLeDiff, Nat.reduceAdd, hl.l3, hl.l1, hr, hpe, wL_isList g3]
      rw [wpE_itemS (by decide) e1, wpE_addS]
      refine ⟨hle, ?_⟩
      rw [wL_append g3 (by have := b.l; simp; omega)]
      simp only [wp_bind, wp_pure, wp_seq', wp_ite, wp_and, wp_or, wp_setL, wp_allocList, wp_allocTuple, wp_alloc, wpE_get, wpE_mod, wpE_div, wpE_pow, wpE_iaddS, wpE_iaddI, wpE_addS, wp_add, wp_sub, wp_neg, wpE_lt, wpE_le, wpE_gt, wpE_ge, wpE_eq, wpE_ne, wpE_is, wpE_isnot, isP_bool, isP_obj, eqP_int, eqP_str, wpE_in, wpE_notin, wp_truthyB, wpE_truthyI, wpE_truthyN, wpE_truthyS, wp_isStr, wpE_lenS, wpE_lenG, wpE_range1, wpE_range2, wpE_iterS, wpE_iterG, wpE_max2, wpE_min2, if_true, if_false, String.reduceEq, reduceIte, true_and, and_true, List.length_nil, List.length_cons, List.nil_append, List.cons_append, Bool.false_eq_true, decide_eq_true_eq, Nat.zero_le, Int.reduceLT, Int.reduceLE, Int.reduceNeg, Nat.reduceLeDiff, Nat.reduceAdd]
      have := hq1 hh
      simpa [cDis] using this
end
def agOf (m : Int) : List (List Nat) := if m = 0 then [] else if m = 1 then [[102, 105, 103]] else [[102, 105, 103], [42]]
theorem cps_fig2 : cps "fig" = [102, 105, 103] := by kernel_rfl
theorem agOf_ok (m : Int) : (agOf m).length ≤ 2 ∧ (∀ g ∈ agOf m, g.length ≤ 5) ∧ sS (lnA (agOf m)) ≤ 40 := by
  unfold agOf
  split
  · decide +kernel
  · split <;> decide +kernel
theorem cut3 {m : Int} (h : m = 0 ∨ m = 1 ∨ m = 2) : cut [V.str [102, 105, 103], V.str [42]] none (some m) = (agOf m).map V.str := by
  rcases h with rfl | rfl | rfl <;> rfl
def dOf2 (b : Bool) : Option Int := if b then some 0 else none
theorem dOf2_ok (b : Bool) : (dOf2 b = none ∨ dOf2 b = some 0) ∧ sS (lnD (dOf2 b)) ≤ 20 ∧ (∀ d, dOf2 b = some d → small d = true) := by
  cases b
  · exact ⟨.inl rfl, by decide, fun d e => by cases e⟩
  · exact ⟨.inr rfl, by decide +kernel, fun d e => by cases e; decide⟩
section
variable {sl : String → Option V} {ss : List O} {xs : List Int} {q : Fm} {r : List Fm} {n : Nat} {x : Int}
/-- the lines of a record that is opened -/
theorem t2_lines {E : List O} {hd' bd : Bool} {ls ags : List (List Nat)} {as : List (String × V)} {i0 U : Nat} {c : V} (hl : L2 sl) (hone : sl "one" = some (.obj i0)) (ht : sl "top" = some (.obj q.t)) (hr : sl "rest" = some (.int x)) (hh : sl "heard" = some (.bool hd')) (hbd : bd = decide (x / 3 % 2 = 1)) (gt : E[q.t]? = some (.list [.obj q.i, .bool q.hd, c])) (g3 : E[3]? = some (.list (ls.map V.str))) (gi : E[i0]? = some (.inst as)) (au : as.lookup "useragents" = some (.obj U)) (gU : E[U]? = some (.list (ags.map V.str)))
    (hag : hd' = true → ags ≠ []) (hga : ∀ g ∈ ags, g.length ≤ 5) (hal : ags.length ≤ 2) (hll : ls.length ≤ 1000) {Q : Fl → St → Prop}
    (hQ : ∀ F, E.length ≤ F.length → F[3]? = some (.list ((ls ++ if hd' then lnA ags ++ lnD (dOf2 bd) else if q.hd then [[]] else []).map V.str)) → (∀ j o, j ≠ 3 → E[j]? = some o → F[j]? = some o) → Q .next ⟨sl, F⟩) : wp l02s13 ⟨sl, E⟩ Q := by
  have i1 : ∀ (loc : String → Option V) (Q2 : V → St → Prop), wp (pItem (.obj q.t) (.int 1)) ⟨loc, E⟩ Q2 = Q2 (.bool q.hd) ⟨loc, E⟩ := fun loc Q2 => wL_item (k := 1) gt (by simp) rfl
  have hul : (cps "User-agent: ").length = 12 := by kernel_rfl
  unfold l02s13
  rw [wp_ite]
  simp only [wp_bind, wpE_get, hh, wp_truthyB]
  cases hd' with
  | false =>
    simp only [Bool.false_eq_true, if_false]
    rw [wp_ite]
    simp only [wp_bind, wp_pure, wpE_get, ht, i1, wp_truthyB]
    cases hq : q.hd with
    | false =>
      simp only [Bool.false_eq_true, if_false]
      refine hQ E (Nat.le_refl _) ?_ fun j o _ e => e
      rw [g3, hq]; simp
    | true =>
      simp only [if_true, hl.l3, wL_isList g3, cps_e, wL_append g3 (show _ ≤ 1000000 by simp; omega)]
      refine hQ _ (by simp) ?_ fun j o hj e => get_set_other e (Ne.symm hj)
      rw [get_set_here g3, hq]; simp
  | true =>
    simp only [if_true]
    rw [wp_seq']
    unfold l02s6
    simp only [wp_bind, wp_pure, wpE_get, hl.l3, wL_isList g3]
    unfold l02c5
    refine wp_comp (f := V.str) (a := .obj U) (st1 := ⟨sl, E⟩) (src := some (U, .list (ags.map V.str))) ags (fun _ => true) (fun g => .str (cUA ++ g)) ?_ ?_ (by simp) (fun p hp => by cases hp; exact gU) (by omega) (fun g hg sl' ss' hfr hpre hn => ?_) (fun sto' hp => ?_)
    · simp only [wp_bind, wp_pure, wp_seq', wp_ite, wp_and, wp_or, wp_setL, wp_allocList, wp_allocTuple, wp_alloc, wpE_get, wpE_mod, wpE_div, wpE_pow, wpE_iaddS, wpE_iaddI, wpE_addS, wp_add, wp_sub, wp_neg, wpE_lt, wpE_le, wpE_gt, wpE_ge, wpE_eq, wpE_ne, wpE_is, wpE_isnot, isP_bool, isP_obj, eqP_int, eqP_str, wpE_in, wpE_notin, wp_truthyB, wpE_truthyI, wpE_truthyN, wpE_truthyS, wp_isStr, wpE_lenS, wpE_lenG, wpE_range1, wpE_range2, wpE_iterS, wpE_iterG, wpE_max2, wpE_min2, if_true, if_false, String.reduceEq, reduceIte, true_and, and_true, List.length_nil, List.length_cons, List.nil_append, List.cons_append, Bool.false_eq_true, decide_eq_true_eq, Nat.zero_le, Int.reduceLT, Int.reduceLE, Int.reduceNeg, Nat.reduceLeDiff, Nat.reduceAdd, hone, wL_gAttr (n := "useragents") (v := .obj U) gi au (by intro u e; cases e)]
    · rw [wL_iter gU]; exact ⟨rfl, rfl⟩
    · have := hga g hg
      simp only [wp_bind, wp_pure, wp_seq', wp_ite, wp_and, wp_or, wp_setL, wp_allocList, wp_allocTuple, wp_alloc, wpE_get, wpE_mod, wpE_div, wpE_pow, wpE_iaddS, wpE_iaddI, wpE_addS, wp_add, wp_sub, wp_neg, wpE_lt, wpE_le, wpE_gt, wpE_ge, wpE_eq, wpE_ne, wpE_is, wpE_isnot, isP_bool, isP_obj, eqP_int, eqP_str, wpE_in, wpE_notin, wp_truthyB, wpE_truthyI, wpE_truthyN, wpE_truthyS, wp_isStr, wpE_lenS, wpE_lenG, wpE_range1, wpE_range2, wpE_iterS, wpE_iterG, wpE_max2, wpE_min2, if_true, if_false, String.reduceEq, reduceIte, true_and, and_true, List.length_nil, List.length_cons, List.nil_append, List.cons_append, Bool.false_eq_true, decide_eq_true_eq, Nat.zero_le, Int.reduceLT, Int.reduceLE, Int.reduceNeg, Nat.reduceLeDiff, Nat.reduceAdd, hn]
      refine ⟨hpre, fun _ => ⟨by omega, rfl, hpre⟩⟩
    · rw [filt_true]
      have eA : ags.map (fun g => V.str (cUA ++ g)) = (lnA ags).map V.str := by unfold lnA; rw [List.map_map]; rfl
      rw [eA]
      have gN : (sto' ++ [O.list ((lnA ags).map V.str)])[sto'.length]? = some (.list ((lnA ags).map V.str)) := get_app_len _ _ _
      have pG : E <+: (sto' ++ [O.list ((lnA ags).map V.str)]) := List.IsPrefix.trans hp (List.prefix_append _ _)
      generalize (sto' ++ [O.list ((lnA ags).map V.str)]) = G at gN pG
      have g3' := get_pre pG g3
      have hane : (lnA ags).map V.str ≠ [] := by
        unfold lnA
        simpa using hag rfl
      rw [wL_extNe g3' gN (by simp [lnA]; omega) hane]
      simp only [wp_bind, wp_pure, wp_seq', wp_ite, wp_and, wp_or, wp_setL, wp_allocList, wp_allocTuple, wp_alloc, wpE_get, wpE_mod, wpE_div, wpE_pow, wpE_iaddS, wpE_iaddI, wpE_addS, wp_add, wp_sub, wp_neg, wpE_lt, wpE_le, wpE_gt, wpE_ge, wpE_eq, wpE_ne, wpE_is, wpE_isnot, isP_bool, isP_obj, eqP_int, eqP_str, wpE_in, wpE_notin, wp_truthyB, wpE_truthyI, wpE_truthyN, wpE_truthyS, wp_isStr, wpE_lenS, wpE_lenG, wpE_range1, wpE_range2, wpE_iterS, wpE_iterG, wpE_max2, wpE_min2, if_true, if_false, String.reduceEq, reduceIte, true_and, and_true, List.length_nil, List.length_cons, List.nil_append, List.cons_append, Bool.false_eq_true, decide_eq_true_eq, Nat.zero_le, Int.reduceLT, Int.reduceLE, Int.reduceNeg, Nat.reduceLeDiff, Nat.reduceAdd]
      have h3 := get_set_here (o' := O.list (ls.map V.str ++ (lnA ags).map V.str)) g3'
      have hO : ∀ j o, j ≠ 3 → E[j]? = some o → (G.set 3 (O.list (ls.map V.str ++ (lnA ags).map V.str)))[j]? = some o := fun j o hj e => get_set_other (get_pre pG e) (Ne.symm hj)
      have hHl : E.length ≤ (G.set 3 (O.list (ls.map V.str ++ (lnA ags).map V.str))).length := by rw [List.length_set]; exact pG.length_le
      generalize (G.set 3 (O.list (ls.map V.str ++ (lnA ags).map V.str))) = H at h3 hO hHl
      unfold l02s7
      simp only [wp_bind, wp_pure, wp_seq', wp_ite, wp_and, wp_or, wp_setL, wp_allocList, wp_allocTuple, wp_alloc, wpE_get, wpE_mod, wpE_div, wpE_pow, wpE_iaddS, wpE_iaddI, wpE_addS, wp_add, wp_sub, wp_neg, wpE_lt, wpE_le, wpE_gt, wpE_ge, wpE_eq, wpE_ne, wpE_is, wpE_isnot, isP_bool, isP_obj, eqP_int, eqP_str, wpE_in, wpE_notin, wp_truthyB, wpE_truthyI, wpE_truthyN, wpE_truthyS, wp_isStr, wpE_lenS, wpE_lenG, wpE_range1, wpE_range2, wpE_iterS, wpE_iterG, wpE_max2, wpE_min2, if_true, if_false, String.reduceEq, reduceIte, true_and, and_true, List.length_nil, List.length_cons, List.nil_append, List.cons_append, Bool.false_eq_true, decide_eq_true_eq, Nat.zero_le, Int.reduceLT, Int.reduceLE, Int.reduceNeg, Nat.reduceLeDiff, Nat.reduceAdd, hr]
      cases hb : bd with
      | false =>
        have hx : ¬ x / 3 % 2 = 1 := by rw [hbd] at hb; simpa using hb
        simp only [hx, decide_false, Bool.false_eq_true, if_false]
        refine hQ H hHl ?_ hO
        rw [h3, hb]; simp [dOf2, lnD]
      | true =>
        have hx : x / 3 % 2 = 1 := by rw [hbd] at hb; simpa using hb
        simp only [hx, decide_true, if_true, wp_bind, wp_pure, wp_seq', wp_ite, wp_and, wp_or, wp_setL, wp_allocList, wp_allocTuple, wp_alloc, wpE_get, wpE_mod, wpE_div, wpE_pow, wpE_iaddS, wpE_iaddI, wpE_addS, wp_add, wp_sub, wp_neg, wpE_lt, wpE_le, wpE_gt, wpE_ge, wpE_eq, wpE_ne, wpE_is, wpE_isnot, isP_bool, isP_obj, eqP_int, eqP_str, wpE_in, wpE_notin, wp_truthyB, wpE_truthyI, wpE_truthyN, wpE_truthyS, wp_isStr, wpE_lenS, wpE_lenG, wpE_range1, wpE_range2, wpE_iterS, wpE_iterG, wpE_max2, wpE_min2, if_true, if_false, String.reduceEq, reduceIte, true_and, and_true, List.length_nil, List.length_cons, List.nil_append, List.cons_append, Bool.false_eq_true, decide_eq_true_eq, Nat.zero_le, Int.reduceLT, Int.reduceLE, Int.reduceNeg, Nat.reduceLeDiff, Nat.reduceAdd, hl.l3, wL_isList h3, wL_append h3 (show _ ≤ 1000000 by simp [lnA]; omega)]
        refine hQ _ (by simpa using hHl) ?_ fun j o hj e => get_set_other (hO j o hj e) (Ne.symm hj)
        rw [get_set_here h3, hb]
        have : lnD (dOf2 true) = [cps "Crawl-delay: 0"] := by decide +kernel
        simp [this]
end
end Mine
set_option linter.unusedSimpArgs false
set_option linter.unusedVariables false
namespace Mine
section
variable {sl : String → Option V} {ss : List O} {xs : List Int} {q : Fm} {r : List Fm} {n : Nat} {x : Int}
theorem t2_open (hl : L2 sl) (h : I2 ss xs (q :: r)) (b : B2 n (q :: r)) (hn : n ≤ 63) (h6 : r.length + 1 < 6) (ht : sl "top" = some (.obj q.t)) (hr : sl "rest" = some (.int x)) {Q : Fl → St → Prop} (hQ : ∀ sl' ss' st', (∀ m, m ∉ ["one", "heard"] → sl' m = sl m) → I2 ss' xs st' → B2 (n + 1) st' → Q .next ⟨sl', ss'⟩) :
    wp (seqF l02s23 (seqF l02s8 (seqF l02s9 (seqF l02s10 (seqF l02s11 (seqF l02s12 (seqF l02s13 l02s14))))))) ⟨sl, ss⟩ Q := by
  have hm := b.m
  have hbl := b.l
  have hq := h.ok.1
  have o1 := hq.o1; have o2 := hq.o2; have o3 := hq.o3; have o4 := hq.o4; have o5 := hq.o5; have o6 := hq.o6
  have eV : q.cs.vals ++ nxV none = q.cs.vals := List.append_nil _
  have gt := hq.t
  rw [eV] at gt
  obtain ⟨⟨as, w0, a1, a2, a3, a4, a5, a6⟩, oU, oR, sd⟩ := hq.e
  rw [eV] at oR
  have hvl : q.cs.vals.length ≤ 1000000 := by
    have := sS_txs q.cs
    rw [← txs_len]
    unfold sS at this
    have hm : Mst r + (q.cs.M + sS (lnA q.ags) + sS (lnD q.dv) + 20) ≤ 100 * n + 100 := hm
    omega
  have i2 : ∀ (loc : String → Option V) (Q2 : V → St → Prop), wp (pItem (.obj q.t) (.int 2)) ⟨loc, ss⟩ Q2 = Q2 (vnat q.cs.vals.length) ⟨loc, ss⟩ := fun loc Q2 => wL_item (k := 2) gt (by simp) rfl
  have s2 : ∀ (loc : String → Option V) (v : V) (Q2 : Unit → St → Prop), wp (setItemP v (.obj q.t) (.int 2)) ⟨loc, ss⟩ Q2 = Q2 () ⟨loc, ss.set q.t (.list [.obj q.i, .bool q.hd, v])⟩ := fun loc v Q2 => wL_setItem (k := 2) gt (by simp) (by simp)
  rw [wp_seq']
  unfold l02s23
  simp only [wp_bind, wp_pure, wp_seq', wp_ite, wp_and, wp_or, wp_setL, wp_allocList, wp_allocTuple, wp_alloc, wpE_get, wpE_mod, wpE_div, wpE_pow, wpE_iaddS, wpE_iaddI, wpE_addS, wp_add, wp_sub, wp_neg, wpE_lt, wpE_le, wpE_gt, wpE_ge, wpE_eq, wpE_ne, wpE_is, wpE_isnot, isP_bool, isP_obj, eqP_int, eqP_str, wpE_in, wpE_notin, wp_truthyB, wpE_truthyI, wpE_truthyN, wpE_truthyS, wp_isStr, wpE_lenS, wpE_lenG, wpE_range1, wpE_range2, wpE_iterS, wpE_iterG, wpE_max2, wpE_min2, if_true, if_false, String.reduceEq, reduceIte, true_and, and_true, List.length_nil, List.length_cons, List.nil_append, List.cons_append, Bool.false_eq_true, decide_eq_true_eq, Nat.zero_le, Int.reduceLT, Int.reduceLE, Int.reduceNeg, Nat.reduceLeDiff, Nat.reduceAdd, ht, i2, vnat, s2]
  have dt := get_set_here (o' := O.list [.obj q.i, .bool q.hd, .int ((q.cs.vals.length : Int) + 1)]) gt
  have dO : ∀ j o, j ≠ q.t → ss[j]? = some o → (ss.set q.t (O.list [.obj q.i, .bool q.hd, .int ((q.cs.vals.length : Int) + 1)]))[j]? = some o := fun j o hj e => get_set_other e (Ne.symm hj)
  have hBl : (ss.set q.t (O.list [.obj q.i, .bool q.hd, .int ((q.cs.vals.length : Int) + 1)])).length = ss.length := by simp
  generalize (ss.set q.t (O.list [.obj q.i, .bool q.hd, .int ((q.cs.vals.length : Int) + 1)])) = B at dt dO hBl
  have dt' : B[q.t]? = some (.list [.obj q.i, .bool q.hd, vnat (q.cs.vals.length + 1)]) := by rw [dt]; rfl
  have hs7 : 7 ≤ ss.length := by have := get_lt h.g6; omega
  -- the new record
  generalize hme : x % 3 = m
  have hm3 : m = 0 ∨ m = 1 ∨ m = 2 := by omega
  generalize hbd : decide (x / 3 % 2 = 1) = bd
  unfold l02s8 l02s9
  simp only [wp_bind, wp_pure, wp_seq', wp_ite, wp_and, wp_or, wp_setL, wp_allocList, wp_allocTuple, wp_alloc, wpE_get, wpE_mod, wpE_div, wpE_pow, wpE_iaddS, wpE_iaddI, wpE_addS, wp_add, wp_sub, wp_neg, wpE_lt, wpE_le, wpE_gt, wpE_ge, wpE_eq, wpE_ne, wpE_is, wpE_isnot, isP_bool, isP_obj, eqP_int, eqP_str, wpE_in, wpE_notin, wp_truthyB, wpE_truthyI, wpE_truthyN, wpE_truthyS, wp_isStr, wpE_lenS, wpE_lenG, wpE_range1, wpE_range2, wpE_iterS, wpE_iterG, wpE_max2, wpE_min2, if_true, if_false, String.reduceEq, reduceIte, true_and, and_true, List.length_nil, List.length_cons, List.nil_append, List.cons_append, Bool.false_eq_true, decide_eq_true_eq, Nat.zero_le, Int.reduceLT, Int.reduceLE, Int.reduceNeg, Nat.reduceLeDiff, Nat.reduceAdd, wE_entry, cps_fig2, cps_star, hr, hme]
  have pD : B <+: B ++ [O.inst [("useragents", V.obj (B.length + 1)), ("rulelines", V.obj (B.length + 2)), ("delay", V.none), ("req_rate", V.none)], O.list [], O.list []] ++ [O.list [V.str [102, 105, 103], V.str [42]]] := by rw [List.append_assoc]; exact List.prefix_append _ _
  rw [wL_slice (lo := none) (hi := some m) (get_app_len _ _ _) rfl rfl]
  refine ⟨by simp, ?_⟩
  rw [cut3 hm3]
  have eS : B ++ [O.inst [("useragents", V.obj (B.length + 1)), ("rulelines", V.obj (B.length + 2)), ("delay", V.none), ("req_rate", V.none)], O.list [], O.list []] ++ [O.list [V.str [102, 105, 103], V.str [42]]] ++ [O.list ((agOf m).map V.str)] = B ++ O.inst [("useragents", V.obj (B.length + 1)), ("rulelines", V.obj (B.length + 2)), ("delay", V.none), ("req_rate", V.none)] :: [O.list [], O.list [], O.list [V.str [102, 105, 103], V.str [42]], O.list ((agOf m).map V.str)] := by simp
  rw [eS]
  have eL : (B ++ [O.inst [("useragents", V.obj (B.length + 1)), ("rulelines", V.obj (B.length + 2)), ("delay", V.none), ("req_rate", V.none)], O.list [], O.list []] ++ [O.list [V.str [102, 105, 103], V.str [42]]]).length = B.length + 4 := by simp
  rw [eL]
  simp only [wp_bind, wp_pure, wp_seq', wp_ite, wp_and, wp_or, wp_setL, wp_allocList, wp_allocTuple, wp_alloc, wpE_get, wpE_mod, wpE_div, wpE_pow, wpE_iaddS, wpE_iaddI, wpE_addS, wp_add, wp_sub, wp_neg, wpE_lt, wpE_le, wpE_gt, wpE_ge, wpE_eq, wpE_ne, wpE_is, wpE_isnot, isP_bool, isP_obj, eqP_int, eqP_str, wpE_in, wpE_notin, wp_truthyB, wpE_truthyI, wpE_truthyN, wpE_truthyS, wp_isStr, wpE_lenS, wpE_lenG, wpE_range1, wpE_range2, wpE_iterS, wpE_iterG, wpE_max2, wpE_min2, if_true, if_false, String.reduceEq, reduceIte, true_and, and_true, List.length_nil, List.length_cons, List.nil_append, List.cons_append, Bool.false_eq_true, decide_eq_true_eq, Nat.zero_le, Int.reduceLT, Int.reduceLE, Int.reduceNeg, Nat.reduceLeDiff, Nat.reduceAdd, wN_sAttr, putA]
  -- the delay
  have st10 : ∀ (sl1 : String → Option V) (Q2 : Fl → St → Prop), sl1 "rest" = some (.int x) → sl1 "one" = some (.obj B.length) → Q2 .next ⟨sl1, B ++ O.inst [("useragents", V.obj (B.length + 4)), ("rulelines", V.obj (B.length + 2)), ("delay", delV (dOf2 bd)), ("req_rate", V.none)] :: [O.list [], O.list [], O.list [V.str [102, 105, 103], V.str [42]], O.list ((agOf m).map V.str)]⟩ → wp l02s10 ⟨sl1, B ++ O.inst [("useragents", V.obj (B.length + 4)), ("rulelines", V.obj (B.length + 2)), ("delay", V.none), ("req_rate", V.none)] :: [O.list [], O.list [], O.list [V.str [102, 105, 103], V.str [42]], O.list ((agOf m).map V.str)]⟩ Q2 := by
    intro sl1 Q2 c1 c2 hq2
    unfold l02s10
    simp only [wp_bind, wp_pure, wp_seq', wp_ite, wp_and, wp_or, wp_setL, wp_allocList, wp_allocTuple, wp_alloc, wpE_get, wpE_mod, wpE_div, wpE_pow, wpE_iaddS, wpE_iaddI, wpE_addS, wp_add, wp_sub, wp_neg, wpE_lt, wpE_le, wpE_gt, wpE_ge, wpE_eq, wpE_ne, wpE_is, wpE_isnot, isP_bool, isP_obj, eqP_int, eqP_str, wpE_in, wpE_notin, wp_truthyB, wpE_truthyI, wpE_truthyN, wpE_truthyS, wp_isStr, wpE_lenS, wpE_lenG, wpE_range1, wpE_range2, wpE_iterS, wpE_iterG, wpE_max2, wpE_min2, if_true, if_false, String.reduceEq, reduceIte, true_and, and_true, List.length_nil, List.length_cons, List.nil_append, List.cons_append, Bool.false_eq_true, decide_eq_true_eq, Nat.zero_le, Int.reduceLT, Int.reduceLE, Int.reduceNeg, Nat.reduceLeDiff, Nat.reduceAdd, c1]
    cases hb : bd with
    | false =>
      have hx : ¬ x / 3 % 2 = 1 := by rw [hb] at hbd; simpa using hbd
      simp only [hx, decide_false, Bool.false_eq_true, if_false]
      rw [hb] at hq2
      exact hq2
    | true =>
      have hx : x / 3 % 2 = 1 := by rw [hb] at hbd; simpa using hbd
      simp only [hx, decide_true, if_true, wp_bind, wp_pure, wp_seq', wp_ite, wp_and, wp_or, wp_setL, wp_allocList, wp_allocTuple, wp_alloc, wpE_get, wpE_mod, wpE_div, wpE_pow, wpE_iaddS, wpE_iaddI, wpE_addS, wp_add, wp_sub, wp_neg, wpE_lt, wpE_le, wpE_gt, wpE_ge, wpE_eq, wpE_ne, wpE_is, wpE_isnot, isP_bool, isP_obj, eqP_int, eqP_str, wpE_in, wpE_notin, wp_truthyB, wpE_truthyI, wpE_truthyN, wpE_truthyS, wp_isStr, wpE_lenS, wpE_lenG, wpE_range1, wpE_range2, wpE_iterS, wpE_iterG, wpE_max2, wpE_min2, if_true, if_false, String.reduceEq, reduceIte, true_and, and_true, List.length_nil, List.length_cons, List.nil_append, List.cons_append, Bool.false_eq_true, decide_eq_true_eq, Nat.zero_le, Int.reduceLT, Int.reduceLE, Int.reduceNeg, Nat.reduceLeDiff, Nat.reduceAdd, c2, wN_sAttr, putA]
      rw [hb] at hq2
      exact hq2
  refine st10 _ _ (by simpa using hr) (by simp) ?_
  dsimp only
  obtain ⟨D, hD⟩ : ∃ D, D = B ++ O.inst [("useragents", V.obj (B.length + 4)), ("rulelines", V.obj (B.length + 2)), ("delay", delV (dOf2 bd)), ("req_rate", V.none)] :: [O.list [], O.list [], O.list [V.str [102, 105, 103], V.str [42]], O.list ((agOf m).map V.str)] := ⟨_, rfl⟩
  have pBD : B <+: D := by rw [hD]; exact List.prefix_append _ _
  have gi : D[B.length]? = some (O.inst [("useragents", V.obj (B.length + 4)), ("rulelines", V.obj (B.length + 2)), ("delay", delV (dOf2 bd)), ("req_rate", V.none)]) := by rw [hD]; exact get_app_len _ _ _
  have gR2 : D[B.length + 2]? = some (O.list []) := by rw [hD, get_app_add]; rfl
  have gU2 : D[B.length + 4]? = some (O.list ((agOf m).map V.str)) := by rw [hD, get_app_add]; rfl
  have hDl : D.length = B.length + 5 := by rw [hD]; simp
  rw [← hD]
  clear st10 hD
  -- it comes among the rules
  have tD := get_pre pBD dt'
  have i0 : ∀ (loc : String → Option V) (Q2 : V → St → Prop), wp (pItem (.obj q.t) (.int 0)) ⟨loc, D⟩ Q2 = Q2 (.obj q.i) ⟨loc, D⟩ := fun loc Q2 => wL_item (k := 0) tD (by simp) rfl
  have aD := get_pre pBD (dO _ _ (by omega) a1)
  have rD := get_pre pBD (dO _ _ (by omega) oR)
  unfold l02s11
  simp only [wp_bind, wp_pure, wp_seq', wp_ite, wp_and, wp_or, wp_setL, wp_allocList, wp_allocTuple, wp_alloc, wpE_get, wpE_mod, wpE_div, wpE_pow, wpE_iaddS, wpE_iaddI, wpE_addS, wp_add, wp_sub, wp_neg, wpE_lt, wpE_le, wpE_gt, wpE_ge, wpE_eq, wpE_ne, wpE_is, wpE_isnot, isP_bool, isP_obj, eqP_int, eqP_str, wpE_in, wpE_notin, wp_truthyB, wpE_truthyI, wpE_truthyN, wpE_truthyS, wp_isStr, wpE_lenS, wpE_lenG, wpE_range1, wpE_range2, wpE_iterS, wpE_iterG, wpE_max2, wpE_min2, if_true, if_false, String.reduceEq, reduceIte, true_and, and_true, List.length_nil, List.length_cons, List.nil_append, List.cons_append, Bool.false_eq_true, decide_eq_true_eq, Nat.zero_le, Int.reduceLT, Int.reduceLE, Int.reduceNeg, Nat.reduceLeDiff, Nat.reduceAdd, ht, i0, wL_gAttr (n := "rulelines") (v := .obj q.R) aD a3 (by intro u e; cases e), wL_isList rD, wL_append rD hvl]
  have eR := get_set_here (o' := O.list (q.cs.vals ++ [V.obj B.length])) rD
  have eO : ∀ j o, j ≠ q.R → D[j]? = some o → (D.set q.R (O.list (q.cs.vals ++ [V.obj B.length])))[j]? = some o := fun j o hj e => get_set_other e (Ne.symm hj)
  have hEl : (D.set q.R (O.list (q.cs.vals ++ [V.obj B.length]))).length = ss.length + 5 := by rw [List.length_set, hDl, hBl]
  generalize (D.set q.R (O.list (q.cs.vals ++ [V.obj B.length]))) = E at eR eO hEl
  have hBn : B.length = ss.length := hBl
  have tE := eO _ _ (by omega) tD
  have i1 : ∀ (loc : String → Option V) (Q2 : V → St → Prop), wp (pItem (.obj q.t) (.int 1)) ⟨loc, E⟩ Q2 = Q2 (.bool q.hd) ⟨loc, E⟩ := fun loc Q2 => wL_item (k := 1) tE (by simp) rfl
  have giE := eO _ _ (by omega) gi
  have gUE := eO _ _ (by omega) gU2
  have gRE := eO _ _ (by omega) gR2
  -- heard
  have st12 : ∀ (sl1 : String → Option V) (Q2 : Fl → St → Prop), sl1 "top" = some (.obj q.t) → sl1 "one" = some (.obj B.length) → (∀ F, E <+: F → Q2 .next ⟨fun k => if k = "heard" then some (V.bool (q.hd && decide (agOf m ≠ []))) else sl1 k, F⟩) → wp l02s12 ⟨sl1, E⟩ Q2 := by
    intro sl1 Q2 c1 c2 hq2
    unfold l02s12
    simp only [wp_bind, wp_pure, wp_seq', wp_ite, wp_and, wp_or, wp_setL, wp_allocList, wp_allocTuple, wp_alloc, wpE_get, wpE_mod, wpE_div, wpE_pow, wpE_iaddS, wpE_iaddI, wpE_addS, wp_add, wp_sub, wp_neg, wpE_lt, wpE_le, wpE_gt, wpE_ge, wpE_eq, wpE_ne, wpE_is, wpE_isnot, isP_bool, isP_obj, eqP_int, eqP_str, wpE_in, wpE_notin, wp_truthyB, wpE_truthyI, wpE_truthyN, wpE_truthyS, wp_isStr, wpE_lenS, wpE_lenG, wpE_range1, wpE_range2, wpE_iterS, wpE_iterG, wpE_max2, wpE_min2, if_true, if_false, String.reduceEq, reduceIte, true_and, and_true, List.length_nil, List.length_cons, List.nil_append, List.cons_append, Bool.false_eq_true, decide_eq_true_eq, Nat.zero_le, Int.reduceLT, Int.reduceLE, Int.reduceNeg, Nat.reduceLeDiff, Nat.reduceAdd, c1, i1]
    cases hh : q.hd with
    | false =>
      simp only [wp_pure]
      have := hq2 E (List.prefix_refl _)
      rw [hh] at this
      simpa using this
    | true =>
      simp only [wp_bind, wp_pure, wp_seq', wp_ite, wp_and, wp_or, wp_setL, wp_allocList, wp_allocTuple, wp_alloc, wpE_get, wpE_mod, wpE_div, wpE_pow, wpE_iaddS, wpE_iaddI, wpE_addS, wp_add, wp_sub, wp_neg, wpE_lt, wpE_le, wpE_gt, wpE_ge, wpE_eq, wpE_ne, wpE_is, wpE_isnot, isP_bool, isP_obj, eqP_int, eqP_str, wpE_in, wpE_notin, wp_truthyB, wpE_truthyI, wpE_truthyN, wpE_truthyS, wp_isStr, wpE_lenS, wpE_lenG, wpE_range1, wpE_range2, wpE_iterS, wpE_iterG, wpE_max2, wpE_min2, if_true, if_false, String.reduceEq, reduceIte, true_and, and_true, List.length_nil, List.length_cons, List.nil_append, List.cons_append, Bool.false_eq_true, decide_eq_true_eq, Nat.zero_le, Int.reduceLT, Int.reduceLE, Int.reduceNeg, Nat.reduceLeDiff, Nat.reduceAdd, c2, wL_gAttr (n := "useragents") (v := .obj (B.length + 4)) giE rfl (by intro u e; cases e)]
      have gN : (E ++ [O.list []])[E.length]? = some (.list []) := get_app_len _ _ _
      have pN : E <+: E ++ [O.list []] := List.prefix_append _ _
      have := hq2 _ pN
      rw [hh] at this
      rw [eqL_strs (b := []) (get_pre pN gUE) gN]
      simpa using this
  refine st12 _ _ (by simpa using ht) (by simp) fun F pF => ?_
  dsimp only
  have g3F : F[3]? = some (.list ((plines (q :: r)).map V.str)) := get_pre pF (eO _ _ (Ne.symm hq.n3.1) (get_pre pBD (dO _ _ (Ne.symm hq.n4.1) h.g3)))
  have hFl := pF.length_le
  generalize hhd : (q.hd && decide (agOf m ≠ [])) = hd'
  obtain ⟨k1, k2, k3⟩ := agOf_ok m
  obtain ⟨d1, d2, d3⟩ := dOf2_ok bd
  refine t2_lines (q := q) (x := x) (E := F) (hd' := hd') (bd := bd) (ls := plines (q :: r)) (ags := agOf m) (i0 := B.length) (U := B.length + 4) ?_ (by simp) (by simpa using ht) (by simpa using hr) (by simp) hbd.symm (get_pre pF tE) g3F (get_pre pF giE) rfl (get_pre pF gUE) (fun e => ?_) k2 k1 (by omega) fun G hGl g3G kG => ?_
  · refine hl.upd fun mm hmm => ?_
    have h1 : mm ≠ "heard" := by rintro rfl; revert hmm; decide
    have h2 : mm ≠ "one" := by rintro rfl; revert hmm; decide
    simp [h1, h2]
  · rw [← hhd] at e
    simp at e
    exact e.2
  dsimp only
  -- it is opened
  have kSG : ∀ j o, j ≠ 3 → j ≠ q.R → j ≠ q.t → ss[j]? = some o → G[j]? = some o := fun j o x3 xR xt e => kG j o x3 (get_pre pF (eO j o xR (get_pre pBD (dO j o xt e))))
  have kEG : ∀ j o, j ≠ 3 → E[j]? = some o → G[j]? = some o := fun j o x3 e => kG j o x3 (get_pre pF e)
  have g5 := kSG _ _ (by decide) (Ne.symm hq.n3.2.1) (Ne.symm hq.n4.2.1) h.g5
  have hrl : (q :: r).reverse.length ≤ 6 := by have := h.ln; simp at this ⊢; omega
  unfold l02s14
  simp only [wp_bind, wp_pure, wp_seq', wp_ite, wp_and, wp_or, wp_setL, wp_allocList, wp_allocTuple, wp_alloc, wpE_get, wpE_mod, wpE_div, wpE_pow, wpE_iaddS, wpE_iaddI, wpE_addS, wp_add, wp_sub, wp_neg, wpE_lt, wpE_le, wpE_gt, wpE_ge, wpE_eq, wpE_ne, wpE_is, wpE_isnot, isP_bool, isP_obj, eqP_int, eqP_str, wpE_in, wpE_notin, wp_truthyB, wpE_truthyI, wpE_truthyN, wpE_truthyS, wp_isStr, wpE_lenS, wpE_lenG, wpE_range1, wpE_range2, wpE_iterS, wpE_iterG, wpE_max2, wpE_min2, if_true, if_false, String.reduceEq, reduceIte, true_and, and_true, List.length_nil, List.length_cons, List.nil_append, List.cons_append, Bool.false_eq_true, decide_eq_true_eq, Nat.zero_le, Int.reduceLT, Int.reduceLE, Int.reduceNeg, Nat.reduceLeDiff, Nat.reduceAdd, hl.l5, wL_isList g5]
  have pH : G <+: G ++ [O.list [V.obj B.length, V.bool hd', V.int 0]] := List.prefix_append _ _
  have gH : (G ++ [O.list [V.obj B.length, V.bool hd', V.int 0]])[G.length]? = some (O.list [V.obj B.length, V.bool hd', V.int 0]) := get_app_len _ _ _
  have hHl : (G ++ [O.list [V.obj B.length, V.bool hd', V.int 0]]).length = G.length + 1 := by simp
  generalize (G ++ [O.list [V.obj B.length, V.bool hd', V.int 0]]) = H at pH gH hHl
  rw [wL_append (get_pre pH g5) (by rw [List.length_map]; omega)]
  simp only [wp_bind, wp_pure, wp_seq', wp_ite, wp_and, wp_or, wp_setL, wp_allocList, wp_allocTuple, wp_alloc, wpE_get, wpE_mod, wpE_div, wpE_pow, wpE_iaddS, wpE_iaddI, wpE_addS, wp_add, wp_sub, wp_neg, wpE_lt, wpE_le, wpE_gt, wpE_ge, wpE_eq, wpE_ne, wpE_is, wpE_isnot, isP_bool, isP_obj, eqP_int, eqP_str, wpE_in, wpE_notin, wp_truthyB, wpE_truthyI, wpE_truthyN, wpE_truthyS, wp_isStr, wpE_lenS, wpE_lenG, wpE_range1, wpE_range2, wpE_iterS, wpE_iterG, wpE_max2, wpE_min2, if_true, if_false, String.reduceEq, reduceIte, true_and, and_true, List.length_nil, List.length_cons, List.nil_append, List.cons_append, Bool.false_eq_true, decide_eq_true_eq, Nat.zero_le, Int.reduceLT, Int.reduceLE, Int.reduceNeg, Nat.reduceLeDiff, Nat.reduceAdd]
  have kHI : ∀ j o, j ≠ 5 → H[j]? = some o → (H.set 5 (O.list ((q :: r).reverse.map (fun p => V.obj p.t) ++ [V.obj G.length])))[j]? = some o := fun j o hj e => get_set_other e (Ne.symm hj)
  have i5 := get_set_here (o' := O.list ((q :: r).reverse.map (fun p => V.obj p.t) ++ [V.obj G.length])) (get_pre pH g5)
  have hIl : (H.set 5 (O.list ((q :: r).reverse.map (fun p => V.obj p.t) ++ [V.obj G.length]))).length = G.length + 1 := by rw [List.length_set, hHl]
  generalize (H.set 5 (O.list ((q :: r).reverse.map (fun p => V.obj p.t) ++ [V.obj G.length]))) = I at kHI i5 hIl
  have kk : ∀ j o, j < ss.length → j ≠ 3 → j ≠ 5 → j ≠ q.R → j ≠ q.t → ss[j]? = some o → I[j]? = some o := fun j o _ x3 x5 xR xt e => kHI j o x5 (get_pre pH (kSG j o x3 xR xt e))
  have kE : ∀ j o, j ≠ 3 → j ≠ 5 → E[j]? = some o → I[j]? = some o := fun j o x3 x5 e => kHI j o x5 (get_pre pH (kEG j o x3 e))
  have hGe : ss.length + 5 ≤ G.length := by omega
  refine hQ _ I (⟨B.length, B.length + 4, B.length + 2, G.length, agOf m, dOf2 bd, hd', .nil⟩ :: q :: r) (fun mm hmm => ?_) ⟨⟨?_, ?_, ?_⟩, ?_, ?_, ?_, ?_, ?_⟩ ⟨?_, ?_⟩
  · simp only [List.mem_cons, List.not_mem_nil, or_false, not_or] at hmm
    simp [hmm]
  · refine ⟨⟨⟨_, .none, kE _ _ (by show B.length ≠ 3; omega) (by show B.length ≠ 5; omega) giE, rfl, rfl, rfl, rfl, rfl⟩, kE _ _ (by show B.length + 4 ≠ 3; omega) (by show B.length + 4 ≠ 5; omega) gUE, kE _ _ (by show B.length + 2 ≠ 3; omega) (by show B.length + 2 ≠ 5; omega) gRE, d3⟩, kHI _ _ (by show G.length ≠ 5; omega) gH, by show B.length < B.length + 4; omega, by show B.length < B.length + 2; omega, by show B.length + 4 < G.length; omega, by show B.length + 2 < G.length; omega, by show B.length + 4 ≠ B.length + 2; omega, by show G.length < I.length; omega, by show B.length ≠ 3 ∧ B.length ≠ 5; omega, by show B.length + 4 ≠ 3 ∧ B.length + 4 ≠ 5; omega, by show B.length + 2 ≠ 3 ∧ B.length + 2 ≠ 5 ∧ B.length + 2 ≠ 6; omega, by show G.length ≠ 3 ∧ G.length ≠ 5 ∧ G.length ≠ 6; omega, fun _ => by show 7 ≤ B.length; omega, trivial, hhd.symm, by show 0 + (r.length + 1) ≤ 5; omega, k1, k2, d1⟩
  · show FmOk I B.length (some B.length) q r
    rw [hBn]
    have hq' := fm_add (f := q.cs) (nx := some ss.length) (v := .obj ss.length) (hi' := ss.length) (ss' := I) hq rfl (by rw [← hBn]; exact kE _ _ hq.n3.1 hq.n3.2.1 eR) (kE _ _ hq.n4.1 hq.n4.2.1 tE) kk (cs_keep hq kk) (Nat.le_refl _) (Nat.le_refl _)
    exact hq'
  · exact st_keep (q := q) hq h.ok.2 kk
  · rw [kHI _ _ (by decide) (get_pre pH g3G)]
    show _ = some (O.list ((plines (q :: r) ++ own q.hd ⟨B.length, B.length + 4, B.length + 2, G.length, agOf m, dOf2 bd, hd', .nil⟩).map V.str))
    unfold own
    dsimp only
    have : Fo.nil.lns = [] := rfl
    rw [this, List.append_nil]
  · rw [i5]; simp
  · exact kHI _ _ (by decide) (get_pre pH (kSG _ _ (by decide) (Ne.symm hq.n3.2.2) (Ne.symm hq.n4.2.2) h.g6))
  · obtain ⟨p0, x1, x2, x3, x4⟩ := h.ro
    exact ⟨p0, by simpa [List.getLast?_cons_cons] using x1, x2, x3, x4⟩
  · show r.length + 1 + 1 ≤ 6; omega
  · show Mst (q :: r) + (0 + sS (lnA (agOf m)) + sS (lnD (dOf2 bd)) + 20) ≤ _
    omega
  · show (plines (q :: r) ++ own q.hd ⟨B.length, B.length + 4, B.length + 2, G.length, agOf m, dOf2 bd, hd', .nil⟩).length ≤ _
    have : (own q.hd ⟨B.length, B.length + 4, B.length + 2, G.length, agOf m, dOf2 bd, hd', .nil⟩).length ≤ 3 := by
      unfold own
      dsimp only
      have e : Fo.nil.lns = [] := rfl
      rw [e, List.append_nil]
      have hd1 : (lnD (dOf2 bd)).length ≤ 1 := by cases bd <;> simp [dOf2, lnD]
      split
      · unfold lnA; simp only [List.length_append, List.length_map]; omega
      · split <;> simp
    rw [List.length_append]
    omega
end
end Mine
set_option linter.unusedSimpArgs false
set_option linter.unusedVariables false
namespace Mine
section
variable {sl : String → Option V} {ss : List O} {xs : List Int} {q : Fm} {r : List Fm} {n : Nat} {x : Int}
theorem s23_eq {T i c : Nat} {hd : Bool} (ht : sl "top" = some (.obj T)) (gT : ss[T]? = some (.list [.obj i, .bool hd, vnat c])) {Q : Fl → St → Prop} : wp l02s23 ⟨sl, ss⟩ Q = Q .next ⟨sl, ss.set T (.list [.obj i, .bool hd, .int ((c : Int) + 1)])⟩ := by
  have i2 : ∀ (loc : String → Option V) (Q2 : V → St → Prop), wp (pItem (.obj T) (.int 2)) ⟨loc, ss⟩ Q2 = Q2 (vnat c) ⟨loc, ss⟩ := fun loc Q2 => wL_item (k := 2) gT (by simp) rfl
  have s2 : ∀ (loc : String → Option V) (v : V) (Q2 : Unit → St → Prop), wp (setItemP v (.obj T) (.int 2)) ⟨loc, ss⟩ Q2 = Q2 () ⟨loc, ss.set T (.list [.obj i, .bool hd, v])⟩ := fun loc v Q2 => wL_setItem (k := 2) gT (by simp) (by simp)
  unfold l02s23
  simp only [wp_bind, wp_pure, wp_seq', wp_ite, wp_and, wp_or, wp_setL, wp_allocList, wp_allocTuple, wp_alloc, wpE_get, wpE_mod, wpE_div, wpE_pow, wpE_iaddS, wpE_iaddI, wpE_addS, wp_add, wp_sub, wp_neg, wpE_lt, wpE_le, wpE_gt, wpE_ge, wpE_eq, wpE_ne, wpE_is, wpE_isnot, isP_bool, isP_obj, eqP_int, eqP_str, wpE_in, wpE_notin, wp_truthyB, wpE_truthyI, wpE_truthyN, wpE_truthyS, wp_isStr, wpE_lenS, wpE_lenG, wpE_range1, wpE_range2, wpE_iterS, wpE_iterG, wpE_max2, wpE_min2, if_true, if_false, String.reduceEq, reduceIte, true_and, and_true, List.length_nil, List.length_cons, List.nil_append, List.cons_append, Bool.false_eq_true, decide_eq_true_eq, Nat.zero_le, Int.reduceLT, Int.reduceLE, Int.reduceNeg, Nat.reduceLeDiff, Nat.reduceAdd, ht, i2, vnat, s2]
theorem t2_pick {T i c : Nat} {hd : Bool} {m : PM Fl} {o5 : O} (ht : sl "top" = some (.obj T)) (gT : ss[T]? = some (.list [.obj i, .bool hd, vnat c])) (hT : T ≠ 5) (g5 : ss[5]? = some o5) {Q : Fl → St → Prop} (h : ∀ ss', ss'[5]? = some o5 → wp m ⟨sl, ss'⟩ Q → wp l02s24 ⟨sl, ss'⟩ Q) (hm : wp (seqF l02s23 m) ⟨sl, ss⟩ Q) : wp (seqF l02s23 l02s24) ⟨sl, ss⟩ Q := by
  rw [wp_seq', s23_eq ht gT] at hm ⊢
  exact h _ (get_set_other g5 hT) hm
/-- one number of the script -/
theorem t2_turn {st : List Fm} (hl : L2 sl) (h : I2 ss xs st) (b : B2 n st) (hn : n ≤ 63) (hx : sl "x" = some (.int x)) {Q : Fl → St → Prop}
    (hQ : ∀ f sl' ss' st', (f = .next ∨ f = .cont) → L2 sl' → I2 ss' xs st' → B2 (n + 1) st' → Q f ⟨sl', ss'⟩) : wp l02f25 ⟨sl, ss⟩ Q := by
  obtain ⟨q, r, rfl⟩ : ∃ q r, st = q :: r := by
    obtain ⟨p, hp, _⟩ := h.ro
    cases st with
    | nil => cases hp
    | cons q r => exact ⟨q, r, rfl⟩
  have hln := h.ln
  rw [List.length_cons] at hln
  have g5 := h.g5
  rw [List.reverse_cons, List.map_append] at g5
  have e5 : ∀ (loc : String → Option V) (Q2 : V → St → Prop), wp (pItem (.obj 5) (.int (-1))) ⟨loc, ss⟩ Q2 = Q2 (.obj q.t) ⟨loc, ss⟩ := fun loc Q2 => wL_last g5 (by simp; omega)
  unfold l02f25 l02s19 l02s20 l02s21
  rw [wp_seq']
  simp only [wp_bind, wp_pure, wpE_get, hx, wpE_mod, wp_setL, Int.reduceLT, Int.reduceNeg, ne_eq, true_and, not_false_eq_true, reduceCtorEq, String.reduceEq, if_false, if_true, reduceIte]
  rw [wp_seq']
  simp only [wp_bind, wp_pure, wpE_get, hx, wpE_div, wp_setL, String.reduceEq, if_false, if_true, reduceIte]
  rw [wp_seq']
  simp only [wp_bind, wp_pure, wpE_get, hl.l5, wp_neg, Int.reduceNeg, e5, wp_setL, String.reduceEq, if_false, if_true, reduceIte]
  have hl' : L2 (fun k => if k = "top" then some (V.obj q.t) else if k = "rest" then some (V.int (x / 4)) else if k = "step" then some (V.int (x % 4)) else sl k) := hl.upd fun m hm => by
    have h1 : m ≠ "rest" := by rintro rfl; revert hm; decide
    have h2 : m ≠ "step" := by rintro rfl; revert hm; decide
    have h3 : m ≠ "top" := by rintro rfl; revert hm; decide
    simp [h1, h2, h3]
  have hr' : (fun k => if k = "top" then some (V.obj q.t) else if k = "rest" then some (V.int (x / 4)) else if k = "step" then some (V.int (x % 4)) else sl k) "rest" = some (.int (x / 4)) := by simp
  have hs' : (fun k => if k = "top" then some (V.obj q.t) else if k = "rest" then some (V.int (x / 4)) else if k = "step" then some (V.int (x % 4)) else sl k) "step" = some (.int (x % 4)) := by simp
  have ht' : (fun k => if k = "top" then some (V.obj q.t) else if k = "rest" then some (V.int (x / 4)) else if k = "step" then some (V.int (x % 4)) else sl k) "top" = some (.obj q.t) := by simp
  generalize x % 4 = sp at hs' hl' hr' ht'
  generalize (fun k => if k = "top" then some (V.obj q.t) else if k = "rest" then some (V.int (x / 4)) else if k = "step" then some (V.int sp) else sl k) = sl1 at hl' hr' hs' ht'
  have len5 : ∀ (B : List O) (Q2 : V → St → Prop), B[5]? = some (O.list ((q :: r).reverse.map fun p => .obj p.t)) → wp (cLen [.obj 5]) ⟨sl1, B⟩ Q2 = Q2 (.int ((r.length + 1 : Nat) : Int)) ⟨sl1, B⟩ := fun B Q2 g => by rw [wL_len g (by simp; omega)]; simp
  refine ⟨by decide, ?_⟩
  rw [wp_seq']
  unfold l02s22
  rw [wp_ite]
  simp only [wp_bind, wp_pure, wpE_get, hs', wpE_eq, eqP_int, wp_truthyB]
  by_cases q3 : sp = 3
  · simp only [q3, decide_true, if_true]
    rw [wp_seq']
    unfold l02s3
    rw [wp_ite]
    simp only [wp_bind, wp_pure, wpE_get, hl'.l5, len5 ss _ h.g5, wpE_gt, wp_truthyB]
    cases r with
    | nil =>
      simp only [List.length_nil, Nat.zero_add, Int.cast_ofNat_Int, Int.lt_irrefl, decide_false, Bool.false_eq_true, if_false]
      unfold l02s4
      simp only [wp_pure]
      exact hQ .cont sl1 ss _ (.inr rfl) hl' h ⟨by have := b.m; omega, by have := b.l; omega⟩
    | cons p r =>
      have hgt : (1 : Int) < ((p :: r).length + 1 : Nat) := by rw [List.length_cons]; omega
      simp only [hgt, decide_true, if_true]
      refine t2_close hl' h b hn ht' fun ss' h1 h2 => ?_
      unfold l02s4
      simp only [wp_pure]
      exact hQ .cont sl1 ss' _ (.inr rfl) hl' h1 h2
  · simp only [q3, decide_false, Bool.false_eq_true, if_false]
    have hq := h.ok.1
    have pick : ∀ {m : PM Fl}, (∀ ss', ss'[5]? = some (O.list ((q :: r).reverse.map fun p => .obj p.t)) → wp m ⟨sl1, ss'⟩ Q → wp l02s24 ⟨sl1, ss'⟩ Q) → wp (seqF l02s23 m) ⟨sl1, ss⟩ Q → wp (seqF l02s23 l02s24) ⟨sl1, ss⟩ Q := fun hp hm => t2_pick ht' hq.t hq.n4.2.1 h.g5 hp hm
    by_cases q0 : sp = 0 ∧ r.length + 1 < 6
    · refine pick (m := seqF l02s8 (seqF l02s9 (seqF l02s10 (seqF l02s11 (seqF l02s12 (seqF l02s13 l02s14)))))) (fun ss' g hm => ?_) ?_
      · unfold l02s24
        rw [wp_ite, wp_and]
        simp only [wp_bind, wp_pure, wpE_get, hs', wpE_eq, eqP_int, wp_truthyB, q0.1, decide_true, if_true]
        rw [wp_and]
        simp only [wp_bind, wp_pure, wpE_get, hl'.l5, len5 ss' _ g, wpE_lt, wp_truthyB]
        have : ((r.length + 1 : Nat) : Int) < 6 := by omega
        simp only [this, decide_true, if_true, wp_pure]
        exact hm
      · refine t2_open hl' h b hn q0.2 ht' hr' fun sl2 ss2 st2 k2 h1 h2 => hQ .next sl2 ss2 st2 (.inl rfl) (hl'.upd fun m hm => k2 m ?_) h1 h2
        intro hc
        simp only [List.mem_cons, List.not_mem_nil, or_false] at hc
        rcases hc with rfl | rfl <;> revert hm <;> decide
    · have els : ∀ {m : PM Fl} {ss' : List O}, ss'[5]? = some (O.list ((q :: r).reverse.map fun p => .obj p.t)) → wp (iteP (PM.bind (getL "step") fun a => PM.bind (PM.pure (.int 2)) fun b => PM.bind (pEq a b) pTruthy) (seqF l02s15 l02s16) (seqF l02s17 l02s18)) ⟨sl1, ss'⟩ Q → wp l02s24 ⟨sl1, ss'⟩ Q := by
        intro m ss' g hm
        unfold l02s24
        rw [wp_ite, wp_and]
        simp only [wp_bind, wp_pure, wpE_get, hs', wpE_eq, eqP_int, wp_truthyB]
        by_cases z : sp = 0
        · have : ¬ ((r.length + 1 : Nat) : Int) < 6 := by omega
          simp only [z, decide_true, if_true]
          rw [wp_and]
          simp only [wp_bind, wp_pure, wpE_get, hl'.l5, len5 ss' _ g, wpE_lt, wp_truthyB, this, decide_false, Bool.false_eq_true, if_false]
          exact hm
        · simp only [z, decide_false, Bool.false_eq_true, if_false]
          exact hm
      by_cases q2 : sp = 2
      · refine pick (m := seqF l02s15 l02s16) (fun ss' g hm => els (m := l02s1) g ?_) ?_
        · rw [wp_ite]
          simp only [wp_bind, wp_pure, wpE_get, hs', wpE_eq, eqP_int, wp_truthyB, q2, decide_true, if_true]
          exact hm
        · exact t2_num hl' h b hn ht' hr' fun ss2 f h1 h2 => hQ .next sl1 ss2 _ (.inl rfl) hl' h1 h2
      · refine pick (m := seqF l02s17 l02s18) (fun ss' g hm => els (m := l02s1) g ?_) ?_
        · rw [wp_ite]
          simp only [wp_bind, wp_pure, wpE_get, hs', wpE_eq, eqP_int, wp_truthyB, q2, decide_false, Bool.false_eq_true, if_false]
          exact hm
        · exact t2_txt hl' h b hn ht' hr' fun ss2 f h1 h2 => hQ .next sl1 ss2 _ (.inl rfl) hl' h1 h2
end
end Mine
set_option linter.unusedSimpArgs false
set_option linter.unusedVariables false
namespace Mine
theorem wp_while2 {t : PM Bool} {b : PM Fl} {Q : Fl → St → Prop} (I : Nat → St → Prop) (step : ∀ k st, I k st → wp t st (fun c st' => if c = true then 0 < k ∧ wp b st' (fun f s2 => match f with | .next => I (k - 1) s2 | .cont => I (k - 1) s2 | .brk => Q .next s2 | .ret v => Q (.ret v) s2) else Q .next st')) :
    ∀ (n k : Nat) (st : St), k < n → I k st → wp (whileF t b n) st Q
  | 0, k, st, h, _ => absurd h (by omega)
  | n + 1, k, st, h, hI => by
    unfold whileF
    rw [wp_bind]
    refine wp_mono (step k st hI) fun c st' q => ?_
    cases c with
    | false => simpa [wp_pure] using q
    | true =>
      simp only [if_true] at q
      dsimp only
      rw [wp_bind]
      refine wp_mono q.2 fun f s2 q2 => ?_
      cases f with
      | next => exact wp_while2 I step n (k - 1) s2 (by omega) q2
      | cont => exact wp_while2 I step n (k - 1) s2 (by omega) q2
      | brk => exact q2
      | ret v => exact q2
theorem sS_lns : ∀ f : Fo, sS f.lns ≤ f.M
  | .nil => by simp [Fo.lns, Fo.grp, sS]
  | .txt f t => by
    have ih := sS_lns f
    have e : (Fo.txt f t).lns = f.lns ++ [t] := by unfold Fo.lns; simp [Fo.grp]
    rw [e, sS_app, sS_one]
    show _ ≤ f.M + t.length + 1
    omega
  | .num f n => by
    have ih := sS_lns f
    have e : (Fo.num f n).lns = f.lns ++ [cpsI n] := by unfold Fo.lns; simp [Fo.grp]
    rw [e, sS_app, sS_one]
    show _ ≤ f.M + (cpsI n).length + 1
    omega
  | .rcd f i U R ags dv cs => by
    have ih := sS_lns f
    have ih2 := sS_lns cs
    have e : (Fo.rcd f i U R ags dv cs).lns = f.lns ++ recL ags dv cs.lns := by unfold Fo.lns; simp [Fo.grp]
    rw [e, sS_app]
    show _ ≤ f.M + cs.M + sS (lnA ags) + sS (lnD dv) + 20
    have hw : sS (lnW cs.lns) ≤ cs.M + 10 := by
      unfold lnW
      split
      · have : sS [cAll] = 7 := by decide +kernel
        omega
      · omega
    have : sS (recL ags dv cs.lns) ≤ sS (lnA ags) + sS (lnD dv) + sS (lnW cs.lns) + 1 := by
      unfold recL
      split
      · rw [sS_one]; simp
      · rw [sS_app, sS_app]; omega
    omega
theorem I2.pre {ss ss' : List O} {xs : List Int} {st : List Fm} (h : I2 ss xs st) (p : ss <+: ss') : I2 ss' xs st := by
  refine ⟨?_, get_pre p h.g3, get_pre p h.g5, get_pre p h.g6, h.ro, h.ln⟩
  have k := h.ok.ke (ss' := ss') fun j o _ _ _ e => get_pre p e
  cases st with
  | nil => trivial
  | cons q r => exact ⟨k.1.hi p.length_le, k.2⟩
/-- all is closed -/
structure Fin2 (ss : List O) (p : Fm) : Prop where
  e : Ent ss 0 p.U p.R [rootN] none none p.cs.vals
  c : p.cs.Ok ss 0 ss.length
  d : p.cs.dep ≤ 5
  m : p.cs.M ≤ 10000
  g3 : ss[3]? = some (.list ((recL [rootN] none p.cs.lns).map V.str))
  g5 : ss[5]? = some (.list [])
theorem Fin2.pre {ss ss' : List O} {p : Fm} (h : Fin2 ss p) (q : ss <+: ss') : Fin2 ss' p :=
  ⟨h.e.pre q, (h.c.ke fun j o _ _ e => get_pre q e).wide (Nat.le_refl _) q.length_le, h.d, h.m, get_pre q h.g3, get_pre q h.g5⟩
section
variable {sl : String → Option V} {ss : List O} {xs : List Int} {q : Fm} {r : List Fm} {n : Nat} {x : Int}
theorem s27_eq : l02s27 = l02s1 := rfl
theorem w_pop {Q : Fl → St → Prop} (hl : L2 sl) (h : I2 ss xs (q :: r)) (hb : (plines (q :: r)).length ≤ 1000)
    (hQ : ∀ sl' ss', L2 sl' → ss'.length = ss.length → ss'[3]? = some (.list ((plines (q :: r) ++ alw2 q).map V.str)) → ss'[5]? = some (.list (r.reverse.map fun p => .obj p.t)) → (∀ j o, j ≠ 3 → j ≠ 5 → ss[j]? = some o → ss'[j]? = some o) → Q .next ⟨sl', ss'⟩) : wp l02w28 ⟨sl, ss⟩ Q := by
  have g5' := h.g5
  rw [List.reverse_cons, List.map_append] at g5'
  have hq := h.ok.1
  have hrl : r.length ≤ 6 := by have := h.ln; simp at this ⊢; omega
  unfold l02w28
  rw [wp_seq', s27_eq]
  unfold l02s26
  simp only [wp_bind, wp_pure, wpE_get, hl.l5, wL_isList g5']
  rw [wL_pop (xs := r.reverse.map fun p => V.obj p.t) (v := .obj q.t) g5' (by rw [List.length_map, List.length_reverse]; omega)]
  simp only [wp_setL]
  have dO : ∀ j o, j ≠ 5 → ss[j]? = some o → (ss.set 5 (O.list (r.reverse.map fun p => V.obj p.t)))[j]? = some o := fun j o hj e => get_set_other e (Ne.symm hj)
  have d5 := get_set_here (o' := O.list (r.reverse.map fun p => V.obj p.t)) g5'
  have dl : (ss.set 5 (O.list (r.reverse.map fun p => V.obj p.t))).length = ss.length := by simp
  generalize (ss.set 5 (O.list (r.reverse.map fun p => V.obj p.t))) = B at dO d5 dl
  have hl' : L2 (fun k => if k = "top" then some (V.obj q.t) else sl k) := hl.upd fun m hm => by
    have h1 : m ≠ "top" := by rintro rfl; revert hm; decide
    simp [h1]
  refine w_allow (T := q.t) (sl := fun k => if k = "top" then some (V.obj q.t) else sl k) rfl (dO _ _ hq.n4.2.1 hq.t) hl'.l3 (dO _ _ (by decide) h.g3) (by omega) fun C hCl g3 k => ?_
  rw [alw_eq] at g3
  exact hQ _ C hl' (by omega) g3 (k _ _ (by decide) d5) fun j o a b e => k j o a (dO j o b e)
theorem eqX_nil {i j : Nat} {ys : List V} (h1 : ss[i]? = some (.list ys)) (h2 : ss[j]? = some (.list [])) : eqX ⟨sl, ss⟩ (.obj i) (.obj j) = some (decide (ys = [])) := by
  unfold eqX
  simp only [h1, h2]
  cases ys with
  | nil => rfl
  | cons y r => simp
def J2 (xs : List Int) (k : Nat) (s : St) : Prop := L2 s.loc ∧ ((∃ st, st.length = k ∧ 0 < k ∧ I2 s.sto xs st ∧ Mst st ≤ 6400 ∧ (plines st).length + k ≤ 400) ∨ (k = 0 ∧ ∃ p, Fin2 s.sto p))
theorem root_lines {p : Fm} (ha : p.ags = [rootN]) (hd : p.dv = none) (hh : p.hd = true) : plines [p] ++ alw2 p = recL [rootN] none p.cs.lns := by
  show ([] ++ own true p) ++ alw2 p = _
  unfold own alw2 recL
  rw [hh, ha, hd]
  by_cases hv : p.cs.vals = []
  · have hl : p.cs.lns = [] := lns_nil.mpr ((grp_vals _).mpr hv)
    simp [hv, hl, lnW]
  · have hl : ¬ p.cs.lns = [] := fun e => hv ((grp_vals _).mp (lns_nil.mp e))
    simp [hv, hl, lnW]
theorem j2_step {k : Nat} {s : St} (h : J2 xs k s) {Q : Fl → St → Prop} (hQ : ∀ sl' ss' p, L2 sl' → Fin2 ss' p → Q .next ⟨sl', ss'⟩) : wp (PM.bind (getL "opened") fun a => PM.bind (PM.bind (PM.pure []) allocList) fun b => PM.bind (pNeX a b) pTruthy) s (fun c st' => if c = true then 0 < k ∧ wp l02w28 st' (fun f s2 => match f with | .next => J2 xs (k - 1) s2 | .cont => J2 xs (k - 1) s2 | .brk => Q .next s2 | .ret v => Q (.ret v) s2) else Q .next st') := by
  obtain ⟨sl, ss⟩ := s
  obtain ⟨hl, h⟩ := h
  have hl : L2 sl := hl
  simp only [wp_bind, wp_pure, wpE_get, hl.l5, wp_allocList, wpE_neX]
  refine ⟨by decide, ?_⟩
  have p1 : ss <+: ss ++ [O.list []] := List.prefix_append _ _
  have g1 : (ss ++ [O.list []])[ss.length]? = some (.list []) := get_app_len _ _ _
  rcases h with ⟨st, h1, h2, h3, h4, h5⟩ | ⟨h1, p, h2⟩
  · have h3 : I2 ss xs st := h3
    have h3 := h3.pre p1
    generalize (ss ++ [O.list []]) = A at p1 g1 h3
    rw [eqX_nil h3.g5 g1]
    cases st with
    | nil => simp at h1; omega
    | cons q r =>
      have hne : ¬ ((q :: r).reverse.map fun p => V.obj p.t) = [] := by simp
      simp only [hne, decide_false, Bool.not_false, wp_truthyB, if_true]
      refine ⟨h2, w_pop hl h3 (by omega) fun sl' ss' hl' hlen g3 g5 kk => ⟨hl', ?_⟩⟩
      have hal : (alw2 q).length ≤ 1 := by unfold alw2; split <;> simp
      rw [List.length_cons] at h1
      cases r with
      | nil =>
        refine .inr ⟨by simp at h1; omega, q, ?_⟩
        obtain ⟨p, a1, a2, a3, a4⟩ := h3.ro
        simp at a1
        subst a1
        have hq := h3.ok.1
        have o1 := hq.o1; have o2 := hq.o2; have o3 := hq.o3; have o4 := hq.o4; have o6 := hq.o6
        have hh : q.hd = true := by rw [hq.h, a3]; simp [hdOf]
        have e := hq.e
        rw [a2, a3, a4, show q.cs.vals ++ nxV none = q.cs.vals from List.append_nil _] at e
        refine ⟨e.ke fun j o hj e => ?_, ?_, ?_, ?_, ?_, g5⟩
        · rcases hj with rfl | rfl | rfl
          · exact kk _ _ (by decide) (by decide) e
          · exact kk _ _ hq.n2.1 hq.n2.2 e
          · exact kk _ _ hq.n3.1 hq.n3.2.1 e
        · show q.cs.Ok ss' 0 ss'.length
          rw [hlen]
          exact (hq.c.ke fun j o c1 c2 e => kk j o (by omega) (by omega) e).wide (by omega) (Nat.le_refl _)
        · have := hq.d; simpa using this
        · have h4 : 0 + (q.cs.M + sS (lnA q.ags) + sS (lnD q.dv) + 20) ≤ 6400 := h4
          omega
        · show ss'[3]? = _
          rw [g3, root_lines a3 a4 hh]
      | cons p r =>
        refine .inl ⟨closeF p q :: r, by simp at h1 ⊢; omega, by simp at h1; omega, ?_, by rw [Mst_close]; exact h4, by rw [plines_close h3.ok, List.length_append]; omega⟩
        refine ⟨?_, by rw [plines_close h3.ok]; exact g3, ?_, kk _ _ (by decide) (by decide) h3.g6, ?_, ?_⟩
        · show StOk ss' ss'.length none _
          rw [hlen]
          exact (close_ok h3.ok).ke fun j o hj a b e => kk j o a b e
        · show ss'[5]? = _
          rw [g5]
          simp [closeF]
        · obtain ⟨p0, a1, a2, a3, a4⟩ := h3.ro
          cases r with
          | nil =>
            simp at a1
            subst a1
            exact ⟨_, rfl, a2, a3, a4⟩
          | cons p2 r2 =>
            refine ⟨p0, ?_, a2, a3, a4⟩
            simpa [List.getLast?_cons_cons] using a1
        · have := h3.ln
          simp at this ⊢
          omega
  · have h2 : Fin2 ss p := h2
    have h3 := h2.pre p1
    rw [eqX_nil h3.g5 g1]
    simp only [decide_true, Bool.not_true, wp_truthyB, Bool.false_eq_true, if_false]
    exact hQ _ _ _ hl h3
theorem t2_last {p : Fm} (hl : L2 sl) (h : Fin2 ss p) : wp l02s36 ⟨sl, ss⟩ (fun f _ => f = .ret (.bool true)) := by
  have hM := h.m
  have hlA : sS (lnA [rootN]) ≤ 40 := by decide +kernel
  have hlD : sS (lnD none) = 0 := by decide +kernel
  have tx : TX 6 ss (.obj 0) (textE [rootN] none none p.cs.txs) := tx_ent (k := 5) h.e (tx_fo h.c h.d (by omega)) (bound_rec (by omega))
  unfold l02s36
  simp only [wp_bind, wp_pure, wpE_get, hl.l2, wp_cStr]
  refine tx _ _ _ (List.prefix_refl _) fun s2 p2 => ?_
  simp only [wp_bind, wp_pure, wpE_get, hl.l3, wp_isStr, cps_nl]
  rw [wL_join (get_pre p2 h.g3) ?_ (by decide)]
  · simp only [wpE_eq, eqP_str, text_rec, decide_true]
  · show sS (recL [rootN] none p.cs.lns) ≤ _
    have := sS_lns p.cs
    have hw : sS (lnW p.cs.lns) ≤ p.cs.M + 10 := by
      unfold lnW
      split
      · have : sS [cAll] = 7 := by decide +kernel
        omega
      · omega
    unfold recL
    rw [if_neg (by simp), sS_app, sS_app]
    omega
structure Pr2 (ss : List O) : Prop where
  l : ss.length = 6
  o0 : ss[0]? = some (.inst [("useragents", .obj 1), ("rulelines", .obj 2), ("delay", .none), ("req_rate", .none)])
  o1 : ss[1]? = some (.list [.str rootN])
  o2 : ss[2]? = some (.list [])
  o3 : ss[3]? = some (.list [.str (cUA ++ rootN)])
  o4 : ss[4]? = some (.list [.obj 0, .bool true, .int 0])
  o5 : ss[5]? = some (.list [.obj 4])
def st02 : List Fm := [⟨0, 1, 2, 4, [rootN], none, true, .nil⟩]
theorem pr2_I2 (h : Pr2 ss) : I2 (ss ++ [O.list (xs.map V.int)]) xs st02 := by
  have p : ss <+: ss ++ [O.list (xs.map V.int)] := List.prefix_append _ _
  have g6 : (ss ++ [O.list (xs.map V.int)])[6]? = some (O.list (xs.map V.int)) := by have := get_app_len ss (O.list (xs.map V.int)) []; rw [h.l] at this; exact this
  have hl : (ss ++ [O.list (xs.map V.int)]).length = 7 := by rw [List.length_append, h.l]; rfl
  refine ⟨⟨?_, trivial⟩, ?_, get_pre p h.o5, g6, ⟨_, rfl, rfl, rfl, rfl⟩, by decide⟩
  · rw [hl]
    exact ⟨⟨⟨_, .none, get_pre p h.o0, rfl, rfl, rfl, rfl, rfl⟩, get_pre p h.o1, get_pre p h.o2, fun d e => by cases e⟩, get_pre p h.o4, by decide, by decide, by decide, by decide, by decide, by decide, by decide, by decide, by decide, by decide, fun e => absurd rfl e, trivial, rfl, by decide, by decide, fun g hg => by rw [List.mem_singleton] at hg; subst hg; decide, .inl rfl⟩
  · rw [get_pre p h.o3]; rfl
theorem t2_rest {ad : Addr} (xs : List Int) (hx : xs.length ≤ 63) (hl : L2 sl) (ho : Pr2 ss) (hs : sl "script" = some (.glob (.ref ad))) : wp (seqF (l02s34 ad xs) (seqF l02s35 l02s36)) ⟨sl, ss⟩ (fun f _ => f = .ret (.bool true)) := by
  rw [wp_seq']
  unfold l02s34
  simp only [wp_bind, wp_pure, wpE_get, hs]
  have eL : ∀ Q : V → St → Prop, wp (cListG ad xs [.glob (.ref ad)]) ⟨sl, ss⟩ Q = Q (.obj 6) ⟨sl, ss ++ [O.list (xs.map V.int)]⟩ := fun Q => by
    show wp (fun st => if ad = ad ∧ xs.length ≤ 1000000 then alloc (.list (xs.map V.int)) st else .fail) _ _ = _
    rw [wp_if, wp_alloc, ho.l]
    simp only [true_and]
    rw [eq_iff_iff]
    exact ⟨fun h => h.2, fun h => ⟨by omega, h⟩⟩
  rw [eL]
  have hI := pr2_I2 (xs := xs) ho
  generalize (ss ++ [O.list (xs.map V.int)]) = A at hI
  rw [wL_iter hI.g6]
  dsimp only
  refine wp_for (f := V.int) xs (fun d sl' ss' => ∃ st, L2 sl' ∧ I2 ss' xs st ∧ B2 d.length st) (fun d _ _ hh p hp => by cases hp; obtain ⟨st, _, h2, _⟩ := hh; exact h2.g6) (fun d x r sl' ss' hd hI => ?_) (fun sl' ss' hI => ?_) ⟨st02, hl, hI, ⟨by decide +kernel, by decide +kernel⟩⟩
  · obtain ⟨st, i1, i2, i3⟩ := hI
    have hdl : d.length < 63 := by
      have := congrArg List.length hd
      simp at this
      omega
    rw [wp_bind, wp_setL]
    refine t2_turn (x := x) (i1.upd fun m hm => ?_) i2 i3 (by omega) (by simp) fun f sl2 ss2 st2 hf h1 h2 h3 => ?_
    · have h1 : m ≠ "x" := by rintro rfl; revert hm; decide
      simp [h1]
    · have : ∃ st, L2 sl2 ∧ I2 ss2 xs st ∧ B2 (d ++ [x]).length st := ⟨st2, h1, h2, by simpa using h3⟩
      rcases hf with rfl | rfl <;> exact this
  · obtain ⟨st, i1, i2, i3⟩ := hI
    dsimp only
    rw [wp_seq']
    unfold l02s35
    have hm := i3.m
    have hb := i3.l
    have hln := i2.ln
    have hpos : 0 < st.length := by
      obtain ⟨p, hp, _⟩ := i2.ro
      cases st with
      | nil => cases hp
      | cons q r => simp
    refine wp_while2 (J2 xs) (fun k s hs => j2_step hs fun sl3 ss3 p h1 h2 => t2_last h1 h2) 1000 st.length _ (by omega) ⟨i1, .inl ⟨st, rfl, hpos, i2, by omega, by omega⟩⟩
end
theorem cps_root : cps "root" = rootN := by kernel_rfl
theorem cps_UAr : cps "User-agent: root" = cUA ++ rootN := by kernel_rfl
theorem t2_pre (a : Addr) (W : PM Fl) {Q : Fl → St → Prop} (hW : ∀ sl ss, L2 sl → Pr2 ss → sl "script" = some (.glob (.ref a)) → wp W ⟨sl, ss⟩ Q) :
    WPs (seqF l02s29 (seqF l02s30 (seqF l02s31 (seqF l02s32 (seqF l02s33 W))))) ⟨fun k => if k = "script" then some (.glob (.ref a)) else none, []⟩ Q := by
  constructor
  unfold l02s29 l02s30 l02s31 l02s32 l02s33
  have r1 : ∀ (loc : String → Option V) (Q2 : V → St → Prop) (A : List O), wp (gAttr "useragents" (.obj 0)) ⟨loc, O.inst [("useragents", V.obj 1), ("rulelines", V.obj 2), ("delay", V.none), ("req_rate", V.none)] :: A⟩ Q2 = Q2 (.obj 1) ⟨loc, O.inst [("useragents", V.obj 1), ("rulelines", V.obj 2), ("delay", V.none), ("req_rate", V.none)] :: A⟩ := fun loc Q2 A => wL_gAttr (n := "useragents") (v := .obj 1) (show _ = some (O.inst [("useragents", V.obj 1), ("rulelines", V.obj 2), ("delay", V.none), ("req_rate", V.none)]) from rfl) rfl (by intro u e; cases e)
  have r2 : ∀ (loc : String → Option V) (Q2 : Unit → St → Prop) (o : O), wp (isList (.obj 1)) ⟨loc, [o, O.list [], O.list []]⟩ Q2 = Q2 () ⟨loc, [o, O.list [], O.list []]⟩ := fun loc Q2 o => wL_isList (xs := []) rfl
  have r3 : ∀ (loc : String → Option V) (Q2 : V → St → Prop) (o : O) (v : V), wp (cAppend [.obj 1, v]) ⟨loc, [o, O.list [], O.list []]⟩ Q2 = Q2 .none ⟨loc, [o, O.list [v], O.list []]⟩ := fun loc Q2 o v => wL_append (xs := []) rfl (by decide)
  simp only [wp_bind, wp_pure, wp_seq', wp_ite, wp_and, wp_or, wp_setL, wp_allocList, wp_allocTuple, wp_alloc, wpE_get, wpE_mod, wpE_div, wpE_pow, wpE_iaddS, wpE_iaddI, wpE_addS, wp_add, wp_sub, wp_neg, wpE_lt, wpE_le, wpE_gt, wpE_ge, wpE_eq, wpE_ne, wpE_is, wpE_isnot, isP_bool, isP_obj, eqP_int, eqP_str, wpE_in, wpE_notin, wp_truthyB, wpE_truthyI, wpE_truthyN, wpE_truthyS, wp_isStr, wpE_lenS, wpE_lenG, wpE_range1, wpE_range2, wpE_iterS, wpE_iterG, wpE_max2, wpE_min2, if_true, if_false, String.reduceEq, reduceIte, true_and, and_true, List.length_nil, List.length_cons, List.nil_append, List.cons_append, Bool.false_eq_true, decide_eq_true_eq, Nat.zero_le, Int.reduceLT, Int.reduceLE, Int.reduceNeg, Nat.reduceLeDiff, Nat.reduceAdd, wE_entry, cps_dg2, cps_root, cps_UAr, r1, r2, r3]
  exact hW _ _ ⟨by simp, by simp, by simp, by simp⟩ ⟨rfl, rfl, rfl, rfl, rfl, rfl, rfl⟩ (by simp)
theorem law02_eq (a : Addr) (xs : List Int) : law02 a xs = seqF l02s29 (seqF l02s30 (seqF l02s31 (seqF l02s32 (seqF l02s33 (seqF (l02s34 a xs) (seqF l02s35 l02s36)))))) := by
  with_reducible unfold law02
  with_reducible rfl
theorem t2_run (a : Addr) (W : PM Fl) (hW : ∀ sl ss, L2 sl → Pr2 ss → sl "script" = some (.glob (.ref a)) → wp W ⟨sl, ss⟩ (fun f _ => f = .ret (.bool true))) :
    ∃ st', (seqF l02s29 (seqF l02s30 (seqF l02s31 (seqF l02s32 (seqF l02s33 W))))) ⟨fun k => if k = "script" then some (.glob (.ref a)) else none, []⟩ = .ok (.ret (.bool true)) st' := run_wps (t2_pre a W hW)
theorem law02_true (a : Addr) (xs : List Int) (hx : xs.length ≤ 63) : ∃ st', law02 a xs ⟨fun k => if k = "script" then some (.glob (.ref a)) else none, []⟩ = .ok (.ret (.bool true)) st' := by
  rw [law02_eq]
  exact t2_run a (seqF (l02s34 a xs) (seqF l02s35 l02s36)) fun sl ss hl ho hs => t2_rest xs hx hl ho hs
end Mine
namespace Mine
set_option maxRecDepth 100000 in
set_option maxHeartbeats 8000000 in
open_top hd for PySem.Challenge.rw_dn0257_02
set_option maxRecDepth 100000
set_option maxHeartbeats 8000000
theorem fn_init (cx : Cx) (hK : cx.K = hd.heap_39 cx.w.params) (hC : cx.C = 59) : Fn cx 0 35 ["self"] initE := by
  obtain ⟨prog, w, K, C, p, loose, mg, mb, h₀, L, A, fenv, env, base, outer, os, n, fm, fzn, lam, tab⟩ := cx
  dsimp only at hK hC
  subst hK hC
  refine fn_user (by rfl) (by rfl) (fun Vs hVs => ?_) ?_ (by decide) (by decide) rfl rfl rfl ?_
  · match Vs, hVs with
    | [a], _ => rfl
  · decide
  · intro A' g L' ok
    refine body_of ?_
    · refine sim_cons ?_ ?_
      · refine sim_AssignAttr ok ?_ ?_ ?_ ?_
        · refine sim_List ?_
          · exact sim_args_nil
        · refine sim_Name ok ?_ ?_
          · kernel_rfl
          · kernel_rfl
        · kernel_rfl
        · kernel_rfl
      · refine sim_cons ?_ ?_
        · refine sim_AssignAttr ok ?_ ?_ ?_ ?_
          · refine sim_List ?_
            · exact sim_args_nil
          · refine sim_Name ok ?_ ?_
            · kernel_rfl
            · kernel_rfl
          · kernel_rfl
          · kernel_rfl
        · refine sim_cons ?_ ?_
          · refine sim_AssignAttr ok ?_ ?_ ?_ ?_
            · exact sim_none
            · refine sim_Name ok ?_ ?_
              · kernel_rfl
              · kernel_rfl
            · kernel_rfl
            · kernel_rfl
          · refine sim_one ?_
            · refine sim_AssignAttr ok ?_ ?_ ?_ ?_
              · exact sim_none
              · refine sim_Name ok ?_ ?_
                · kernel_rfl
                · kernel_rfl
              · kernel_rfl
              · kernel_rfl
theorem fn_str (k : Nat) : ∀ (cx : Cx) (hK : cx.K = hd.heap_39 cx.w.params) (hC : cx.C = 59), Fn cx k 42 ["self"] (strE k) := by
  induction k with
  | zero =>
    intro cx hK hC
    refine ⟨?_⟩
    intro A' _ _ _ ρ hid st st' s x vs Vs hv v h
    exfalso
    unfold callP at h
    split at h
    · simp [strE, PM.fail] at h
    · cases h
  | succ k ih =>
    intro cx hK hC
    obtain ⟨prog, w, K, C, p, loose, mg, mb, h₀, L, A, fenv, env, base, outer, os, n, fm, fzn, lam, tab⟩ := cx
    dsimp only at hK hC
    subst hK hC
    refine fn_user (by rfl) (by rfl) (fun Vs hVs => ?_) ?_ (by decide) (by decide) rfl rfl rfl ?_
    · match Vs, hVs with
      | [a], _ => rfl
    · decide
    · intro A' g L' ok
      have S := strOf_ok ok (k := k) (f := 42) (mb := strE k) (Nat.le_refl _) (by kernel_rfl) (by kernel_rfl) (ih _ rfl rfl)
      refine body_of ?_
      refine sim_cons ?_ ?_
      · refine sim_If ?_ ?_ ?_
        · refine sim_test_Not ?_
          · refine sim_test ?_ p_truthy
            · refine sim_Attribute ok ?_ ?_
              · refine sim_Name ok ?_ ?_
                · kernel_rfl
                · kernel_rfl
              · kernel_rfl
        · refine sim_one ?_
          · refine sim_Return ?_
            · exact sim_str
        · exact sim_nil
      · refine sim_cons ?_ ?_
        · refine sim_Assign ok ?_ ?_ ?_
          · refine sim_List ?_
            · exact sim_args_nil
          · exact (.inl (by kernel_rfl))
          · kernel_rfl
        · refine sim_cons ?_ ?_
          · refine sim_For ok ?_ ?_ ?_ ?_
            · refine sim_Attribute ok ?_ ?_
              · refine sim_Name ok ?_ ?_
                · kernel_rfl
                · kernel_rfl
              · kernel_rfl
            · refine sim_target ok ?_
              · exact (.inl (by kernel_rfl))
            · refine sim_one ?_
              · refine sim_Expr ?_ ?_ ?_ ?_
                · refine sim_ML ok PySem.F.slot_list_append ?_ pc_append ?_ ?_ ?_ ?_ ?_ ?_
                  · exact rfl
                  · refine sim_Name ok ?_ ?_
                    · kernel_rfl
                    · kernel_rfl
                  · refine sim_args_cons ?_ ?_ ?_
                    · refine sim_JoinedStr ?_
                      · refine sim_parts_cons ?_ ?_
                        · exact sim_str
                        · refine sim_parts_cons ?_ ?_
                          · refine sim_Fmt ?_
                            · refine sim_Name ok ?_ ?_
                              · kernel_rfl
                              · kernel_rfl
                          · exact sim_parts_nil
                    · exact sim_args_nil
                    · exact (star_plain rfl)
                  · exact (plain_cons rfl plain_nil)
                  · exact rfl
                  · exact rfl
                  · exact rfl
                · kernel_rfl
                · kernel_rfl
                · exact fun _ => by kernel_rfl
            · exact fun _ => rfl
          · refine sim_cons ?_ ?_
            · refine sim_If ?_ ?_ ?_
              · refine sim_test_Compare ?_ ?_ p_isnot p_truthy ?_
                · refine sim_Attribute ok ?_ ?_
                  · refine sim_Name ok ?_ ?_
                    · kernel_rfl
                    · kernel_rfl
                  · kernel_rfl
                · exact sim_none
                · exact rfl
              · refine sim_one ?_
                · refine sim_Expr ?_ ?_ ?_ ?_
                  · refine sim_ML ok PySem.F.slot_list_append ?_ pc_append ?_ ?_ ?_ ?_ ?_ ?_
                    · exact rfl
                    · refine sim_Name ok ?_ ?_
                      · kernel_rfl
                      · kernel_rfl
                    · refine sim_args_cons ?_ ?_ ?_
                      · refine sim_JoinedStr ?_
                        · refine sim_parts_cons ?_ ?_
                          · exact sim_str
                          · refine sim_parts_cons ?_ ?_
                            · refine sim_Fmt ?_
                              · refine sim_Attribute ok ?_ ?_
                                · refine sim_Name ok ?_ ?_
                                  · kernel_rfl
                                  · kernel_rfl
                                · kernel_rfl
                            · exact sim_parts_nil
                      · exact sim_args_nil
                      · exact (star_plain rfl)
                    · exact (plain_cons rfl plain_nil)
                    · exact rfl
                    · exact rfl
                    · exact rfl
                  · kernel_rfl
                  · kernel_rfl
                  · exact fun _ => by kernel_rfl
              · exact sim_nil
            · refine sim_cons ?_ ?_
              · refine sim_If ?_ ?_ ?_
                · refine sim_test_Compare ?_ ?_ p_isnot p_truthy ?_
                  · refine sim_Attribute ok ?_ ?_
                    · refine sim_Name ok ?_ ?_
                      · kernel_rfl
                      · kernel_rfl
                    · kernel_rfl
                  · exact sim_none
                  · exact rfl
                · refine sim_cons ?_ ?_
                  · refine sim_Assign ok ?_ ?_ ?_
                    · refine sim_Attribute ok ?_ ?_
                      · refine sim_Name ok ?_ ?_
                        · kernel_rfl
                        · kernel_rfl
                      · kernel_rfl
                    · exact (.inl (by kernel_rfl))
                    · kernel_rfl
                  · refine sim_one ?_
                    · refine sim_Expr ?_ ?_ ?_ ?_
                      · refine sim_ML ok PySem.F.slot_list_append ?_ pc_append ?_ ?_ ?_ ?_ ?_ ?_
                        · exact rfl
                        · refine sim_Name ok ?_ ?_
                          · kernel_rfl
                          · kernel_rfl
                        · refine sim_args_cons ?_ ?_ ?_
                          · refine sim_JoinedStr ?_
                            · refine sim_parts_cons ?_ ?_
                              · exact sim_str
                              · refine sim_parts_cons ?_ ?_
                                · refine sim_Fmt ?_
                                  · refine sim_Attribute ok ?_ ?_
                                    · refine sim_Name ok ?_ ?_
                                      · kernel_rfl
                                      · kernel_rfl
                                    · kernel_rfl
                                · refine sim_parts_cons ?_ ?_
                                  · exact sim_str
                                  · refine sim_parts_cons ?_ ?_
                                    · refine sim_Fmt ?_
                                      · refine sim_Attribute ok ?_ ?_
                                        · refine sim_Name ok ?_ ?_
                                          · kernel_rfl
                                          · kernel_rfl
                                        · kernel_rfl
                                    · exact sim_parts_nil
                          · exact sim_args_nil
                          · exact (star_plain rfl)
                        · exact (plain_cons rfl plain_nil)
                        · exact rfl
                        · exact rfl
                        · exact rfl
                      · kernel_rfl
                      · kernel_rfl
                      · exact fun _ => by kernel_rfl
                · exact sim_nil
              · refine sim_cons ?_ ?_
                · refine sim_If ?_ ?_ ?_
                  · refine sim_test ?_ p_truthy
                    · refine sim_Attribute ok ?_ ?_
                      · refine sim_Name ok ?_ ?_
                        · kernel_rfl
                        · kernel_rfl
                      · kernel_rfl
                  · refine sim_one ?_
                    · refine sim_Expr ?_ ?_ ?_ ?_
                      · refine sim_ExtMap ok S ?_ ?_ ?_ ?_ ?_ ?_ ?_
                        · refine sim_Name ok ?_ ?_
                          · kernel_rfl
                          · kernel_rfl
                        · refine sim_Builtin ok ?_ ?_ ?_ ?_ ?_
                          · kernel_rfl
                          · kernel_rfl
                          · kernel_rfl
                          · exact (by decide)
                          · kernel_rfl
                        · refine sim_Builtin ok ?_ ?_ ?_ ?_ ?_
                          · kernel_rfl
                          · kernel_rfl
                          · kernel_rfl
                          · exact (by decide)
                          · kernel_rfl
                        · refine sim_Attribute ok ?_ ?_
                          · refine sim_Name ok ?_ ?_
                            · kernel_rfl
                            · kernel_rfl
                          · kernel_rfl
                        · exact rfl
                        · exact rfl
                        · exact rfl
                      · kernel_rfl
                      · kernel_rfl
                      · exact fun _ => by kernel_rfl
                  · refine sim_one ?_
                    · refine sim_Expr ?_ ?_ ?_ ?_
                      · refine sim_ML ok PySem.F.slot_list_append ?_ pc_append ?_ ?_ ?_ ?_ ?_ ?_
                        · exact rfl
                        · refine sim_Name ok ?_ ?_
                          · kernel_rfl
                          · kernel_rfl
                        · refine sim_args_cons ?_ ?_ ?_
                          · exact sim_str
                          · exact sim_args_nil
                          · exact (star_plain rfl)
                        · exact (plain_cons rfl plain_nil)
                        · exact rfl
                        · exact rfl
                        · exact rfl
                      · kernel_rfl
                      · kernel_rfl
                      · exact fun _ => by kernel_rfl
                · refine sim_one ?_
                  · refine sim_Return ?_
                    · refine sim_MS ok PySem.F.slot_str_join ?_ pc_join ?_ ?_ ?_ ?_ ?_ ?_
                      · exact rfl
                      · exact sim_str
                      · refine sim_args_cons ?_ ?_ ?_
                        · refine sim_Name ok ?_ ?_
                          · kernel_rfl
                          · kernel_rfl
                        · exact sim_args_nil
                        · exact (star_plain rfl)
                      · exact (plain_cons rfl plain_nil)
                      · exact rfl
                      · exact rfl
                      · exact rfl
theorem so_str (cx : Cx) (hK : cx.K = hd.heap_39 cx.w.params) (hC : cx.C = 59) (hn : 6 + 1 ≤ cx.n) : StrOf cx 6 42 (strE 6) := by
  obtain ⟨prog, w, K, C, p, loose, mg, mb, h₀, L, A, fenv, env, base, outer, os, n, fm, fzn, lam, tab⟩ := cx
  dsimp only at hK hC hn
  subst hK hC
  exact ⟨hn, by kernel_rfl, by kernel_rfl, fn_str 6 _ rfl rfl⟩
end Mine
set_option maxRecDepth 100000 in
set_option maxHeartbeats 8000000 in
theorem PySem.Challenge.cw_dn0257_02_holds : PySem.Challenge.rw_dn0257_02.Holds := by
  refine Mine.hd ?_
  k_fill
  intro w s₀ s₁ mg mb G Y fa o pm cd doc dV kV ho hd hcd hD hmg hg args vals as hpre hlay hrd hwl hlo
  have KX := kIn_of Y
  refine Ground.open G ?_
  intro T B D TE TW
  try (refine guard_noD D (by decide +kernel) ?_; clear D)
  clear hmg
  wrow_args hpre hlay hrd hwl hlo
  all_goals (
    first | refine callC_kw (enter_call ?_) | refine enter_call ?_
    try refine codeAny_mono ?_ (fun _ _ g => GoodW.toG g))
  have he := Dflts.none hD rfl; subst he; have he := Dflts.noKw hD; subst he
  rename_i xs _ _ _ _ _ _ _ a Vs _ hL _ _ _ hI _ hc _
  skip
  refine Mine.enter_law (n := 8) (C := 59) (xs := xs) (mbody := Mine.law02 a xs) (by decide) (topRead_of T) (by exact T.bmain) KX ho (fd_plain hd) hcd hg hL hI rfl rfl (by decide) rfl rfl rfl (fun ok hO => ?_) ?_ ?_
  · open Mine in
    refine sim_cons ?_ ?_
    · refine sim_Assign ok ?_ ?_ ?_
      · exact sim_str
      · exact (.inl (by kernel_rfl))
      · kernel_rfl
    · refine sim_cons ?_ ?_
      · refine sim_Assign ok ?_ ?_ ?_
        · refine sim_Call ok (u := .ref 59) ?_ ?_ ?_ ?_ plain_nil call_name
          · refine sim_Global ok ?_ ?_ ?_
            · kernel_rfl
            · kernel_rfl
            · kernel_rfl
          · exact sim_args_nil
          · exact (keep_K (by kernel_rfl))
          · exact (pc_class ok (k := 0) (Nat.le_of_ble_eq_true (by kernel_rfl)) (by kernel_rfl) (by kernel_rfl) (by kernel_rfl) (fn_init _ rfl rfl))
        · exact (.inl (by kernel_rfl))
        · kernel_rfl
      · refine sim_cons ?_ ?_
        · refine sim_Expr ?_ ?_ ?_ ?_
          · refine sim_ML ok PySem.F.slot_list_append ?_ pc_append ?_ ?_ ?_ ?_ ?_ ?_
            · exact rfl
            · refine sim_Attribute ok ?_ ?_
              · refine sim_Name ok ?_ ?_
                · kernel_rfl
                · kernel_rfl
              · kernel_rfl
            · refine sim_args_cons ?_ ?_ ?_
              · exact sim_str
              · exact sim_args_nil
              · exact (star_plain rfl)
            · exact (plain_cons rfl plain_nil)
            · exact rfl
            · exact rfl
            · exact rfl
          · kernel_rfl
          · kernel_rfl
          · exact fun _ => by kernel_rfl
        · refine sim_cons ?_ ?_
          · refine sim_Assign ok ?_ ?_ ?_
            · refine sim_List ?_
              · refine sim_args_cons ?_ ?_ ?_
                · exact sim_str
                · exact sim_args_nil
                · exact (star_plain rfl)
            · exact (.inl (by kernel_rfl))
            · kernel_rfl
          · refine sim_cons ?_ ?_
            · refine sim_Assign ok ?_ ?_ ?_
              · refine sim_List ?_
                · refine sim_args_cons ?_ ?_ ?_
                  · refine sim_List ?_
                    · refine sim_args_cons ?_ ?_ ?_
                      · refine sim_Name ok ?_ ?_
                        · kernel_rfl
                        · kernel_rfl
                      · refine sim_args_cons ?_ ?_ ?_
                        · exact sim_bool
                        · refine sim_args_cons ?_ ?_ ?_
                          · exact sim_int
                          · exact sim_args_nil
                          · exact (star_plain rfl)
                        · exact (star_plain rfl)
                      · exact (star_plain rfl)
                  · exact sim_args_nil
                  · exact (star_plain rfl)
              · exact (.inl (by kernel_rfl))
              · kernel_rfl
            · refine sim_cons ?_ ?_
              · refine sim_For ok ?_ ?_ ?_ ?_
                · refine sim_Call ok (u := .type "list") ?_ ?_ keep_type ?_ ?_ call_name
                  · refine sim_Builtin ok ?_ ?_ ?_ ?_ ?_
                    · kernel_rfl
                    · kernel_rfl
                    · kernel_rfl
                    · exact (by decide)
                    · kernel_rfl
                  · refine sim_args_cons ?_ ?_ ?_
                    · refine sim_Name ok ?_ ?_
                      · kernel_rfl
                      · kernel_rfl
                    · exact sim_args_nil
                    · exact (star_plain rfl)
                  · exact (pc_listG hO)
                  · exact (plain_cons rfl plain_nil)
                · refine sim_target ok ?_
                  · exact (.inl (by kernel_rfl))
                · refine sim_cons ?_ ?_
                  · refine sim_Assign ok ?_ ?_ ?_
                    · refine sim_BinOp ?_ ?_ p_mod
                      · refine sim_Name ok ?_ ?_
                        · kernel_rfl
                        · kernel_rfl
                      · exact sim_int
                    · exact (.inl (by kernel_rfl))
                    · kernel_rfl
                  · refine sim_cons ?_ ?_
                    · refine sim_Assign ok ?_ ?_ ?_
                      · refine sim_BinOp ?_ ?_ p_div
                        · refine sim_Name ok ?_ ?_
                          · kernel_rfl
                          · kernel_rfl
                        · exact sim_int
                      · exact (.inl (by kernel_rfl))
                      · kernel_rfl
                    · refine sim_cons ?_ ?_
                      · refine sim_Assign ok ?_ ?_ ?_
                        · refine sim_Subscript ok ?_ ?_ ?_
                          · refine sim_Name ok ?_ ?_
                            · kernel_rfl
                            · kernel_rfl
                          · refine sim_Unary ?_ p_neg
                            · exact sim_int
                          · exact fun _ _ => rfl
                        · exact (.inl (by kernel_rfl))
                        · kernel_rfl
                      · refine sim_cons ?_ ?_
                        · refine sim_If ?_ ?_ ?_
                          · refine sim_test_Compare ?_ ?_ ?_ p_truthy ?_
                            · refine sim_Name ok ?_ ?_
                              · kernel_rfl
                              · kernel_rfl
                            · exact sim_int
                            · exact (p_eq ok)
                            · exact rfl
                          · refine sim_cons ?_ ?_
                            · refine sim_If ?_ ?_ ?_
                              · refine sim_test_Compare ?_ ?_ p_gt p_truthy ?_
                                · refine sim_Call ok (u := .builtin "len") ?_ ?_ keep_builtin pc_len ?_ call_name
                                  · refine sim_Builtin ok ?_ ?_ ?_ ?_ ?_
                                    · kernel_rfl
                                    · kernel_rfl
                                    · kernel_rfl
                                    · exact (by decide)
                                    · kernel_rfl
                                  · refine sim_args_cons ?_ ?_ ?_
                                    · refine sim_Name ok ?_ ?_
                                      · kernel_rfl
                                      · kernel_rfl
                                    · exact sim_args_nil
                                    · exact (star_plain rfl)
                                  · exact (plain_cons rfl plain_nil)
                                · exact sim_int
                                · exact rfl
                              · refine sim_cons ?_ ?_
                                · refine sim_If ?_ ?_ ?_
                                  · refine sim_test_BoolOp ?_
                                    · refine sim_all_and ?_ ?_
                                      · refine sim_test ?_ p_truthy
                                        · refine sim_Subscript ok ?_ ?_ ?_
                                          · refine sim_Name ok ?_ ?_
                                            · kernel_rfl
                                            · kernel_rfl
                                          · exact sim_int
                                          · exact fun _ _ => rfl
                                      · refine sim_all_and ?_ ?_
                                        · refine sim_test_Compare ?_ ?_ ?_ p_truthy ?_
                                          · refine sim_Subscript ok ?_ ?_ ?_
                                            · refine sim_Name ok ?_ ?_
                                              · kernel_rfl
                                              · kernel_rfl
                                            · exact sim_int
                                            · exact fun _ _ => rfl
                                          · exact sim_int
                                          · exact (p_eq ok)
                                          · exact rfl
                                        · exact sim_all_nil_and
                                  · refine sim_one ?_
                                    · refine sim_Expr ?_ ?_ ?_ ?_
                                      · refine sim_ML ok PySem.F.slot_list_append ?_ pc_append ?_ ?_ ?_ ?_ ?_ ?_
                                        · exact rfl
                                        · refine sim_Name ok ?_ ?_
                                          · kernel_rfl
                                          · kernel_rfl
                                        · refine sim_args_cons ?_ ?_ ?_
                                          · exact sim_str
                                          · exact sim_args_nil
                                          · exact (star_plain rfl)
                                        · exact (plain_cons rfl plain_nil)
                                        · exact rfl
                                        · exact rfl
                                        · exact rfl
                                      · kernel_rfl
                                      · kernel_rfl
                                      · exact fun _ => by kernel_rfl
                                  · exact sim_nil
                                · refine sim_one ?_
                                  · refine sim_ExprO ?_ ?_ ?_ ?_
                                    · refine sim_ML ok PySem.F.slot_list_pop ?_ pc_pop ?_ ?_ plain_nil ?_ ?_ ?_
                                      · exact rfl
                                      · refine sim_Name ok ?_ ?_
                                        · kernel_rfl
                                        · kernel_rfl
                                      · exact sim_args_nil
                                      · exact rfl
                                      · exact rfl
                                      · exact rfl
                                    · kernel_rfl
                                    · kernel_rfl
                                    · exact fun _ => by kernel_rfl
                              · exact sim_nil
                            · refine sim_one ?_
                              · exact sim_Continue
                          · exact sim_nil
                        · refine sim_cons ?_ ?_
                          · refine sim_AugItem ok ?_ ?_ ?_ p_iadd ?_
                            · refine sim_Name ok ?_ ?_
                              · kernel_rfl
                              · kernel_rfl
                            · exact sim_int
                            · exact sim_int
                            · exact fun _ _ _ => rfl
                          · refine sim_one ?_
                            · refine sim_If ?_ ?_ ?_
                              · refine sim_test_BoolOp ?_
                                · refine sim_all_and ?_ ?_
                                  · refine sim_test_Compare ?_ ?_ ?_ p_truthy ?_
                                    · refine sim_Name ok ?_ ?_
                                      · kernel_rfl
                                      · kernel_rfl
                                    · exact sim_int
                                    · exact (p_eq ok)
                                    · exact rfl
                                  · refine sim_all_and ?_ ?_
                                    · refine sim_test_Compare ?_ ?_ p_lt p_truthy ?_
                                      · refine sim_Call ok (u := .builtin "len") ?_ ?_ keep_builtin pc_len ?_ call_name
                                        · refine sim_Builtin ok ?_ ?_ ?_ ?_ ?_
                                          · kernel_rfl
                                          · kernel_rfl
                                          · kernel_rfl
                                          · exact (by decide)
                                          · kernel_rfl
                                        · refine sim_args_cons ?_ ?_ ?_
                                          · refine sim_Name ok ?_ ?_
                                            · kernel_rfl
                                            · kernel_rfl
                                          · exact sim_args_nil
                                          · exact (star_plain rfl)
                                        · exact (plain_cons rfl plain_nil)
                                      · exact sim_int
                                      · exact rfl
                                    · exact sim_all_nil_and
                              · refine sim_cons ?_ ?_
                                · refine sim_Assign ok ?_ ?_ ?_
                                  · refine sim_Call ok (u := .ref 59) ?_ ?_ ?_ ?_ plain_nil call_name
                                    · refine sim_Global ok ?_ ?_ ?_
                                      · kernel_rfl
                                      · kernel_rfl
                                      · kernel_rfl
                                    · exact sim_args_nil
                                    · exact (keep_K (by kernel_rfl))
                                    · exact (pc_class ok (k := 0) (Nat.le_of_ble_eq_true (by kernel_rfl)) (by kernel_rfl) (by kernel_rfl) (by kernel_rfl) (fn_init _ rfl rfl))
                                  · exact (.inl (by kernel_rfl))
                                  · kernel_rfl
                                · refine sim_cons ?_ ?_
                                  · refine sim_AssignAttr ok ?_ ?_ ?_ ?_
                                    · refine sim_Slice ?_ ?_ ?_
                                      · refine sim_List ?_
                                        · refine sim_args_cons ?_ ?_ ?_
                                          · exact sim_str
                                          · refine sim_args_cons ?_ ?_ ?_
                                            · exact sim_str
                                            · exact sim_args_nil
                                            · exact (star_plain rfl)
                                          · exact (star_plain rfl)
                                      · exact sim_part_none
                                      · refine sim_part_some ?_
                                        · refine sim_BinOp ?_ ?_ p_mod
                                          · refine sim_Name ok ?_ ?_
                                            · kernel_rfl
                                            · kernel_rfl
                                          · exact sim_int
                                    · refine sim_Name ok ?_ ?_
                                      · kernel_rfl
                                      · kernel_rfl
                                    · kernel_rfl
                                    · kernel_rfl
                                  · refine sim_cons ?_ ?_
                                    · refine sim_If ?_ ?_ ?_
                                      · refine sim_test_Compare ?_ ?_ ?_ p_truthy ?_
                                        · refine sim_BinOp ?_ ?_ p_mod
                                          · refine sim_BinOp ?_ ?_ p_div
                                            · refine sim_Name ok ?_ ?_
                                              · kernel_rfl
                                              · kernel_rfl
                                            · exact sim_int
                                          · exact sim_int
                                        · exact sim_int
                                        · exact (p_eq ok)
                                        · exact rfl
                                      · refine sim_one ?_
                                        · refine sim_AssignAttr ok ?_ ?_ ?_ ?_
                                          · exact sim_int
                                          · refine sim_Name ok ?_ ?_
                                            · kernel_rfl
                                            · kernel_rfl
                                          · kernel_rfl
                                          · kernel_rfl
                                      · exact sim_nil
                                    · refine sim_cons ?_ ?_
                                      · refine sim_Expr ?_ ?_ ?_ ?_
                                        · refine sim_ML ok PySem.F.slot_list_append ?_ pc_append ?_ ?_ ?_ ?_ ?_ ?_
                                          · exact rfl
                                          · refine sim_Attribute ok ?_ ?_
                                            · refine sim_Subscript ok ?_ ?_ ?_
                                              · refine sim_Name ok ?_ ?_
                                                · kernel_rfl
                                                · kernel_rfl
                                              · exact sim_int
                                              · exact fun _ _ => rfl
                                            · kernel_rfl
                                          · refine sim_args_cons ?_ ?_ ?_
                                            · refine sim_Name ok ?_ ?_
                                              · kernel_rfl
                                              · kernel_rfl
                                            · exact sim_args_nil
                                            · exact (star_plain rfl)
                                          · exact (plain_cons rfl plain_nil)
                                          · exact rfl
                                          · exact rfl
                                          · exact rfl
                                        · kernel_rfl
                                        · kernel_rfl
                                        · exact fun _ => by kernel_rfl
                                      · refine sim_cons ?_ ?_
                                        · refine sim_Assign ok ?_ ?_ ?_
                                          · refine sim_BoolOp ?_
                                            · refine sim_val_and ?_ p_truthy ?_
                                              · refine sim_Subscript ok ?_ ?_ ?_
                                                · refine sim_Name ok ?_ ?_
                                                  · kernel_rfl
                                                  · kernel_rfl
                                                · exact sim_int
                                                · exact fun _ _ => rfl
                                              · refine sim_val_one ?_
                                                · refine sim_Compare ?_ ?_ ?_ ?_
                                                  · refine sim_Attribute ok ?_ ?_
                                                    · refine sim_Name ok ?_ ?_
                                                      · kernel_rfl
                                                      · kernel_rfl
                                                    · kernel_rfl
                                                  · refine sim_List ?_
                                                    · exact sim_args_nil
                                                  · exact (p_ne ok)
                                                  · exact rfl
                                          · exact (.inl (by kernel_rfl))
                                          · kernel_rfl
                                        · refine sim_cons ?_ ?_
                                          · refine sim_If ?_ ?_ ?_
                                            · refine sim_test ?_ p_truthy
                                              · refine sim_Name ok ?_ ?_
                                                · kernel_rfl
                                                · kernel_rfl
                                            · refine sim_cons ?_ ?_
                                              · refine sim_Expr ?_ ?_ ?_ ?_
                                                · refine sim_ML ok PySem.F.slot_list_extend ?_ pc_extendE ?_ ?_ ?_ ?_ ?_ ?_
                                                  · exact rfl
                                                  · refine sim_Name ok ?_ ?_
                                                    · kernel_rfl
                                                    · kernel_rfl
                                                  · refine sim_args_cons ?_ ?_ ?_
                                                    · refine sim_ListComp ok (fr := []) ?_ ?_ ?_ ?_ ?_ ?_
                                                      · exact ⟨by kernel_rfl, by kernel_rfl, by kernel_rfl, by kernel_rfl, by kernel_rfl, by kernel_rfl, by kernel_rfl⟩
                                                      · refine sim_Attribute ok ?_ ?_
                                                        · refine sim_Name ok ?_ ?_
                                                          · kernel_rfl
                                                          · kernel_rfl
                                                        · kernel_rfl
                                                      · kernel_rfl
                                                      · intro _ _ ok
                                                        exact sim_tests_nil
                                                      · intro _ _ ok
                                                        refine sim_BinOp ?_ ?_ p_add
                                                        · exact sim_str
                                                        · refine sim_Name ok ?_ ?_
                                                          · kernel_rfl
                                                          · kernel_rfl
                                                      · exact (fun _ => rfl)
                                                    · exact sim_args_nil
                                                    · exact (star_plain rfl)
                                                  · exact (plain_cons rfl plain_nil)
                                                  · exact rfl
                                                  · exact rfl
                                                  · exact rfl
                                                · kernel_rfl
                                                · kernel_rfl
                                                · exact fun _ => by kernel_rfl
                                              · refine sim_one ?_
                                                · refine sim_If ?_ ?_ ?_
                                                  · refine sim_test_Compare ?_ ?_ ?_ p_truthy ?_
                                                    · refine sim_BinOp ?_ ?_ p_mod
                                                      · refine sim_BinOp ?_ ?_ p_div
                                                        · refine sim_Name ok ?_ ?_
                                                          · kernel_rfl
                                                          · kernel_rfl
                                                        · exact sim_int
                                                      · exact sim_int
                                                    · exact sim_int
                                                    · exact (p_eq ok)
                                                    · exact rfl
                                                  · refine sim_one ?_
                                                    · refine sim_Expr ?_ ?_ ?_ ?_
                                                      · refine sim_ML ok PySem.F.slot_list_append ?_ pc_append ?_ ?_ ?_ ?_ ?_ ?_
                                                        · exact rfl
                                                        · refine sim_Name ok ?_ ?_
                                                          · kernel_rfl
                                                          · kernel_rfl
                                                        · refine sim_args_cons ?_ ?_ ?_
                                                          · exact sim_str
                                                          · exact sim_args_nil
                                                          · exact (star_plain rfl)
                                                        · exact (plain_cons rfl plain_nil)
                                                        · exact rfl
                                                        · exact rfl
                                                        · exact rfl
                                                      · kernel_rfl
                                                      · kernel_rfl
                                                      · exact fun _ => by kernel_rfl
                                                  · exact sim_nil
                                            · refine sim_one ?_
                                              · refine sim_If ?_ ?_ ?_
                                                · refine sim_test ?_ p_truthy
                                                  · refine sim_Subscript ok ?_ ?_ ?_
                                                    · refine sim_Name ok ?_ ?_
                                                      · kernel_rfl
                                                      · kernel_rfl
                                                    · exact sim_int
                                                    · exact fun _ _ => rfl
                                                · refine sim_one ?_
                                                  · refine sim_Expr ?_ ?_ ?_ ?_
                                                    · refine sim_ML ok PySem.F.slot_list_append ?_ pc_append ?_ ?_ ?_ ?_ ?_ ?_
                                                      · exact rfl
                                                      · refine sim_Name ok ?_ ?_
                                                        · kernel_rfl
                                                        · kernel_rfl
                                                      · refine sim_args_cons ?_ ?_ ?_
                                                        · exact sim_str
                                                        · exact sim_args_nil
                                                        · exact (star_plain rfl)
                                                      · exact (plain_cons rfl plain_nil)
                                                      · exact rfl
                                                      · exact rfl
                                                      · exact rfl
                                                    · kernel_rfl
                                                    · kernel_rfl
                                                    · exact fun _ => by kernel_rfl
                                                · exact sim_nil
                                          · refine sim_one ?_
                                            · refine sim_Expr ?_ ?_ ?_ ?_
                                              · refine sim_ML ok PySem.F.slot_list_append ?_ pc_append ?_ ?_ ?_ ?_ ?_ ?_
                                                · exact rfl
                                                · refine sim_Name ok ?_ ?_
                                                  · kernel_rfl
                                                  · kernel_rfl
                                                · refine sim_args_cons ?_ ?_ ?_
                                                  · refine sim_List ?_
                                                    · refine sim_args_cons ?_ ?_ ?_
                                                      · refine sim_Name ok ?_ ?_
                                                        · kernel_rfl
                                                        · kernel_rfl
                                                      · refine sim_args_cons ?_ ?_ ?_
                                                        · refine sim_Name ok ?_ ?_
                                                          · kernel_rfl
                                                          · kernel_rfl
                                                        · refine sim_args_cons ?_ ?_ ?_
                                                          · exact sim_int
                                                          · exact sim_args_nil
                                                          · exact (star_plain rfl)
                                                        · exact (star_plain rfl)
                                                      · exact (star_plain rfl)
                                                  · exact sim_args_nil
                                                  · exact (star_plain rfl)
                                                · exact (plain_cons rfl plain_nil)
                                                · exact rfl
                                                · exact rfl
                                                · exact rfl
                                              · kernel_rfl
                                              · kernel_rfl
                                              · exact fun _ => by kernel_rfl
                              · refine sim_one ?_
                                · refine sim_If ?_ ?_ ?_
                                  · refine sim_test_Compare ?_ ?_ ?_ p_truthy ?_
                                    · refine sim_Name ok ?_ ?_
                                      · kernel_rfl
                                      · kernel_rfl
                                    · exact sim_int
                                    · exact (p_eq ok)
                                    · exact rfl
                                  · refine sim_cons ?_ ?_
                                    · refine sim_Expr ?_ ?_ ?_ ?_
                                      · refine sim_ML ok PySem.F.slot_list_append ?_ pc_append ?_ ?_ ?_ ?_ ?_ ?_
                                        · exact rfl
                                        · refine sim_Attribute ok ?_ ?_
                                          · refine sim_Subscript ok ?_ ?_ ?_
                                            · refine sim_Name ok ?_ ?_
                                              · kernel_rfl
                                              · kernel_rfl
                                            · exact sim_int
                                            · exact fun _ _ => rfl
                                          · kernel_rfl
                                        · refine sim_args_cons ?_ ?_ ?_
                                          · refine sim_BinOp ?_ ?_ p_mod
                                            · refine sim_Name ok ?_ ?_
                                              · kernel_rfl
                                              · kernel_rfl
                                            · exact sim_int
                                          · exact sim_args_nil
                                          · exact (star_plain rfl)
                                        · exact (plain_cons rfl plain_nil)
                                        · exact rfl
                                        · exact rfl
                                        · exact rfl
                                      · kernel_rfl
                                      · kernel_rfl
                                      · exact fun _ => by kernel_rfl
                                    · refine sim_one ?_
                                      · refine sim_If ?_ ?_ ?_
                                        · refine sim_test ?_ p_truthy
                                          · refine sim_Subscript ok ?_ ?_ ?_
                                            · refine sim_Name ok ?_ ?_
                                              · kernel_rfl
                                              · kernel_rfl
                                            · exact sim_int
                                            · exact fun _ _ => rfl
                                        · refine sim_one ?_
                                          · refine sim_Expr ?_ ?_ ?_ ?_
                                            · refine sim_ML ok PySem.F.slot_list_append ?_ pc_append ?_ ?_ ?_ ?_ ?_ ?_
                                              · exact rfl
                                              · refine sim_Name ok ?_ ?_
                                                · kernel_rfl
                                                · kernel_rfl
                                              · refine sim_args_cons ?_ ?_ ?_
                                                · refine sim_Subscript ok ?_ ?_ ?_
                                                  · refine sim_Name ok ?_ ?_
                                                    · kernel_rfl
                                                    · kernel_rfl
                                                  · refine sim_BinOp ?_ ?_ p_mod
                                                    · refine sim_Name ok ?_ ?_
                                                      · kernel_rfl
                                                      · kernel_rfl
                                                    · exact sim_int
                                                  · exact fun _ _ => rfl
                                                · exact sim_args_nil
                                                · exact (star_plain rfl)
                                              · exact (plain_cons rfl plain_nil)
                                              · exact rfl
                                              · exact rfl
                                              · exact rfl
                                            · kernel_rfl
                                            · kernel_rfl
                                            · exact fun _ => by kernel_rfl
                                        · exact sim_nil
                                  · refine sim_cons ?_ ?_
                                    · refine sim_Expr ?_ ?_ ?_ ?_
                                      · refine sim_ML ok PySem.F.slot_list_append ?_ pc_append ?_ ?_ ?_ ?_ ?_ ?_
                                        · exact rfl
                                        · refine sim_Attribute ok ?_ ?_
                                          · refine sim_Subscript ok ?_ ?_ ?_
                                            · refine sim_Name ok ?_ ?_
                                              · kernel_rfl
                                              · kernel_rfl
                                            · exact sim_int
                                            · exact fun _ _ => rfl
                                          · kernel_rfl
                                        · refine sim_args_cons ?_ ?_ ?_
                                          · refine sim_BinOp ?_ ?_ p_add
                                            · exact sim_str
                                            · refine sim_Subscript ok ?_ ?_ ?_
                                              · refine sim_Name ok ?_ ?_
                                                · kernel_rfl
                                                · kernel_rfl
                                              · refine sim_BinOp ?_ ?_ p_mod
                                                · refine sim_Name ok ?_ ?_
                                                  · kernel_rfl
                                                  · kernel_rfl
                                                · exact sim_int
                                              · exact fun _ _ => rfl
                                          · exact sim_args_nil
                                          · exact (star_plain rfl)
                                        · exact (plain_cons rfl plain_nil)
                                        · exact rfl
                                        · exact rfl
                                        · exact rfl
                                      · kernel_rfl
                                      · kernel_rfl
                                      · exact fun _ => by kernel_rfl
                                    · refine sim_one ?_
                                      · refine sim_If ?_ ?_ ?_
                                        · refine sim_test ?_ p_truthy
                                          · refine sim_Subscript ok ?_ ?_ ?_
                                            · refine sim_Name ok ?_ ?_
                                              · kernel_rfl
                                              · kernel_rfl
                                            · exact sim_int
                                            · exact fun _ _ => rfl
                                        · refine sim_one ?_
                                          · refine sim_Expr ?_ ?_ ?_ ?_
                                            · refine sim_ML ok PySem.F.slot_list_append ?_ pc_append ?_ ?_ ?_ ?_ ?_ ?_
                                              · exact rfl
                                              · refine sim_Name ok ?_ ?_
                                                · kernel_rfl
                                                · kernel_rfl
                                              · refine sim_args_cons ?_ ?_ ?_
                                                · refine sim_BinOp ?_ ?_ p_add
                                                  · exact sim_str
                                                  · refine sim_Subscript ok ?_ ?_ ?_
                                                    · refine sim_Name ok ?_ ?_
                                                      · kernel_rfl
                                                      · kernel_rfl
                                                    · refine sim_BinOp ?_ ?_ p_mod
                                                      · refine sim_Name ok ?_ ?_
                                                        · kernel_rfl
                                                        · kernel_rfl
                                                      · exact sim_int
                                                    · exact fun _ _ => rfl
                                                · exact sim_args_nil
                                                · exact (star_plain rfl)
                                              · exact (plain_cons rfl plain_nil)
                                              · exact rfl
                                              · exact rfl
                                              · exact rfl
                                            · kernel_rfl
                                            · kernel_rfl
                                            · exact fun _ => by kernel_rfl
                                        · exact sim_nil
                · exact fun _ => rfl
              · refine sim_cons ?_ ?_
                · refine sim_While 1000 ?_ ?_
                  · refine sim_test_Compare ?_ ?_ ?_ p_truthy ?_
                    · refine sim_Name ok ?_ ?_
                      · kernel_rfl
                      · kernel_rfl
                    · refine sim_List ?_
                      · exact sim_args_nil
                    · exact (p_neX ok)
                    · exact rfl
                  · refine sim_cons ?_ ?_
                    · refine sim_Assign ok ?_ ?_ ?_
                      · refine sim_ML ok PySem.F.slot_list_pop ?_ pc_pop ?_ ?_ plain_nil ?_ ?_ ?_
                        · exact rfl
                        · refine sim_Name ok ?_ ?_
                          · kernel_rfl
                          · kernel_rfl
                        · exact sim_args_nil
                        · exact rfl
                        · exact rfl
                        · exact rfl
                      · exact (.inl (by kernel_rfl))
                      · kernel_rfl
                    · refine sim_one ?_
                      · refine sim_If ?_ ?_ ?_
                        · refine sim_test_BoolOp ?_
                          · refine sim_all_and ?_ ?_
                            · refine sim_test ?_ p_truthy
                              · refine sim_Subscript ok ?_ ?_ ?_
                                · refine sim_Name ok ?_ ?_
                                  · kernel_rfl
                                  · kernel_rfl
                                · exact sim_int
                                · exact fun _ _ => rfl
                            · refine sim_all_and ?_ ?_
                              · refine sim_test_Compare ?_ ?_ ?_ p_truthy ?_
                                · refine sim_Subscript ok ?_ ?_ ?_
                                  · refine sim_Name ok ?_ ?_
                                    · kernel_rfl
                                    · kernel_rfl
                                  · exact sim_int
                                  · exact fun _ _ => rfl
                                · exact sim_int
                                · exact (p_eq ok)
                                · exact rfl
                              · exact sim_all_nil_and
                        · refine sim_one ?_
                          · refine sim_Expr ?_ ?_ ?_ ?_
                            · refine sim_ML ok PySem.F.slot_list_append ?_ pc_append ?_ ?_ ?_ ?_ ?_ ?_
                              · exact rfl
                              · refine sim_Name ok ?_ ?_
                                · kernel_rfl
                                · kernel_rfl
                              · refine sim_args_cons ?_ ?_ ?_
                                · exact sim_str
                                · exact sim_args_nil
                                · exact (star_plain rfl)
                              · exact (plain_cons rfl plain_nil)
                              · exact rfl
                              · exact rfl
                              · exact rfl
                            · kernel_rfl
                            · kernel_rfl
                            · exact fun _ => by kernel_rfl
                        · exact sim_nil
                · refine sim_one ?_
                  · refine sim_Return ?_
                    · refine sim_Compare ?_ ?_ ?_ ?_
                      · refine sim_Call ok (u := .type "str") ?_ ?_ keep_type ?_ ?_ call_name
                        · refine sim_Builtin ok ?_ ?_ ?_ ?_ ?_
                          · kernel_rfl
                          · kernel_rfl
                          · kernel_rfl
                          · exact (by decide)
                          · kernel_rfl
                        · refine sim_args_cons ?_ ?_ ?_
                          · refine sim_Name ok ?_ ?_
                            · kernel_rfl
                            · kernel_rfl
                          · exact sim_args_nil
                          · exact (star_plain rfl)
                        · exact (pc_str ok (so_str _ rfl rfl (Nat.le_of_ble_eq_true (by kernel_rfl))))
                        · exact (plain_cons rfl plain_nil)
                      · refine sim_MS ok PySem.F.slot_str_join ?_ pc_join ?_ ?_ ?_ ?_ ?_ ?_
                        · exact rfl
                        · exact sim_str
                        · refine sim_args_cons ?_ ?_ ?_
                          · refine sim_Name ok ?_ ?_
                            · kernel_rfl
                            · kernel_rfl
                          · exact sim_args_nil
                          · exact (star_plain rfl)
                        · exact (plain_cons rfl plain_nil)
                        · exact rfl
                        · exact rfl
                        · exact rfl
                      · exact (p_eq ok)
                      · exact rfl
  · exact Mine.law02_true a xs (by omega)
  · intro s' F hg' hos
    obtain ⟨_, _, F⟩ := F
    refine goodW_bool F hg' ?_ ?_ hos
    · first | exact fun _ => rfl | exact raisesW_false (by wrow_none_raised)
    · first | rfl | exact postW_of (by wrow_shape) (by wtm_val) (by str_meet; first | done | w_fin)
