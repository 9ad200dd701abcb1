import PyProof.Rows.All
import Wide.All
import OpenK.AllK
import Wide.FinOn
import PySem.Challenge.RW_dn0257_10
open PySem PySem.W PySem.Calls PyProof.Rows
set_option Elab.async false
namespace Mine
theorem runs_toks {M : Model} {Γ : Ctx} {p : Pos} {t : Sem Fin} {fs : List Frame} {s s' : Shared} {e : End} (h : Runs M Γ p t fs s e s') : s.toks ≤ s'.toks := by
  induction h with
  | done => exact Nat.le_refl _
  | raise => exact Nat.le_refl _
  | yield => exact Nat.le_refl _
  | fresh _ ih => exact Nat.le_trans (Nat.le_succ _) ih
  | call _ _ ih1 ih2 => exact Nat.le_trans ih1 ih2
  | resumeFresh _ _ _ _ ih1 ih2 => exact Nat.le_trans ih1 ih2
  | resumeSuspended _ _ _ _ ih1 ih2 => exact Nat.le_trans ih1 ih2
  | segRet _ _ ih1 ih2 => exact Nat.le_trans ih1 ih2
  | segGen _ _ ih1 ih2 => exact Nat.le_trans ih1 ih2
  | segSuspGen _ _ _ _ ih1 ih2 => exact Nat.le_trans ih1 ih2
  | _ => first | assumption | (rename_i ih; exact ih)
theorem wakes_toks {M : Model} {Γ : Ctx} {p : Pos} {g : Nat} {r : Resume} {s s' : Shared} {res : GenResult} (h : Wakes M Γ p g r s res s') : s.toks ≤ s'.toks := by
  unfold Wakes at h
  split at h
  · exact h.elim
  · split at h
    · obtain ⟨e₁, s₁, h1, _, _, rfl⟩ := h; have h2 := runs_toks h1; exact h2
    · rw [h.2]; exact Nat.le_refl _
    · rw [h.2]; exact Nat.le_refl _
  · obtain ⟨e₁, s₁, h1, _, _, rfl⟩ := h; have h2 := runs_toks h1; exact h2
  · rw [h.2]; exact Nat.le_refl _
  · rw [h.2]; exact Nat.le_refl _
theorem wp_toks {X : Type} (M : Model) (Γ : Ctx) (tree : Sem X) (n : Nat) {post : X → Pos → Shared → Prop} {exc : Value → Pos → Shared → Prop} : ∀ (pos : Pos) (sh : Shared), n ≤ sh.toks →
    Sem.wp M Γ tree post exc pos sh → Sem.wp M Γ tree (fun x p s => post x p s ∧ n ≤ s.toks) (fun v p s => exc v p s ∧ n ≤ s.toks) pos sh := by
  induction tree with
  | pure x => exact fun p s h k => ⟨k, h⟩
  | raise v => exact fun p s h k => ⟨k, h⟩
  | unsupported | finish | yield | fork | await | register => exact fun _ _ _ k => k
  | rule _ k ih | «at» _ k ih | alloc _ k ih | loadIfAlive _ k ih | point _ k ih | ask k ih | os _ _ k ih | handled _ k ih | newGen _ k ih | stack k ih | thread k ih => exact fun p s h k => ih _ _ _ h k
  | fresh k ih => exact fun p s h k => ih _ _ _ (Nat.le_trans h (Nat.le_succ _)) k
  | load a _ k ih | genState a k ih => exact fun p s hn ⟨o, ho, h⟩ => ⟨o, ho, ih _ _ _ hn h⟩
  | update a _ f k ih | choose _ _ k ih => exact fun p s hn ⟨ha, h⟩ => ⟨ha, ih _ _ _ hn h⟩
  | call c h g l k ih => exact fun p s hn ⟨r, s', hr, hk⟩ => ⟨r, s', hr, ih _ _ _ (Nat.le_trans hn (runs_toks hr)) hk⟩
  | resume g r l k ih => exact fun p s hn ⟨res, s', hw, h⟩ => ⟨res, s', hw, ih _ _ _ (Nat.le_trans hn (wakes_toks hw)) h⟩
theorem wpAny_toks {α : Type} {M : Model} {A : Around} {t : Sem α} {Q : α → Shared → Prop} {E : Value → Shared → Prop} {s : Shared} {n : Nat} (hn : n ≤ s.toks) (h : wpAny M A t (fun a s' => n ≤ s'.toks → Q a s') (fun e s' => n ≤ s'.toks → E e s') s) : wpAny M A t Q E s := fun Γ p hΓ =>
  Sem.wp_mono M Γ t (fun _ _ _ k => k.1 k.2) (fun _ _ _ k => k.1 k.2) p s (wp_toks M Γ t n p s hn (h Γ p hΓ))
end Mine
namespace Mine
/-- abstract values -/
inductive V where
  | none
  | bool (b : Bool)
  | int (i : Int)
  | str (s : List Nat)
  | byt (b : Array UInt8)
  | obj (i : Nat)
  | glob (v : Value)
/-- abstract objects -/
inductive O where
  | list (xs : List V)
  | tuple (xs : List V)
  | inst (as : List (String × V))
  | dict (es : List (List Nat × V))
  | range (a b st : Int)
  | slice (a b st : V)
  | clos (cs : List (String × V))
  | ctab
structure St where
  loc : String → Option V
  sto : List O
inductive Res (α : Type) where
  | ok (a : α) (st : St)
  | exc (k : String) (st : St)
  | fail
abbrev PM (α : Type) := St → Res α
def PM.pure {α : Type} (a : α) : PM α := fun st => .ok a st
def PM.bind {α β : Type} (m : PM α) (f : α → PM β) : PM β := fun st => match m st with
  | .ok a st' => f a st'
  | .exc k st' => .exc k st'
  | .fail => .fail
def PM.fail {α : Type} : PM α := fun _ => .fail
theorem bind_ok {α β : Type} {m : PM α} {f : α → PM β} {st st' : St} {b : β} (h : PM.bind m f st = .ok b st') : ∃ a st₁, m st = .ok a st₁ ∧ f a st₁ = .ok b st' := by
  unfold PM.bind at h
  cases e : m st with
  | ok a st₁ => rw [e] at h; exact ⟨a, st₁, rfl, h⟩
  | exc k st₁ => rw [e] at h; cases h
  | fail => rw [e] at h; cases h
theorem pure_ok {α : Type} {a b : α} {st st' : St} (h : PM.pure a st = .ok b st') : b = a ∧ st' = st := by cases h; exact ⟨rfl, rfl⟩
abbrev Map := List (Addr × Addr)
abbrev Led := List (Addr × Obj)
/-- what a step must leave as it is: hidden objects, frozen ones -/
structure Hd where
  h : Led
  z : Led
def okS (l : List Nat) : Prop := ∀ c ∈ l, c < 1114112
inductive VR (ρ : Map) : V → Value → Prop
  | none : VR ρ .none .none
  | bool (b : Bool) : VR ρ (.bool b) (.bool b)
  | int (i : Int) (t : Tok) : VR ρ (.int i) (.int i t)
  | str (l : List Nat) (t : Tok) : okS l → VR ρ (.str l) (.str ⟨l.toArray⟩ t)
  | byt (b : Array UInt8) (t : Tok) : VR ρ (.byt b) (.bytes b t)
  | obj {i : Nat} {p : Addr × Addr} : ρ[i]? = some p → VR ρ (.obj i) (.ref p.1)
  | glob (v : Value) : VR ρ (.glob v) v
theorem get_mono {ρ ρ' : Map} (h : ρ <+: ρ') {i : Nat} {p : Addr × Addr} (e : ρ[i]? = some p) : ρ'[i]? = some p := by
  obtain ⟨t, rfl⟩ := h
  have hi : i < ρ.length := by
    rcases Nat.lt_or_ge i ρ.length with q | q
    · exact q
    · rw [List.getElem?_eq_none q] at e; cases e
  rw [List.getElem?_append_left hi]; exact e
theorem VR.mono {ρ ρ' : Map} (h : ρ <+: ρ') {v : V} {u : Value} (x : VR ρ v u) : VR ρ' v u := by
  cases x with
  | none => exact .none
  | bool b => exact .bool b
  | int i t => exact .int i t
  | str l t h => exact .str l t h
  | byt b t => exact .byt b t
  | obj e => exact .obj (get_mono h e)
  | glob _ => exact .glob _
abbrev VRs (ρ : Map) := Paired (VR ρ)
theorem Paired.imp {α β : Type} {F G : α → β → Prop} (h : ∀ a b, F a b → G a b) : ∀ {l₁ : List α} {l₂ : List β}, Paired F l₁ l₂ → Paired G l₁ l₂
  | _, _, .nil => .nil
  | _, _, .cons x t => .cons (h _ _ x) (Paired.imp h t)
theorem VRs.mono {ρ ρ' : Map} (h : ρ <+: ρ') {vs : List V} {us : List Value} (x : VRs ρ vs us) : VRs ρ' vs us := Paired.imp (fun _ _ => VR.mono h) x
/-- an attribute table and the entries of its dict -/
def AR (ρ : Map) (a : String × V) (e : DictEntry) : Prop := (∃ t, e.key = .str (Str.ofString a.1) t) ∧ VR ρ a.2 e.val
/-- a dict by texts -/
def DR (ρ : Map) (a : List Nat × V) (e : Str × Value) : Prop := e.1 = ⟨a.1.toArray⟩ ∧ VR ρ a.2 e.2
abbrev tupleObj (its : List Value) (n : Nat) : Obj := { cls := .type "tuple", data := .seq its.toArray n }
abbrev listObj (its : List Value) (n : Nat) : Obj := { cls := .type "list", data := .seq its.toArray n }
structure Cx where
  prog : Program
  w : World
  K : Frag
  C : Addr
  p : Program
  loose : List Str
  mg : Str → Option Value
  mb : Str → Option Value
  h₀ : Heap
  L : Addr
  A : Around
  fenv : Env
  env : Env
  base : Heap
  outer : List Env
  os : OsState
  n : Nat
  fm : Str → Option Value
  fzn : Bool
  lam : FuncBody × Arguments × Scope × Str
  tab : Addr × Array Value × Pos
abbrev Cx.M (cx : Cx) : Model := model cx.prog cx.w
/-- a function made in a call: its body, its parameters, its scope, its qualified name; what its cells hold -/
def Lam (ρ : Map) (fz : Led) (f : FuncBody × Arguments × Scope × Str) (cs : List (String × V)) (fd : FuncData) : Prop :=
  fd.body = f.1 ∧ fd.params = f.2.1 ∧ fd.scope = f.2.2.1 ∧ fd.qualname = f.2.2.2 ∧ fd.globals = mainGlobals ∧ fd.builtins = builtinsNs ∧ fd.defaults = .none ∧ fd.kwdefaults = .none ∧
  (∃ c o, fd.code = .ref c ∧ (c, o) ∈ fz ∧ (∃ t vs, o.data = .fields vs ∧ vs[1]? = some (.str fd.qualname t))) ∧
  (∀ n v, cs.lookup n = some v → f.2.2.1.names.lookup (Str.ofString n) = some .free) ∧
  (∀ n v, cs.lookup n = some v → ∃ c o V, fd.closure.lookup (Str.ofString n) = some c ∧ (c, o) ∈ fz ∧ o.data = .cell (some V) ∧ VR ρ v V) ∧
  (∀ x c, fd.closure.lookup x = some c → ∃ o V, (c, o) ∈ fz ∧ o.data = .cell V) ∧ (∀ x y c, fd.closure.lookup x = some c → fd.closure.lookup y = some c → x = y)
def OAt (cx : Cx) (ρ : Map) (fz led : Led) (p : Addr × Addr) : O → Prop
  | .list xs => ∃ Xs n, VRs ρ xs Xs ∧ (p.1, listObj Xs n) ∈ led
  | .tuple xs => ∃ Xs n, VRs ρ xs Xs ∧ (p.1, tupleObj Xs n) ∈ led
  | .inst as => ∃ Es n, Paired (AR ρ) as Es ∧ Es.length ≤ 100 ∧ (p.1, instObj cx.C p.2) ∈ led ∧ (p.2, dictOf Es n) ∈ led
  | .dict es => ∃ o kvs, Paired (DR ρ) es kvs ∧ o.IsDictOf (PySem.strKind cx.prog cx.w) kvs ∧ p.1 ≠ sysModules ∧ (p.1, o) ∈ led
  | .range a b st => ∃ A B S, VR ρ (.int a) A ∧ VR ρ (.int b) B ∧ VR ρ (.int st) S ∧ (p.1, ({ cls := .type "range", data := .fields #[A, B, S] } : Obj)) ∈ led
  | .slice a b st => ∃ A B S, VR ρ a A ∧ VR ρ b B ∧ VR ρ st S ∧ (p.1, ({ cls := .type "slice", data := .fields #[A, B, S] } : Obj)) ∈ led
  | .clos cs => ∃ fd, (p.1, ({ cls := .type "function", data := .func fd } : Obj)) ∈ led ∧ Lam ρ fz cx.lam cs fd
  | .ctab => p.1 = cx.tab.1 ∧ ∃ ps more, ps = cx.tab.2.1 ++ more ∧ TriplesOk ps.toList ∧ (p.1, ({ cls := .none, data := .fields ps } : Obj)) ∈ led ∧
      (codeAmong cx.tab.2.2 ps.toList = none ∨ ∃ c o, codeAmong cx.tab.2.2 ps.toList = some (.ref c) ∧ (c, o) ∈ fz ∧ (∃ t vs, o.data = .fields vs ∧ vs[1]? = some (.str cx.lam.2.2.2 t)))
/-- where the built-in names' module lies -/
def BM (mg : Str → Option Value) (h : Heap) : Prop := ∃ bm ob, mg "__builtins__" = some (.ref bm) ∧ bm ≠ builtinsNs ∧ h.get? bm = some ob ∧ ob.cls = .type "module" ∧ ob.dict = some builtinsNs ∧ ob.data = .plain
theorem BM.keeps {mg : Str → Option Value} {h h' : Heap} (x : BM mg h) (k : ∀ b o, h.get? b = some o → h'.get? b = some o) : BM mg h' := by
  obtain ⟨bm, ob, a1, a2, a3, a4⟩ := x
  exact ⟨bm, ob, a1, a2, k _ _ a3, a4⟩
structure Cx.Ok (cx : Cx) : Prop where
  bmain : BM cx.mg cx.h₀
  kin : cx.K.In cx.h₀
  top : TopRead cx.p cx.loose cx.mg cx.mb cx.h₀
  below : ∃ A₀, Below A₀ cx.base cx.outer cx.h₀
  frames : cx.A.frames = some (cx.fenv :: cx.outer)
  fframe : cx.fenv.frame = some cx.L
  fkind : cx.fenv.scope.kind = .function
  kind : cx.env.scope.kind = .function
  globals : cx.env.globals = mainGlobals
  builtins : cx.env.builtins = builtinsNs
  handled : cx.A.handled = none
  depth : cx.A.depth + 4 * cx.n + 4 < recursionLimit
  units : cx.A.units + 40 * cx.n + 200 < cLine
  cinj : ∀ x y c, cx.env.cells.lookup x = some c → cx.env.cells.lookup y = some c → x = y
def BoundTo (env : Env) (mloc : Str → Option Value) (led : Led) (x : Str) (V : Value) : Prop :=
  (env.kindOf x = some .local ∧ mloc x = some V) ∨
  ((env.kindOf x = some .cell ∨ env.kindOf x = some .free) ∧ ∃ c o, env.cells.lookup x = some c ∧ (c, o) ∈ led ∧ o.data = .cell (some V))
/-- where the current block's own names lie: in the function's frame, or in the dict of a comprehension -/
def LocNs (cx : Cx) (ρ : Map) (hid : Hd) (fz led : Led) (m mloc : Str → Option Value) : Prop :=
  (cx.env.locals = cx.L ∧ mloc = m) ∨
  (cx.env.locals ≠ cx.L ∧ ∃ o es ep, (cx.env.locals, o) ∈ led ∧ o.data = .dict es ep ∧ StrKeys es ∧ (∀ name, nsFind es name = mloc name) ∧
    (∀ p ∈ ρ, p.1 ≠ cx.env.locals ∧ p.2 ≠ cx.env.locals) ∧ (∀ q ∈ hid.h, q.1 ≠ cx.env.locals) ∧ (∀ q ∈ fz, q.1 ≠ cx.env.locals) ∧ (∀ x, cx.env.cells.lookup x ≠ some cx.env.locals))
structure Bear (cx : Cx) (ρ : Map) (hid : Hd) (fz led : Led) (m mloc : Str → Option Value) (st : St) : Prop where
  nd : (led.map (·.1)).Nodup
  cm : cx.env.locals ≠ cx.L → m = cx.fm
  ln : LocNs cx ρ hid fz led m mloc
  len : ρ.length = st.sto.length
  own : ∀ p ∈ ρ, p.1 ∈ led.map (·.1) ∧ p.2 ∈ led.map (·.1)
  obj : ∀ (i : Nat) (o : O) (p : Addr × Addr), st.sto[i]? = some o → ρ[i]? = some p → OAt cx ρ fz led p o
  sep : ∀ (i j : Nat) (p q : Addr × Addr), ρ[i]? = some p → ρ[j]? = some q → i ≠ j → p.1 ≠ q.1 ∧ p.1 ≠ q.2 ∧ p.2 ≠ q.1 ∧ p.2 ≠ q.2
  hin : ∀ q ∈ hid.h, q ∈ led
  hsep : ∀ q ∈ hid.h, ∀ p ∈ ρ, q.1 ≠ p.1 ∧ q.1 ≠ p.2
  cel : ∀ x c, cx.env.cells.lookup x = some c → ∃ o v, (c, o) ∈ led ∧ o.data = .cell v
  csep : ∀ x c, cx.env.cells.lookup x = some c → (∀ q ∈ hid.h, q.1 ≠ c) ∧ (∀ p ∈ ρ, p.1 ≠ c ∧ p.2 ≠ c)
  fin : ∀ q ∈ fz, q ∈ led
  fz0 : ∀ q ∈ hid.z, q ∈ fz
  hfz : ∀ q ∈ hid.h, ∀ r ∈ fz, r.1 ≠ q.1
  fsep : ∀ q ∈ fz, ∀ p ∈ ρ, q.1 ≠ p.1 ∧ q.1 ≠ p.2
  fcel : cx.fzn = false → ∀ q ∈ fz, ∀ x, cx.env.kindOf x = some .cell → cx.env.cells.lookup x ≠ some q.1
  loc : ∀ n v, st.loc n = some v → ∃ V, VR ρ v V ∧ BoundTo cx.env mloc led (Str.ofString n) V
structure RelD (cx : Cx) (ρ : Map) (hid : Hd) (fz led : Led) (m mloc : Str → Option Value) (st : St) (s : Shared) : Prop where
  F : Fr cx.h₀ cx.L s.heap m
  N : News cx.h₀ cx.L s.heap led
  B : Bear cx ρ hid fz led m mloc st
  gens : s.gens = #[]
  os : s.os = cx.os
  tk : 0 < s.toks
def Rel (cx : Cx) (ρ : Map) (hid : Hd) (st : St) (s : Shared) : Prop := ∃ fz led m mloc, RelD cx ρ hid fz led m mloc st s
theorem Rel.pos {cx : Cx} {ρ : Map} {hid : Hd} {st : St} {s : Shared} (x : Rel cx ρ hid st s) : 0 < s.toks := by
  obtain ⟨_, _, _, _, x⟩ := x
  exact x.tk
/-- tokens never shrink -/
theorem lf {α : Type} {M : Model} {A : Around} {t : Sem α} {Q : α → Shared → Prop} {E : Value → Shared → Prop} {s : Shared} (x : 0 < s.toks) (h : wpAny M A t (fun a s' => 0 < s'.toks → Q a s') E s) : wpAny M A t Q E s :=
  wpAny_toks x (wpAny_mono h (fun _ _ k => k) fun _ _ k _ => k)
def Sim {α β : Type} (cx : Cx) (t : Sem α) (m : PM β) (R : Map → β → α → Prop) : Prop :=
  ∀ ρ hid st s, Rel cx ρ hid st s → ∀ b st', m st = .ok b st' →
    wpAny cx.M cx.A t (fun a s' => ∃ ρ', ρ <+: ρ' ∧ Rel cx ρ' hid st' s' ∧ R ρ' b a) (fun _ _ => False) s
abbrev SimV (cx : Cx) (t : Sem Value) (m : PM V) : Prop := Sim cx t m VR
end Mine
namespace Mine
theorem AR.mono {ρ ρ' : Map} (h : ρ <+: ρ') {a : String × V} {e : DictEntry} (x : AR ρ a e) : AR ρ' a e := ⟨x.1, x.2.mono h⟩
theorem DR.mono {ρ ρ' : Map} (h : ρ <+: ρ') {a : List Nat × V} {e : Str × Value} (x : DR ρ a e) : DR ρ' a e := ⟨x.1, x.2.mono h⟩
theorem Lam.mono {ρ ρ' : Map} {fz fz' : Led} {f : FuncBody × Arguments × Scope × Str} {cs : List (String × V)} {fd : FuncData} (h : ρ <+: ρ') (hf : ∀ q ∈ fz, q ∈ fz') (x : Lam ρ fz f cs fd) : Lam ρ' fz' f cs fd := by
  obtain ⟨a1, a2, a3, a4, a5, a6, a7, a8, ⟨c, o, b1, b2, b3⟩, kf, k, kk, ki⟩ := x
  refine ⟨a1, a2, a3, a4, a5, a6, a7, a8, ⟨c, o, b1, hf _ b2, b3⟩, kf, fun n v e => ?_, fun x c e => ?_, ki⟩
  · obtain ⟨c, o, V, k1, k2, k3, k4⟩ := k n v e
    exact ⟨c, o, V, k1, hf _ k2, k3, k4.mono h⟩
  · obtain ⟨o, V, k1, k2⟩ := kk x c e
    exact ⟨o, V, hf _ k1, k2⟩
theorem OAt.mono {cx : Cx} {ρ ρ' : Map} {fz fz' led led' : Led} {p : Addr × Addr} {o : O} (h : ρ <+: ρ') (hf : ∀ q ∈ fz, q ∈ fz')
    (hl : ∀ b ob, (b, ob) ∈ led → b = p.1 ∨ b = p.2 → (b, ob) ∈ led') (x : OAt cx ρ fz led p o) : OAt cx ρ' fz' led' p o := by
  cases o with
  | list xs => obtain ⟨Xs, n, a, b⟩ := x; exact ⟨Xs, n, a.mono h, hl _ _ b (.inl rfl)⟩
  | tuple xs => obtain ⟨Xs, n, a, b⟩ := x; exact ⟨Xs, n, a.mono h, hl _ _ b (.inl rfl)⟩
  | inst as => obtain ⟨Es, n, a, c, b, d⟩ := x; exact ⟨Es, n, Paired.imp (fun _ _ => AR.mono h) a, c, hl _ _ b (.inl rfl), hl _ _ d (.inr rfl)⟩
  | dict es => obtain ⟨o, kvs, a, d, c, b⟩ := x; exact ⟨o, kvs, Paired.imp (fun _ _ => DR.mono h) a, d, c, hl _ _ b (.inl rfl)⟩
  | range a b c => obtain ⟨A, B, S, x1, x2, x3, x4⟩ := x; exact ⟨A, B, S, x1.mono h, x2.mono h, x3.mono h, hl _ _ x4 (.inl rfl)⟩
  | slice a b c => obtain ⟨A, B, S, x1, x2, x3, x4⟩ := x; exact ⟨A, B, S, x1.mono h, x2.mono h, x3.mono h, hl _ _ x4 (.inl rfl)⟩
  | clos cs => obtain ⟨fd, x1, x2⟩ := x; exact ⟨fd, hl _ _ x1 (.inl rfl), x2.mono h hf⟩
  | ctab =>
    obtain ⟨x0, ps, more, x1, x2, x3, x4⟩ := x
    refine ⟨x0, ps, more, x1, x2, hl _ _ x3 (.inl rfl), ?_⟩
    rcases x4 with x4 | ⟨c, o, y1, y2, y3⟩
    · exact .inl x4
    · exact .inr ⟨c, o, y1, hf _ y2, y3⟩
theorem BoundTo.mono {env : Env} {mloc : Str → Option Value} {led led' : Led} {x : Str} {V : Value} (hl : ∀ c o, env.cells.lookup x = some c → (c, o) ∈ led → (c, o) ∈ led') (h : BoundTo env mloc led x V) : BoundTo env mloc led' x V := by
  rcases h with h | ⟨hk, c, o, h1, h2, h3⟩
  · exact .inl h
  · exact .inr ⟨hk, c, o, h1, hl c o h1 h2, h3⟩
theorem mem_of_get {ρ : Map} {i : Nat} {p : Addr × Addr} (h : ρ[i]? = some p) : p ∈ ρ := List.mem_of_getElem? h
/-- one object's place in the ledger bears another object -/
def updL (d : Addr) (ob : Obj) (led : Led) : Led := led.map fun q => if q.1 = d then (d, ob) else q
theorem updL_fst (d : Addr) (ob : Obj) (led : Led) : (updL d ob led).map (·.1) = led.map (·.1) := by
  unfold updL
  rw [List.map_map]
  refine List.map_congr_left fun q _ => ?_
  show (if q.1 = d then (d, ob) else q).1 = q.1
  split
  · rename_i h; exact h.symm
  · rfl
theorem mem_updL_ne {d b : Addr} {ob o : Obj} {led : Led} (h : (b, o) ∈ led) (hne : b ≠ d) : (b, o) ∈ updL d ob led := by
  refine List.mem_map.mpr ⟨(b, o), h, ?_⟩
  show (if b = d then (d, ob) else (b, o)) = (b, o)
  rw [if_neg hne]
theorem mem_updL_self {d : Addr} {ob o : Obj} {led : Led} (h : (d, o) ∈ led) : (d, ob) ∈ updL d ob led := by
  refine List.mem_map.mpr ⟨(d, o), h, ?_⟩
  show (if d = d then (d, ob) else (d, o)) = (d, ob)
  rw [if_pos rfl]
theorem upd_of {d : Addr} {o : Obj} (ob : Obj) : ∀ {led : Led}, (d, o) ∈ led → (led.map (·.1)).Nodup → Upd d o ob led (updL d ob led)
  | q :: r, hm, hn => by
    rw [List.map_cons, List.nodup_cons] at hn
    by_cases hq : q.1 = d
    · have hr : ∀ p ∈ r, p.1 ≠ d := fun p hp e => hn.1 (by rw [hq, ← e]; exact List.mem_map_of_mem hp)
      have hqe : q = (d, o) := by
        rcases List.mem_cons.mp hm with e | e
        · exact e.symm
        · exact absurd rfl (hr _ e)
      subst hqe
      have e : updL d ob ((d, o) :: r) = (d, ob) :: r := by
        unfold updL
        rw [List.map_cons]
        have : r.map (fun q => if q.1 = d then (d, ob) else q) = r := by
          conv => rhs; rw [← List.map_id r]
          exact List.map_congr_left fun p hp => by rw [if_neg (hr p hp)]; rfl
        rw [this]; simp
      rw [e]
      exact .head hr
    · have hm' : (d, o) ∈ r := by
        rcases List.mem_cons.mp hm with e | e
        · exact absurd (by rw [← e]) hq
        · exact e
      have e : updL d ob (q :: r) = q :: updL d ob r := by unfold updL; rw [List.map_cons, if_neg hq]
      rw [e]
      exact .tail hq (upd_of ob hm' hn.2)
theorem nodup_mem {led : Led} (hn : (led.map (·.1)).Nodup) {b : Addr} {o o' : Obj} (h : (b, o) ∈ led) (h' : (b, o') ∈ led) : o = o' := by
  induction led with
  | nil => cases h
  | cons q r ih =>
    rw [List.map_cons, List.nodup_cons] at hn
    rcases List.mem_cons.mp h with e | e <;> rcases List.mem_cons.mp h' with e' | e'
    · exact (Prod.mk.inj (e.trans e'.symm)).2
    · exact absurd (List.mem_map_of_mem (f := (·.1)) e') (by rw [← e] at hn; exact hn.1)
    · exact absurd (List.mem_map_of_mem (f := (·.1)) e) (by rw [← e'] at hn; exact hn.1)
    · exact ih hn.2 e e'
section
variable {cx : Cx} {ρ : Map} {hid : Hd} {fz led : Led} {m mloc : Str → Option Value} {st : St}
/-- an object of the store changes -/
theorem Bear.upd (B : Bear cx ρ hid fz led m mloc st) {i : Nat} {p : Addr × Addr} {d : Addr} {ob : Obj} {o : O} (hp : ρ[i]? = some p) (hd : d = p.1 ∨ d = p.2)
    (ho : OAt cx ρ fz (updL d ob led) p o) : Bear cx ρ hid fz (updL d ob led) m mloc { st with sto := st.sto.set i o } := by
  have hpm := mem_of_get hp
  refine ⟨by rw [updL_fst]; exact B.nd, B.cm, ?_, by rw [List.length_set]; exact B.len, fun q hq => by rw [updL_fst]; exact B.own q hq, fun j o' q hj hq => ?_, B.sep, fun q hq => ?_, B.hsep, fun x c hc => ?_, B.csep, fun q hq => ?_, B.fz0, B.hfz, B.fsep, B.fcel, fun n v hv => ?_⟩
  · rcases B.ln with h | ⟨h1, o', es, ep, h2, h3, h4, h5, h6, h7, h8, h9⟩
    · exact .inl h
    · refine .inr ⟨h1, o', es, ep, mem_updL_ne h2 fun e => ?_, h3, h4, h5, h6, h7, h8, h9⟩
      rcases hd with hd | hd
      · exact (h6 p hpm).1 (hd.symm.trans e.symm)
      · exact (h6 p hpm).2 (hd.symm.trans e.symm)
  · by_cases hij : j = i
    · subst hij
      have : q = p := Option.some.inj (hq.symm.trans hp)
      subst this
      have hlt : j < st.sto.length := by
        rcases Nat.lt_or_ge j st.sto.length with z | z
        · exact z
        · rw [← B.len] at z; rw [List.getElem?_eq_none z] at hp; cases hp
      rw [List.getElem?_set_self hlt] at hj
      cases hj
      exact ho
    · rw [List.getElem?_set_ne (Ne.symm hij)] at hj
      refine (B.obj j o' q hj hq).mono (List.prefix_refl _) (fun _ h => h) fun b ob' hb hbq => mem_updL_ne hb fun e => ?_
      have s := B.sep j i q p hq hp hij
      rcases hbq with rfl | rfl <;> rcases hd with rfl | rfl
      · exact s.1 e
      · exact s.2.1 e
      · exact s.2.2.1 e
      · exact s.2.2.2 e
  · refine mem_updL_ne (B.hin q hq) fun e => ?_
    have := B.hsep q hq p hpm
    rcases hd with rfl | rfl
    · exact this.1 e
    · exact this.2 e
  · obtain ⟨o', v, h1, h2⟩ := B.cel x c hc
    refine ⟨o', v, mem_updL_ne h1 fun e => ?_, h2⟩
    have := (B.csep x c hc).2 p hpm
    rcases hd with rfl | rfl
    · exact this.1 e.symm
    · exact this.2 e.symm
  · refine mem_updL_ne (B.fin q hq) fun e => ?_
    have := B.fsep q hq p hpm
    rcases hd with rfl | rfl
    · exact this.1 e
    · exact this.2 e
  · obtain ⟨V, h1, h2⟩ := B.loc n v hv
    refine ⟨V, h1, h2.mono fun c o' hc hm => mem_updL_ne hm fun e => ?_⟩
    have := (B.csep _ c hc).2 p hpm
    rcases hd with rfl | rfl
    · exact this.1 e.symm
    · exact this.2 e.symm
/-- the ledger grows by something that is not told -/
theorem Bear.more (B : Bear cx ρ hid fz led m mloc st) {a : Addr} {ob : Obj} (ha : ∀ q ∈ led, q.1 ≠ a) : Bear cx ρ hid fz ((a, ob) :: led) m mloc st := by
  refine ⟨?_, B.cm, ?_, B.len, fun q hq => ⟨.tail _ (B.own q hq).1, .tail _ (B.own q hq).2⟩, fun i o p h1 h2 => (B.obj i o p h1 h2).mono (List.prefix_refl _) (fun _ h => h) fun _ _ h _ => .tail _ h, B.sep, fun q hq => .tail _ (B.hin q hq), B.hsep, fun x c hc => ?_, B.csep, fun q hq => .tail _ (B.fin q hq), B.fz0, B.hfz, B.fsep, B.fcel, fun n v hv => ?_⟩
  · rw [List.map_cons, List.nodup_cons]
    refine ⟨fun h => ?_, B.nd⟩
    obtain ⟨q, hq, e⟩ := List.mem_map.mp h
    exact ha q hq e
  · rcases B.ln with h | ⟨h1, o', es, ep, h2, r⟩
    · exact .inl h
    · exact .inr ⟨h1, o', es, ep, .tail _ h2, r⟩
  · obtain ⟨o', v, h1, h2⟩ := B.cel x c hc
    exact ⟨o', v, .tail _ h1, h2⟩
  · obtain ⟨V, h1, h2⟩ := B.loc n v hv
    exact ⟨V, h1, h2.mono fun c o' hc hm => .tail _ hm⟩
/-- something of the ledger enters the store -/
theorem Bear.enter (B : Bear cx ρ hid fz led m mloc st) {p : Addr × Addr} {o : O} (h1 : p.1 ∈ led.map (·.1)) (h2 : p.2 ∈ led.map (·.1)) (hs : ∀ q ∈ ρ, p.1 ≠ q.1 ∧ p.1 ≠ q.2 ∧ p.2 ≠ q.1 ∧ p.2 ≠ q.2)
    (hh : ∀ q ∈ hid.h, q.1 ≠ p.1 ∧ q.1 ≠ p.2) (hf : ∀ q ∈ fz, q.1 ≠ p.1 ∧ q.1 ≠ p.2) (hc : ∀ x c, cx.env.cells.lookup x = some c → p.1 ≠ c ∧ p.2 ≠ c) (hl : cx.env.locals ≠ cx.L → p.1 ≠ cx.env.locals ∧ p.2 ≠ cx.env.locals)
    (ho : OAt cx (ρ ++ [p]) fz led p o) : Bear cx (ρ ++ [p]) hid fz led m mloc { st with sto := st.sto ++ [o] } := by
  have hpre : ρ <+: ρ ++ [p] := List.prefix_append _ _
  have hmem : ∀ q, q ∈ ρ ++ [p] → q ∈ ρ ∨ q = p := fun q hq => by
    rcases List.mem_append.mp hq with h | h
    · exact .inl h
    · exact .inr (List.mem_singleton.mp h)
  have hget : ∀ {i : Nat} {q : Addr × Addr}, (ρ ++ [p])[i]? = some q → (i < ρ.length ∧ ρ[i]? = some q) ∨ (i = ρ.length ∧ q = p) := fun {i q} e => by
    rcases Nat.lt_trichotomy i ρ.length with z | z | z
    · rw [List.getElem?_append_left z] at e; exact .inl ⟨z, e⟩
    · subst z; rw [List.getElem?_append_right (Nat.le_refl _), Nat.sub_self] at e; cases e; exact .inr ⟨rfl, rfl⟩
    · rw [List.getElem?_eq_none (by rw [List.length_append]; exact z)] at e; cases e
  refine ⟨B.nd, B.cm, ?_, by rw [List.length_append, List.length_append, B.len]; rfl, fun q hq => ?_, fun i o' q hi hq => ?_, fun i j q r hq hr hij => ?_, B.hin, fun q hq r hr => ?_, B.cel, fun x c hx => ⟨(B.csep x c hx).1, fun q hq => ?_⟩, B.fin, B.fz0, B.hfz, fun q hq r hr => ?_, B.fcel, fun n v hv => ?_⟩
  · rcases B.ln with h | ⟨g1, o', es, ep, g2, g3, g4, g5, g6, g7⟩
    · exact .inl h
    · refine .inr ⟨g1, o', es, ep, g2, g3, g4, g5, fun q hq => ?_, g7⟩
      rcases hmem q hq with h | rfl
      · exact g6 q h
      · exact hl g1
  · rcases hmem q hq with h | rfl
    · exact B.own q h
    · exact ⟨h1, h2⟩
  · rcases hget hq with ⟨z, e⟩ | ⟨z, rfl⟩
    · rw [List.getElem?_append_left (by rw [← B.len]; exact z)] at hi
      exact (B.obj i o' q hi e).mono hpre (fun _ h => h) fun _ _ h _ => h
    · rw [z, B.len, List.getElem?_append_right (Nat.le_refl _), Nat.sub_self] at hi
      cases hi
      exact ho
  · rcases hget hq with ⟨z, e⟩ | ⟨z, rfl⟩ <;> rcases hget hr with ⟨z', e'⟩ | ⟨z', rfl⟩
    · exact B.sep i j q r e e' hij
    · have := hs q (mem_of_get e); exact ⟨Ne.symm this.1, Ne.symm this.2.2.1, Ne.symm this.2.1, Ne.symm this.2.2.2⟩
    · exact hs r (mem_of_get e')
    · exact absurd (z.trans z'.symm) hij
  · rcases hmem r hr with h | rfl
    · exact B.hsep q hq r h
    · exact hh q hq
  · rcases hmem q hq with h | rfl
    · exact (B.csep x c hx).2 q h
    · exact hc x c hx
  · rcases hmem r hr with h | rfl
    · exact B.fsep q hq r h
    · exact hf q hq
  · obtain ⟨V, a, b⟩ := B.loc n v hv
    exact ⟨V, a.mono hpre, b⟩
/-- a new object of one address -/
theorem Bear.alloc (B : Bear cx ρ hid fz led m mloc st) {a : Addr} {ob : Obj} {o : O} (ha : ∀ q ∈ led, q.1 ≠ a)
    (ho : OAt cx (ρ ++ [(a, a)]) fz ((a, ob) :: led) (a, a) o) : Bear cx (ρ ++ [(a, a)]) hid fz ((a, ob) :: led) m mloc { st with sto := st.sto ++ [o] } := by
  have hin : ∀ b, b ∈ led.map (·.1) → b ≠ a := fun b hb => by
    obtain ⟨q, hq, rfl⟩ := List.mem_map.mp hb
    exact ha q hq
  refine (B.more ha).enter (.head _) (.head _) (fun q hq => ?_) (fun q hq => ?_) (fun q hq => ?_) (fun x c hc => ?_) (fun hl => ?_) ho
  · have := B.own q hq
    exact ⟨Ne.symm (hin _ this.1), Ne.symm (hin _ this.2), Ne.symm (hin _ this.1), Ne.symm (hin _ this.2)⟩
  · exact ⟨ha q (B.hin q hq), ha q (B.hin q hq)⟩
  · exact ⟨ha q (B.fin q hq), ha q (B.fin q hq)⟩
  · obtain ⟨o', v, h1, _⟩ := B.cel x c hc
    exact ⟨Ne.symm (ha _ h1), Ne.symm (ha _ h1)⟩
  · rcases B.ln with h | ⟨_, o', es, ep, h2, _⟩
    · exact absurd h.1 hl
    · exact ⟨Ne.symm (ha _ h2), Ne.symm (ha _ h2)⟩
end
end Mine
namespace Mine
theorem char_inj {a b : Char} (h : a.toNat = b.toNat) : a = b := by
  apply Char.ext
  apply UInt32.toNat_inj.mp
  exact h
theorem ofString_inj {a b : String} (h : Str.ofString a = Str.ofString b) : a = b := by
  rw [Str.ofString_eq_toList, Str.ofString_eq_toList] at h
  have h1 : (a.toList.map Char.toNat) = (b.toList.map Char.toNat) := by
    have := congrArg Str.cps h
    simpa using this
  have h2 : a.toList = b.toList := by
    have : ∀ (l l' : List Char), l.map Char.toNat = l'.map Char.toNat → l = l' := by
      intro l
      induction l with
      | nil => intro l' e; cases l' with | nil => rfl | cons x r => simp at e
      | cons x r ih => intro l' e; cases l' with
        | nil => simp at e
        | cons y r' =>
          simp only [List.map_cons, List.cons.injEq] at e
          rw [char_inj e.1, ih r' e.2]
    exact this _ _ h1
  exact String.toList_inj.mp h2
/-- going on behind a step -/
theorem wp_seq {α β : Type} {cx : Cx} {A : Around} {t : Sem α} {ρ : Map} {hid : Hd} {st' : St} {b : β} {R : Map → β → α → Prop} {s : Shared} {Q : α → Shared → Prop} {E : Value → Shared → Prop}
    (h : wpAny cx.M A t (fun a s' => ∃ ρ', ρ <+: ρ' ∧ Rel cx ρ' hid st' s' ∧ R ρ' b a) (fun _ _ => False) s)
    (k : ∀ a s' ρ', ρ <+: ρ' → Rel cx ρ' hid st' s' → R ρ' b a → Q a s') : wpAny cx.M A t Q E s :=
  wpAny_mono h (fun a s' x => let ⟨ρ', h1, h2, h3⟩ := x; k a s' ρ' h1 h2 h3) (fun _ _ f => f.elim)
theorem pre_refl (ρ : Map) : ρ <+: ρ := List.prefix_refl ρ
theorem pre_trans {a b c : Map} (x : a <+: b) (y : b <+: c) : a <+: c := List.IsPrefix.trans x y
section
variable {cx : Cx} {ρ : Map} {hid : Hd} {fz led : Led} {m mloc : Str → Option Value} {st : St} {s : Shared}
theorem RelD.nl (r : RelD cx ρ hid fz led m mloc st s) : s.heap.Ns cx.env.locals mloc := by
  rcases r.B.ln with ⟨h1, h2⟩ | ⟨_, o, es, ep, h2, h3, h4, h5, _⟩
  · rw [h1, h2]; exact r.F.ns
  · exact ⟨o, es, ep, (r.N _ h2).1, h3, h4, h5⟩
theorem RelD.rel (r : RelD cx ρ hid fz led m mloc st s) : Rel cx ρ hid st s := ⟨fz, led, m, mloc, r⟩
/-- only the heap and the tokens change -/
theorem RelD.go {h' : Heap} {tk : Nat} {ρ' : Map} {fz' led' : Led} {m' mloc' : Str → Option Value} {st' : St} (r : RelD cx ρ hid fz led m mloc st s)
    (F : Fr cx.h₀ cx.L h' m') (N : News cx.h₀ cx.L h' led') (B : Bear cx ρ' hid fz' led' m' mloc' st') (htk : 0 < tk := by first | assumption | exact Nat.succ_pos _ | exact Rel.pos (by assumption) | exact RelD.tk (by assumption)) : RelD cx ρ' hid fz' led' m' mloc' st' { s with heap := h', toks := tk } :=
  ⟨F, N, B, r.gens, r.os, htk⟩
theorem Rel.toks (r : Rel cx ρ hid st s) (tk : Nat) (htk : 0 < tk := by first | assumption | exact Nat.succ_pos _ | exact Rel.pos (by assumption) | exact RelD.tk (by assumption)) : Rel cx ρ hid st { s with toks := tk } := by
  obtain ⟨fz, led, m, mloc, r⟩ := r
  exact ⟨fz, led, m, mloc, r.F, r.N, r.B, r.gens, r.os, htk⟩
theorem News.updL {h₀ h h' : Heap} {L d : Addr} {led : Led} {o ob : Obj} (N : News h₀ L h led) (hm : (d, o) ∈ led) (hs : Heap.SameBut d h h') (ho : h'.get? d = some ob) : News h₀ L h' (updL d ob led) := fun q hq => by
  obtain ⟨p, hp, e⟩ := List.mem_map.mp hq
  by_cases hd : p.1 = d
  · rw [if_pos hd] at e
    subst e
    have := N _ hm
    exact ⟨ho, this.2.1, this.2.2⟩
  · rw [if_neg hd] at e
    subst e
    have := N _ hp
    exact ⟨(hs.2 _ hd).trans this.1, this.2⟩
theorem Fr.sameBut {h₀ h h' : Heap} {L d : Addr} {m : Str → Option Value} (F : Fr h₀ L h m) (hs : Heap.SameBut d h h') (hd : d ≠ L) (hn : h₀.get? d = none) : Fr h₀ L h' m :=
  ⟨F.ns.sameBut hs (Ne.symm hd), fun b o e => (hs.2 b (fun q => by rw [q, hn] at e; cases e)).trans (F.keep b o e), F.above⟩
theorem Bear.setF (B : Bear cx ρ hid fz led m mloc st) (hL : cx.env.locals = cx.L) {n : String} {v : V} {W : Value} (hk : cx.env.kindOf (Str.ofString n) = some .local) (hv : VR ρ v W) :
    Bear cx ρ hid fz led (fun y => if y = Str.ofString n then some W else m y) (fun y => if y = Str.ofString n then some W else m y) { st with loc := fun k => if k = n then some v else st.loc k } := by
  have hm : mloc = m := by
    rcases B.ln with h | h
    · exact h.2
    · exact absurd hL h.1
  refine ⟨B.nd, fun h => absurd hL h, .inl ⟨hL, rfl⟩, B.len, B.own, B.obj, B.sep, B.hin, B.hsep, B.cel, B.csep, B.fin, B.fz0, B.hfz, B.fsep, B.fcel, fun k w hw => ?_⟩
  by_cases hkn : k = n
  · subst hkn
    simp only [if_true] at hw
    cases hw
    exact ⟨W, hv, .inl ⟨hk, by simp⟩⟩
  · simp only [if_neg hkn] at hw
    obtain ⟨V', h1, h2⟩ := B.loc k w hw
    refine ⟨V', h1, ?_⟩
    rcases h2 with ⟨a, b⟩ | b
    · exact .inl ⟨a, (if_neg (fun e => hkn (ofString_inj e))).trans (by rw [← hm]; exact b)⟩
    · exact .inr b
theorem Bear.setC (B : Bear cx ρ hid fz led m mloc st) (hL : cx.env.locals ≠ cx.L) {n : String} {v : V} {W : Value} {o' : Obj} {es' : Array DictEntry} {ep' : Nat} (hk : cx.env.kindOf (Str.ofString n) = some .local) (hv : VR ρ v W)
    (hd : o'.data = .dict es' ep') (hs : StrKeys es') (hf : ∀ y, nsFind es' y = if y = Str.ofString n then some W else mloc y) :
    Bear cx ρ hid fz (Mine.updL cx.env.locals o' led) m (fun y => if y = Str.ofString n then some W else mloc y) { st with loc := fun k => if k = n then some v else st.loc k } := by
  rcases B.ln with h | ⟨_, o, es, ep, g2, g3, g4, g5, g6, g7, g8, g9⟩
  · exact absurd h.1 hL
  refine ⟨by rw [updL_fst]; exact B.nd, B.cm, .inr ⟨hL, o', es', ep', mem_updL_self g2, hd, hs, hf, g6, g7, g8, g9⟩, B.len, fun q hq => by rw [updL_fst]; exact B.own q hq, fun i ob p h1 h2 => ?_, B.sep, fun q hq => mem_updL_ne (B.hin q hq) (g7 q hq), B.hsep, fun x c hc => ?_, B.csep, fun q hq => mem_updL_ne (B.fin q hq) (g8 q hq), B.fz0, B.hfz, B.fsep, B.fcel, fun k w hw => ?_⟩
  · refine (B.obj i ob p h1 h2).mono (pre_refl _) (fun _ h => h) fun b ob' hb hbp => mem_updL_ne hb ?_
    have := g6 p (mem_of_get h2)
    rcases hbp with rfl | rfl
    · exact this.1
    · exact this.2
  · obtain ⟨ob, v', h1, h2⟩ := B.cel x c hc
    exact ⟨ob, v', mem_updL_ne h1 fun e => g9 x (e ▸ hc), h2⟩
  · by_cases hkn : k = n
    · subst hkn
      simp only [if_true] at hw
      cases hw
      exact ⟨W, hv, .inl ⟨hk, by simp⟩⟩
    · simp only [if_neg hkn] at hw
      obtain ⟨V', h1, h2⟩ := B.loc k w hw
      refine ⟨V', h1, ?_⟩
      rcases h2 with ⟨a, b⟩ | ⟨a, c, ob, b1, b2, b3⟩
      · exact .inl ⟨a, (if_neg (fun e => hkn (ofString_inj e))).trans b⟩
      · exact .inr ⟨a, c, ob, b1, mem_updL_ne b2 fun e => g9 _ (e ▸ b1), b3⟩
theorem Bear.setCell (B : Bear cx ρ hid fz led m mloc st) (hci : ∀ x y c, cx.env.cells.lookup x = some c → cx.env.cells.lookup y = some c → x = y) (hfzn : cx.fzn = false) {n : String} {v : V} {W : Value} {c : Addr} {o' : Obj}
    (hk : cx.env.kindOf (Str.ofString n) = some .cell) (hc : cx.env.cells.lookup (Str.ofString n) = some c) (hv : VR ρ v W) (hd : o'.data = .cell (some W)) :
    Bear cx ρ hid fz (Mine.updL c o' led) m mloc { st with loc := fun k => if k = n then some v else st.loc k } := by
  obtain ⟨oc, vc, hcm, hcd⟩ := B.cel _ _ hc
  have hcs := B.csep _ _ hc
  refine ⟨by rw [updL_fst]; exact B.nd, B.cm, ?_, B.len, fun q hq => by rw [updL_fst]; exact B.own q hq, fun i ob p h1 h2 => ?_, B.sep, fun q hq => mem_updL_ne (B.hin q hq) (hcs.1 q hq), B.hsep, fun x d hx => ?_, B.csep, fun q hq => mem_updL_ne (B.fin q hq) fun e => B.fcel hfzn q hq _ hk (e ▸ hc), B.fz0, B.hfz, B.fsep, B.fcel, fun k w hw => ?_⟩
  · rcases B.ln with h | ⟨g1, o, es, ep, g2, g3, g4, g5, g6, g7, g8, g9⟩
    · exact .inl h
    · exact .inr ⟨g1, o, es, ep, mem_updL_ne g2 fun e => g9 _ (e ▸ hc), g3, g4, g5, g6, g7, g8, g9⟩
  · refine (B.obj i ob p h1 h2).mono (pre_refl _) (fun _ h => h) fun b ob' hb hbp => mem_updL_ne hb ?_
    have := hcs.2 p (mem_of_get h2)
    rcases hbp with rfl | rfl
    · exact this.1
    · exact this.2
  · by_cases hdc : d = c
    · subst hdc
      exact ⟨o', some W, mem_updL_self hcm, hd⟩
    · obtain ⟨ob, v', h1, h2⟩ := B.cel x d hx
      exact ⟨ob, v', mem_updL_ne h1 hdc, h2⟩
  · by_cases hkn : k = n
    · subst hkn
      simp only [if_true] at hw
      cases hw
      exact ⟨W, hv, .inr ⟨.inl hk, c, o', hc, mem_updL_self hcm, hd⟩⟩
    · simp only [if_neg hkn] at hw
      obtain ⟨V', h1, h2⟩ := B.loc k w hw
      refine ⟨V', h1, ?_⟩
      rcases h2 with h2 | ⟨a, d, ob, b1, b2, b3⟩
      · exact .inl h2
      · exact .inr ⟨a, d, ob, b1, mem_updL_ne b2 (fun e => hkn (ofString_inj (hci _ _ d b1 (e ▸ hc)))), b3⟩
end
/-- locals -/
def getL (n : String) : PM V := fun st => match st.loc n with
  | some v => .ok v st
  | none => .fail
def setL (n : String) (v : V) : PM Unit := fun st => .ok () { st with loc := fun k => if k = n then some v else st.loc k }
theorem load_name {cx : Cx} (ok : cx.Ok) {n : String} {ρ : Map} {hid : Hd} {st : St} {s : Shared} (r : Rel cx ρ hid st s) {v : V} (hv : st.loc n = some v) (hcd : (Str.ofString n == ("__classdict__" : Str)) = false) {Q : Value → Shared → Prop} {E : Value → Shared → Prop} {A : Around}
    (h : ∀ W, VR ρ v W → Q W s) : wpAny cx.M A (loadName cx.env (Str.ofString n)) Q E s := by
  obtain ⟨fz, led, m, mloc, r⟩ := r
  obtain ⟨W, hw, hb⟩ := r.B.loc n v hv
  rcases hb with ⟨hk, hm⟩ | ⟨hk | hk, c, o, h1, h2, h3⟩
  · exact wpAny_loadName_local ok.kind hk r.nl hm (h W hw)
  · exact wpAny_loadName_cell ok.kind hk h1 ⟨o, (r.N _ h2).1, h3⟩ (h W hw)
  · exact wpAny_loadName_free ok.kind hk h1 ⟨o, (r.N _ h2).1, h3⟩ (h W hw) hcd
theorem sim_Name {cx : Cx} (ok : cx.Ok) {n : String} {pos : Pos} (hd : (Str.ofString n == ("__debug__" : Str)) = false) (hcd : (Str.ofString n == ("__classdict__" : Str)) = false) : SimV cx (eval (.Name (Str.ofString n) pos) cx.env) (getL n) := by
  intro ρ hid st s r v st' e
  unfold getL at e
  cases hv : st.loc n with
  | none => rw [hv] at e; cases e
  | some w =>
    rw [hv] at e
    cases e
    exact wpAny_Name (load_name ok r hv hcd fun W hw => ⟨ρ, pre_refl ρ, r, hw⟩) hd
/-- a name that may be bound: of the block's own, or a cell that no function made here keeps -/
abbrev Asg (cx : Cx) (n : String) : Prop := cx.env.kindOf (Str.ofString n) = some .local ∨ (cx.env.kindOf (Str.ofString n) = some .cell ∧ (cx.env.cells.lookup (Str.ofString n)).isSome = true ∧ cx.fzn = false)
theorem store_name {cx : Cx} (ok : cx.Ok) {n : String} {ρ : Map} {hid : Hd} {st : St} {s : Shared} {v : V} {W : Value} (r : Rel cx ρ hid st s) (hv : VR ρ v W)
    (hk : Asg cx n) {Q : Unit → Shared → Prop} {E : Value → Shared → Prop} {A : Around}
    (h : ∀ s', Rel cx ρ hid { st with loc := fun k => if k = n then some v else st.loc k } s' → Q () s') : wpAny cx.M A (storeName cx.env (Str.ofString n) W) Q E s := by
  obtain ⟨fz, led, m, mloc, r⟩ := r
  rcases hk with hk | ⟨hk, hc, hfzn⟩
  · by_cases hL : cx.env.locals = cx.L
    · refine wpAny_storeName_local hk r.nl (fun h' hn hs => h _ ?_) (by rw [ok.kind]; rfl)
      have hm : mloc = m := by
        rcases r.B.ln with z | z
        · exact z.2
        · exact absurd hL z.1
      subst hm
      refine RelD.rel (r.go ?_ (r.N.set (hL ▸ hs)) (r.B.setF hL hk hv))
      exact r.F.set (hL ▸ hn) (hL ▸ hs)
    · refine wpAny_storeName_local hk r.nl (fun h' hn hs => h _ ?_) (by rw [ok.kind]; rfl)
      obtain ⟨o', es', ep', q1, q2, q3, q4⟩ := hn
      rcases r.B.ln with z | ⟨_, o, es, ep, g2, _⟩
      · exact absurd z.1 hL
      have hg := r.N _ g2
      exact RelD.rel (r.go (Fr.sameBut r.F hs hL hg.2.2) (News.updL r.N g2 hs q1) (r.B.setC hL hk hv q2 q3 q4))
  · obtain ⟨c, hc⟩ := Option.isSome_iff_exists.mp hc
    obtain ⟨o, v₀, g1, g2⟩ := r.B.cel _ _ hc
    have hg := r.N _ g1
    refine wpAny_storeName_cell ok.kind hk hc ⟨o, hg.1, g2⟩ fun h' hcell hs => h _ ?_
    obtain ⟨o', q1, q2⟩ := hcell
    exact RelD.rel (r.go (tk := s.toks) (Fr.sameBut r.F hs hg.2.1 hg.2.2) (News.updL r.N g1 hs q1) (r.B.setCell ok.cinj hfzn hk hc hv q2))
/-- globals and built-ins -/
theorem sim_Global {cx : Cx} (ok : cx.Ok) {x : Str} {pos : Pos} {u : Value} (hx : cx.env.kindOf x = some .globalImplicit) (e : nsIn cx.K mainGlobals x = some (some u)) (hd : (x == ("__debug__" : Str)) = false) :
    SimV cx (eval (.Name x pos) cx.env) (PM.pure (.glob u)) := by
  intro ρ hid st s r v st' h
  cases h
  obtain ⟨fz, led, m, mloc, r'⟩ := id r
  refine Name_function_global ok.kind hx (loadGlobal_global (mg := cx.mg) (v := u) (by rw [ok.globals]; exact ok.top.g.keeps r'.F.keep) (mg_of ok.kin ok.top.g e) ⟨ρ, pre_refl ρ, r, .glob u⟩) hd
theorem sim_Builtin {cx : Cx} (ok : cx.Ok) {x : Str} {pos : Pos} {u : Value} (hx : cx.env.kindOf x = some .globalImplicit) (e : nsIn cx.K mainGlobals x = some none) (hb : bootBuiltins x = some u) (hn : x ≠ "__name__") (hd : (x == ("__debug__" : Str)) = false) :
    SimV cx (eval (.Name x pos) cx.env) (PM.pure (.glob u)) := by
  intro ρ hid st s r v st' h
  cases h
  obtain ⟨fz, led, m, mloc, r'⟩ := id r
  refine Name_function_global ok.kind hx (loadGlobal_builtin (mg := cx.mg) (mb := cx.mb) (v := u) (by rw [ok.globals]; exact ok.top.g.keeps r'.F.keep) (mg_none_of ok.kin ok.top.g e) (by rw [ok.builtins]; exact ok.top.b.keeps r'.F.keep) ((ok.top.builtins x hn).trans hb) ⟨ρ, pre_refl ρ, r, .glob u⟩) hd
/-- literals -/
theorem sim_int {cx : Cx} {i : Int} {k : Nat} {pos : Pos} : SimV cx (eval (.Constant (.int i) k pos) cx.env) (PM.pure (.int i)) := by
  intro ρ hid st s r v st' h; cases h
  exact fun _ _ _ => ⟨ρ, pre_refl ρ, r.toks _, .int i s.toks⟩
theorem sim_bool {cx : Cx} {b : Bool} {k : Nat} {pos : Pos} : SimV cx (eval (.Constant (.bool b) k pos) cx.env) (PM.pure (.bool b)) := by
  intro ρ hid st s r v st' h; cases h
  exact fun _ _ _ => ⟨ρ, pre_refl ρ, r, .bool b⟩
theorem sim_none {cx : Cx} {k : Nat} {pos : Pos} : SimV cx (eval (.Constant .none k pos) cx.env) (PM.pure .none) := by
  intro ρ hid st s r v st' h; cases h
  exact fun _ _ _ => ⟨ρ, pre_refl ρ, r, .none⟩
/-- the signs of a text -/
abbrev cps (x : String) : List Nat := (Str.ofString x).cps.toList
theorem str_cps (x : Str) : x = ⟨x.cps.toList.toArray⟩ := by cases x; simp
theorem cps_ok (x : String) : okS (cps x) := by
  intro c hc
  unfold cps at hc
  rw [Str.ofString_eq_toList] at hc
  simp only [List.mem_map] at hc
  obtain ⟨ch, _, rfl⟩ := hc
  have h := ch.valid
  simp only [UInt32.isValidChar, Nat.isValidChar] at h
  have e : ch.toNat = ch.val.toNat := rfl
  omega
theorem sim_str {cx : Cx} {x : String} {k : Nat} {pos : Pos} : SimV cx (eval (.Constant (.str (Str.ofString x)) k pos) cx.env) (PM.pure (.str (cps x))) := by
  intro ρ hid st s r v st' h; cases h
  refine fun _ _ _ => ⟨ρ, pre_refl ρ, r.toks _, ?_⟩
  have := VR.str (ρ := ρ) (cps x) s.toks (cps_ok x)
  rwa [← str_cps] at this
end Mine
namespace Mine
inductive Fl where
  | next | brk | cont
  | ret (v : V)
inductive FR (ρ : Map) : Fl → Flow → Prop
  | next : FR ρ .next .next
  | brk : FR ρ .brk .brk
  | cont : FR ρ .cont .cont
  | ret {v : V} {W : Value} : VR ρ v W → FR ρ (.ret v) (.ret W)
def BR (_ : Map) (a b : Bool) : Prop := a = b
def UR (_ : Map) (_ _ : Unit) : Prop := True
/-- a primitive of one, of two arguments, of a list of them -/
def P1 {α β : Type} (cx : Cx) (t : Value → Sem α) (f : V → PM β) (R : Map → β → α → Prop) : Prop :=
  ∀ ρ hid st s, Rel cx ρ hid st s → ∀ a A, VR ρ a A → ∀ v st', f a st = .ok v st' →
    wpAny cx.M cx.A (t A) (fun V s' => ∃ ρ', ρ <+: ρ' ∧ Rel cx ρ' hid st' s' ∧ R ρ' v V) (fun _ _ => False) s
def P2 {α β : Type} (cx : Cx) (t : Value → Value → Sem α) (f : V → V → PM β) (R : Map → β → α → Prop) : Prop :=
  ∀ ρ hid st s, Rel cx ρ hid st s → ∀ a A b B, VR ρ a A → VR ρ b B → ∀ v st', f a b st = .ok v st' →
    wpAny cx.M cx.A (t A B) (fun V s' => ∃ ρ', ρ <+: ρ' ∧ Rel cx ρ' hid st' s' ∧ R ρ' v V) (fun _ _ => False) s
def PL {α β : Type} (cx : Cx) (t : List Value → Sem α) (f : List V → PM β) (R : Map → β → α → Prop) : Prop :=
  ∀ ρ hid st s, Rel cx ρ hid st s → ∀ vs Vs, VRs ρ vs Vs → ∀ v st', f vs st = .ok v st' →
    wpAny cx.M cx.A (t Vs) (fun V s' => ∃ ρ', ρ <+: ρ' ∧ Rel cx ρ' hid st' s' ∧ R ρ' v V) (fun _ _ => False) s
section
variable {cx : Cx}
theorem sim_BinOp {l r : Expr} {op : Operator} {pos : Pos} {ma mb : PM V} {f : V → V → PM V} (h1 : SimV cx (eval l cx.env) ma) (h2 : SimV cx (eval r cx.env) mb) (hp : P2 cx (binaryOp op) f VR) :
    SimV cx (eval (.BinOp l op r pos) cx.env) (PM.bind ma fun a => PM.bind mb fun b => f a b) := by
  intro ρ hid st s x v st' h
  obtain ⟨a, st1, e1, h⟩ := bind_ok h
  obtain ⟨b, st2, e2, h⟩ := bind_ok h
  refine wpAny_BinOp (wp_seq (h1 ρ hid st s x a st1 e1) fun A s1 ρ1 p1 r1 v1 => wp_seq (h2 ρ1 hid st1 s1 r1 b st2 e2) fun B s2 ρ2 p2 r2 v2 => wp_seq (hp ρ2 hid st2 s2 r2 a A b B (v1.mono p2) v2 v st' h) fun W s3 ρ3 p3 r3 v3 => ?_)
  exact ⟨ρ3, pre_trans p1 (pre_trans p2 p3), r3, v3⟩
theorem sim_Compare {l r : Expr} {op : CmpOp} {pos : Pos} {ma mb : PM V} {f : V → V → PM V} (h1 : SimV cx (eval l cx.env) ma) (h2 : SimV cx (eval r cx.env) mb) (hp : P2 cx (compareOp op) f VR) (hm : behindInMarks op r = false) :
    SimV cx (eval (.Compare l [op] [r] pos) cx.env) (PM.bind ma fun a => PM.bind mb fun b => f a b) := by
  intro ρ hid st s x v st' h
  obtain ⟨a, st1, e1, h⟩ := bind_ok h
  obtain ⟨b, st2, e2, h⟩ := bind_ok h
  refine wpAny_Compare1 (wp_seq (h1 ρ hid st s x a st1 e1) fun A s1 ρ1 p1 r1 v1 => wp_seq (h2 ρ1 hid st1 s1 r1 b st2 e2) fun B s2 ρ2 p2 r2 v2 => wp_seq (hp ρ2 hid st2 s2 r2 a A b B (v1.mono p2) v2 v st' h) fun W s3 ρ3 p3 r3 v3 => ?_) hm
  exact ⟨ρ3, pre_trans p1 (pre_trans p2 p3), r3, v3⟩
theorem sim_Unary {e : Expr} {op : UnaryOp} {pos : Pos} {ma : PM V} {f : V → PM V} (h1 : SimV cx (eval e cx.env) ma) (hp : P1 cx (unaryOp op) f VR) :
    SimV cx (eval (.UnaryOp op e pos) cx.env) (PM.bind ma f) := by
  intro ρ hid st s x v st' h
  obtain ⟨a, st1, e1, h⟩ := bind_ok h
  rw [arm_eval_UnaryOp]
  refine wpAny_bind (wp_seq (h1 ρ hid st s x a st1 e1) fun A s1 ρ1 p1 r1 v1 => wpAny_bind (wpAny_standAt (wpAny_holding (wp_seq (hp ρ1 hid st1 s1 r1 a A v1 v st' h) fun W s3 ρ3 p3 r3 v3 => ?_))))
  exact ⟨ρ3, pre_trans p1 p3, r3, v3⟩
/-- tests -/
abbrev SimT (cx : Cx) (e : Expr) (m : PM Bool) : Prop := Sim cx (isTrue e cx.env (eval e cx.env)) m BR
theorem sim_test {e : Expr} {ma : PM V} {f : V → PM Bool} (h1 : SimV cx (eval e cx.env) ma) (hp : P1 cx truthy f BR)
    (he : isTrue e cx.env (eval e cx.env) = (do let v ← eval e cx.env; standAt e.pos; holding [v] (truthy v)) := by rfl) : SimT cx e (PM.bind ma f) := by
  intro ρ hid st s x v st' h
  obtain ⟨a, st1, e1, h⟩ := bind_ok h
  rw [he]
  refine wpAny_bind (wp_seq (h1 ρ hid st s x a st1 e1) fun A s1 ρ1 p1 r1 v1 => wpAny_bind (wpAny_standAt (wpAny_holding (wp_seq (hp ρ1 hid st1 s1 r1 a A v1 v st' h) fun W s3 ρ3 p3 r3 v3 => ?_))))
  exact ⟨ρ3, pre_trans p1 p3, r3, v3⟩
theorem sim_test_Compare {l r : Expr} {op : CmpOp} {pos : Pos} {ma mb : PM V} {f : V → V → PM V} {g : V → PM Bool} (h1 : SimV cx (eval l cx.env) ma) (h2 : SimV cx (eval r cx.env) mb) (hp : P2 cx (compareOp op) f VR) (ht : P1 cx truthy g BR) (hm : behindInMarks op r = false) :
    SimT cx (.Compare l [op] [r] pos) (PM.bind ma fun a => PM.bind mb fun b => PM.bind (f a b) g) := by
  intro ρ hid st s x v st' h
  obtain ⟨a, st1, e1, h⟩ := bind_ok h
  obtain ⟨b, st2, e2, h⟩ := bind_ok h
  obtain ⟨c, st3, e3, h⟩ := bind_ok h
  refine wpAny_isTrue_Compare1 (wp_seq (h1 ρ hid st s x a st1 e1) fun A s1 ρ1 p1 r1 v1 => wp_seq (h2 ρ1 hid st1 s1 r1 b st2 e2) fun B s2 ρ2 p2 r2 v2 => wp_seq (hp ρ2 hid st2 s2 r2 a A b B (v1.mono p2) v2 c st3 e3) fun W s3 ρ3 p3 r3 v3 => wp_seq (ht ρ3 hid st3 s3 r3 c W v3 v st' h) fun W s4 ρ4 p4 r4 v4 => ?_) hm
  exact ⟨ρ4, pre_trans p1 (pre_trans p2 (pre_trans p3 p4)), r4, v4⟩
theorem sim_test_Not {e : Expr} {pos : Pos} {m : PM Bool} (h1 : SimT cx e m) : SimT cx (.UnaryOp .Not e pos) (PM.bind m fun b => PM.pure (!b)) := by
  intro ρ hid st s x v st' h
  obtain ⟨b, st1, e1, h⟩ := bind_ok h
  obtain ⟨rfl, rfl⟩ := pure_ok h
  refine wpAny_isTrue_Not (wp_seq (h1 ρ hid st s x b _ e1) fun c s1 ρ1 p1 r1 v1 => ⟨ρ1, p1, r1, ?_⟩)
  cases v1; rfl
def andP (m k : PM Bool) : PM Bool := PM.bind m fun b => match b with | true => k | false => PM.pure false
def orP (m k : PM Bool) : PM Bool := PM.bind m fun b => match b with | true => PM.pure true | false => k
abbrev SimA (cx : Cx) (op : BoolOp) (es : List Expr) (m : PM Bool) : Prop := Sim cx (allTrue op es cx.env) m BR
theorem sim_all_nil_and : SimA cx .And [] (PM.pure true) := by
  intro ρ hid st s x v st' h; cases h
  exact wpAny_pure ⟨ρ, pre_refl ρ, x, rfl⟩
theorem sim_all_nil_or : SimA cx .Or [] (PM.pure false) := by
  intro ρ hid st s x v st' h; cases h
  exact wpAny_pure ⟨ρ, pre_refl ρ, x, rfl⟩
theorem sim_all_and {e : Expr} {es : List Expr} {m k : PM Bool} (h1 : SimT cx e m) (h2 : SimA cx .And es k) : SimA cx .And (e :: es) (andP m k) := by
  intro ρ hid st s x v st' h
  obtain ⟨b, st1, e1, h⟩ := bind_ok h
  rw [arm_allTrue_cons]
  refine wpAny_bind (wp_seq (h1 ρ hid st s x b st1 e1) fun c s1 ρ1 p1 r1 v1 => ?_)
  cases v1
  cases b with
  | true => exact wp_seq (h2 ρ1 hid st1 s1 r1 v st' h) fun d s2 ρ2 p2 r2 v2 => ⟨ρ2, pre_trans p1 p2, r2, v2⟩
  | false => cases h; exact wpAny_pure ⟨ρ1, p1, r1, rfl⟩
theorem sim_all_or {e : Expr} {es : List Expr} {m k : PM Bool} (h1 : SimT cx e m) (h2 : SimA cx .Or es k) : SimA cx .Or (e :: es) (orP m k) := by
  intro ρ hid st s x v st' h
  obtain ⟨b, st1, e1, h⟩ := bind_ok h
  rw [arm_allTrue_cons]
  refine wpAny_bind (wp_seq (h1 ρ hid st s x b st1 e1) fun c s1 ρ1 p1 r1 v1 => ?_)
  cases v1
  cases b with
  | false => exact wp_seq (h2 ρ1 hid st1 s1 r1 v st' h) fun d s2 ρ2 p2 r2 v2 => ⟨ρ2, pre_trans p1 p2, r2, v2⟩
  | true => cases h; exact wpAny_pure ⟨ρ1, p1, r1, rfl⟩
theorem sim_test_BoolOp {op : BoolOp} {es : List Expr} {pos : Pos} {m : PM Bool} (h : SimA cx op es m) : SimT cx (.BoolOp op es pos) m := h
def iteP {α : Type} (m : PM Bool) (a b : PM α) : PM α := PM.bind m fun c => match c with | true => a | false => b
theorem sim_IfExp {t a b : Expr} {pos : Pos} {m : PM Bool} {ma mb : PM V} (h : SimT cx t m) (h1 : SimV cx (eval a cx.env) ma) (h2 : SimV cx (eval b cx.env) mb) : SimV cx (eval (.IfExp t a b pos) cx.env) (iteP m ma mb) := by
  intro ρ hid st s x v st' e
  obtain ⟨c, st1, e1, e⟩ := bind_ok e
  rw [arm_eval_IfExp]
  refine wpAny_bind (wp_seq (h ρ hid st s x c st1 e1) fun c' s1 ρ1 p1 r1 v1 => ?_)
  cases v1
  cases c with
  | true => exact wp_seq (h1 ρ1 hid st1 s1 r1 v st' e) fun d s2 ρ2 p2 r2 v2 => ⟨ρ2, pre_trans p1 p2, r2, v2⟩
  | false => exact wp_seq (h2 ρ1 hid st1 s1 r1 v st' e) fun d s2 ρ2 p2 r2 v2 => ⟨ρ2, pre_trans p1 p2, r2, v2⟩
/-- lists of arguments -/
abbrev SimL (cx : Cx) (pos : Pos) (es : List Expr) (m : PM (List V)) : Prop := Sim cx (spliced (backTo pos (starEach es cx.env))) m VRs
theorem sim_args_nil {pos : Pos} : SimL cx pos [] (PM.pure []) := by
  intro ρ hid st s x v st' h; cases h
  exact spliced_nil ⟨ρ, pre_refl ρ, x, .nil⟩
theorem sim_args_cons {pos : Pos} {e : Expr} {es : List Expr} {m : PM V} {k : PM (List V)} (h1 : SimV cx (eval e cx.env) m) (h2 : SimL cx pos es k) (he : starEach (e :: es) cx.env = (false, eval e cx.env) :: starEach es cx.env) :
    SimL cx pos (e :: es) (PM.bind m fun v => PM.bind k fun vs => PM.pure (v :: vs)) := by
  intro ρ hid st s x v st' h
  obtain ⟨a, st1, e1, h⟩ := bind_ok h
  obtain ⟨b, st2, e2, h⟩ := bind_ok h
  obtain ⟨rfl, rfl⟩ := pure_ok h
  rw [he]
  refine spliced_cons (wp_seq (h1 ρ hid st s x a st1 e1) fun A s1 ρ1 p1 r1 v1 => ?_)
  refine wp_seq (h2 ρ1 hid st1 s1 r1 b st' e2) fun Bs s2 ρ2 p2 r2 v2 => ?_
  exact ⟨ρ2, pre_trans p1 p2, r2, .cons (v1.mono p2) v2⟩
/-- displays -/
def alloc (o : O) : PM V := fun st => .ok (.obj st.sto.length) { st with sto := st.sto ++ [o] }
def allocList (vs : List V) : PM V := fun st => if vs.length ≤ 1000000 then alloc (.list vs) st else .fail
def allocTuple (vs : List V) : PM V := fun st => if vs.length ≤ 1000000 then alloc (.tuple vs) st else .fail
theorem alloc_get (ρ : Map) (p : Addr × Addr) : (ρ ++ [p])[ρ.length]? = some p := by
  rw [List.getElem?_append_right (Nat.le_refl _), Nat.sub_self]; rfl
theorem news_fresh {h₀ h : Heap} {L : Addr} {led : Led} (N : News h₀ L h led) : ∀ q ∈ led, q.1 ≠ h.objs.size := fun q hq => Nat.ne_of_lt (Heap.lt_size (N q hq).1)
/-- a new object, one address, by a step that pushes it -/
theorem rel_push {ρ : Map} {hid : Hd} {st : St} {s : Shared} (x : Rel cx ρ hid st s) {ob : Obj} {o : O} {tk : Nat} (hf : ob.isFreed = false)
    (ho : ∀ fz led, OAt cx (ρ ++ [(s.heap.objs.size, s.heap.objs.size)]) fz ((s.heap.objs.size, ob) :: led) (s.heap.objs.size, s.heap.objs.size) o) (htk : 0 < tk := by first | assumption | exact Nat.succ_pos _ | exact Rel.pos (by assumption) | exact RelD.tk (by assumption)) :
    Rel cx (ρ ++ [(s.heap.objs.size, s.heap.objs.size)]) hid { st with sto := st.sto ++ [o] } { s with heap := s.heap.push ob, toks := tk } ∧
      VR (ρ ++ [(s.heap.objs.size, s.heap.objs.size)]) (.obj st.sto.length) (.ref s.heap.objs.size) := by
  obtain ⟨fz, led, m, mloc, x⟩ := x
  refine ⟨RelD.rel (x.go (tk := tk) (x.F.push ob) (x.N.push x.F ob hf) (x.B.alloc (news_fresh x.N) (ho fz led))), ?_⟩
  have := VR.obj (alloc_get ρ (s.heap.objs.size, s.heap.objs.size))
  rw [x.B.len] at this
  exact this
/-- a new object that is not told -/
theorem rel_garbage {ρ : Map} {hid : Hd} {st : St} {s : Shared} (x : Rel cx ρ hid st s) {ob : Obj} {tk : Nat} (hf : ob.isFreed = false) (htk : 0 < tk := by first | assumption | exact Nat.succ_pos _ | exact Rel.pos (by assumption) | exact RelD.tk (by assumption)) : Rel cx ρ hid st { s with heap := s.heap.push ob, toks := tk } := by
  obtain ⟨fz, led, m, mloc, x⟩ := x
  exact RelD.rel (x.go (tk := tk) (x.F.push ob) (x.N.push x.F ob hf) (x.B.more (news_fresh x.N)))
theorem new_list {ρ : Map} {hid : Hd} {st st' : St} {s : Shared} (x : Rel cx ρ hid st s) {vs : List V} {Vs : List Value} {v : V} (hv : VRs ρ vs Vs) (h : allocList vs st = .ok v st') {Q : Value → Shared → Prop} {E : Value → Shared → Prop} {A : Around}
    (k : ∀ ρ' W s', ρ <+: ρ' → Rel cx ρ' hid st' s' → VR ρ' v W → Q W s') : wpAny cx.M A (newList Vs) Q E s := by
  unfold allocList at h
  split at h
  · rename_i hl
    cases h
    have hlen : Vs.length ≤ sizeLine := by rw [← hv.length]; exact Nat.le_trans hl (by decide)
    refine wpAny_newObj_type ?_ (by show Vs.toArray.size ≤ sizeLine; rw [List.size_toArray]; exact hlen)
    obtain ⟨a, b⟩ := rel_push (tk := s.toks) x (ob := listObj Vs 0) (o := .list vs) rfl fun fz led => ⟨Vs, 0, hv.mono (List.prefix_append _ _), .head _⟩
    exact k _ _ _ (List.prefix_append _ _) a b
  · cases h
theorem new_tuple {ρ : Map} {hid : Hd} {st st' : St} {s : Shared} (x : Rel cx ρ hid st s) {vs : List V} {Vs : List Value} {v : V} (hv : VRs ρ vs Vs) (h : allocTuple vs st = .ok v st') {Q : Value → Shared → Prop} {E : Value → Shared → Prop} {A : Around}
    (k : ∀ ρ' W s', ρ <+: ρ' → Rel cx ρ' hid st' s' → VR ρ' v W → Q W s') : wpAny cx.M A (newTuple Vs) Q E s := by
  unfold allocTuple at h
  split at h
  · rename_i hl
    cases h
    have hlen : Vs.length ≤ sizeLine := by rw [← hv.length]; exact Nat.le_trans hl (by decide)
    refine wpAny_newObj_type ?_ (by show Vs.toArray.size ≤ sizeLine; rw [List.size_toArray]; exact hlen)
    obtain ⟨a, b⟩ := rel_push (tk := s.toks) x (ob := tupleObj Vs 0) (o := .tuple vs) rfl fun fz led => ⟨Vs, 0, hv.mono (List.prefix_append _ _), .head _⟩
    exact k _ _ _ (List.prefix_append _ _) a b
  · cases h
theorem sim_List {es : List Expr} {pos : Pos} {m : PM (List V)} (h1 : SimL cx pos es m) : SimV cx (eval (.List es pos) cx.env) (PM.bind m allocList) := by
  intro ρ hid st s x v st' h
  obtain ⟨vs, st1, e1, h⟩ := bind_ok h
  refine List_ (wp_seq (h1 ρ hid st s x vs st1 e1) fun Vs s1 ρ1 p1 r1 v1 => new_list r1 v1 h fun ρ' W s' p2 r2 v2 => ⟨ρ', pre_trans p1 p2, r2, v2⟩)
theorem sim_Tuple {es : List Expr} {k : Nat} {pos : Pos} {m : PM (List V)} (h1 : SimL cx pos es m) : SimV cx (eval (.Tuple es k pos) cx.env) (PM.bind m allocTuple) := by
  intro ρ hid st s x v st' h
  obtain ⟨vs, st1, e1, h⟩ := bind_ok h
  refine Tuple_ (wp_seq (h1 ρ hid st s x vs st1 e1) fun Vs s1 ρ1 p1 r1 v1 => new_tuple r1 v1 h fun ρ' W s' p2 r2 v2 => ⟨ρ', pre_trans p1 p2, r2, v2⟩)
/-- statements -/
abbrev SimS (cx : Cx) (s : Stmt) (m : PM Fl) : Prop := Sim cx (exec s cx.env) m FR
abbrev SimSs (cx : Cx) (ss : List Stmt) (m : PM Fl) : Prop := Sim cx (execs ss cx.env) m FR
def seqF (m k : PM Fl) : PM Fl := PM.bind m fun f => match f with
  | .next => k
  | .brk => PM.pure .brk
  | .cont => PM.pure .cont
  | .ret v => PM.pure (.ret v)
theorem sim_nil : SimSs cx [] (PM.pure .next) := by
  intro ρ hid st s x v st' h; cases h
  exact wpAny_execs_nil ⟨ρ, pre_refl ρ, x, .next⟩
theorem sim_cons {a : Stmt} {r : List Stmt} {m k : PM Fl} (h1 : SimS cx a m) (h2 : SimSs cx r k) : SimSs cx (a :: r) (seqF m k) := by
  intro ρ hid st s x v st' h
  obtain ⟨f, st1, e1, h⟩ := bind_ok h
  refine wpAny_execs_cons (wp_seq (h1 ρ hid st s x f st1 e1) fun g s1 ρ1 p1 r1 v1 => ?_)
  cases v1 with
  | next => exact wp_seq (h2 ρ1 hid st1 s1 r1 v st' h) fun d s2 ρ2 p2 r2 v2 => ⟨ρ2, pre_trans p1 p2, r2, v2⟩
  | brk => cases h; exact ⟨ρ1, p1, r1, .brk⟩
  | cont => cases h; exact ⟨ρ1, p1, r1, .cont⟩
  | ret hv => cases h; exact ⟨ρ1, p1, r1, .ret hv⟩
theorem sim_one {a : Stmt} {m : PM Fl} (h1 : SimS cx a m) : SimSs cx [a] m := by
  intro ρ hid st s x v st' h
  refine wpAny_execs_cons (wp_seq (h1 ρ hid st s x v st' h) fun g s1 ρ1 p1 r1 v1 => ?_)
  cases v1 with
  | next => exact wpAny_execs_nil ⟨ρ1, p1, r1, .next⟩
  | brk => exact ⟨ρ1, p1, r1, .brk⟩
  | cont => exact ⟨ρ1, p1, r1, .cont⟩
  | ret hv => exact ⟨ρ1, p1, r1, .ret hv⟩
theorem sim_If {t : Expr} {a b : List Stmt} {pos : Pos} {m : PM Bool} {ma mb : PM Fl} (h : SimT cx t m) (h1 : SimSs cx a ma) (h2 : SimSs cx b mb) : SimS cx (.If t a b pos) (iteP m ma mb) := by
  intro ρ hid st s x v st' e
  obtain ⟨c, st1, e1, e⟩ := bind_ok e
  refine wpAny_If (wp_seq (h ρ hid st s x c st1 e1) fun c' s1 ρ1 p1 r1 v1 => ?_)
  cases v1
  cases c with
  | true => exact wp_seq (h1 ρ1 hid st1 s1 r1 v st' e) fun d s2 ρ2 p2 r2 v2 => ⟨ρ2, pre_trans p1 p2, r2, v2⟩
  | false => exact wp_seq (h2 ρ1 hid st1 s1 r1 v st' e) fun d s2 ρ2 p2 r2 v2 => ⟨ρ2, pre_trans p1 p2, r2, v2⟩
theorem sim_Return {e : Expr} {pos : Pos} {m : PM V} (h : SimV cx (eval e cx.env) m) : SimS cx (.Return (some e) pos) (PM.bind m fun v => PM.pure (.ret v)) := by
  intro ρ hid st s x v st' e
  obtain ⟨a, st1, e1, e⟩ := bind_ok e
  obtain ⟨rfl, rfl⟩ := pure_ok e
  exact wpAny_Return_some (wp_seq (h ρ hid st s x a st' e1) fun A s1 ρ1 p1 r1 v1 => ⟨ρ1, p1, r1, .ret v1⟩)
theorem sim_Assign (ok : cx.Ok) {n : String} {e : Expr} {pos' pos : Pos} {m : PM V} (h : SimV cx (eval e cx.env) m)
    (hk : Asg cx n)
    (hs : swapsWith e (some (.Name (Str.ofString n) pos')) pos.line cx.env = pure false) : SimS cx (.Assign [.Name (Str.ofString n) pos'] e pos) (PM.bind m fun v => PM.bind (setL n v) fun _ => PM.pure .next) := by
  intro ρ hid st s x v st' e
  obtain ⟨a, st1, e1, e⟩ := bind_ok e
  cases e
  exact wpAny_Assign_Name (wp_seq (h ρ hid st s x a st1 e1) fun A s1 ρ1 p1 r1 v1 => store_name ok r1 v1 hk fun s' r' => ⟨ρ1, p1, r', .next⟩) hs
end
end Mine
namespace Mine
def pAdd : V → V → PM V
  | .int a, .int b => PM.pure (.int (a + b))
  | .str a, .str b => fun st => if a.length + b.length ≤ 1000000 then .ok (.str (a ++ b)) st else .fail
  | .obj i, .obj j => fun st => match st.sto[i]?, st.sto[j]? with
    | some (.list xs), some (.list ys) => allocList (xs ++ ys) st
    | _, _ => .fail
  | _, _ => PM.fail
def pSub : V → V → PM V
  | .int a, .int b => PM.pure (.int (a - b))
  | _, _ => PM.fail
def small (a : Int) : Bool := decide (-18446744073709551616 < a) && decide (a < 18446744073709551616)
def pMul : V → V → PM V
  | .int a, .int b => fun st => if small a || small b then .ok (.int (a * b)) st else .fail
  | .str a, .int b => fun st => if a.length ≤ 1000 ∧ 0 ≤ b ∧ b ≤ 1000 then .ok (.str (List.flatten (List.replicate b.toNat a))) st else .fail
  | _, _ => PM.fail
def pDiv : V → V → PM V
  | .int a, .int b => fun st => if 0 < b ∧ b < 1000000000 then .ok (.int (a / b)) st else .fail
  | _, _ => PM.fail
def pMod : V → V → PM V
  | .int a, .int b => fun st => if 0 < b then .ok (.int (a % b)) st else .fail
  | _, _ => PM.fail
def pPow : V → V → PM V
  | .int a, .int b => fun st => if small a && (decide (0 ≤ b) && decide (b ≤ 1000)) then .ok (.int (a ^ b.toNat)) st else .fail
  | _, _ => PM.fail
def pNeg : V → PM V
  | .int a => PM.pure (.int (-a))
  | _ => PM.fail
theorem small_iff {a : Int} (h : small a = true) : a.natAbs < 2 ^ 64 := by
  unfold small at h
  rw [Bool.and_eq_true, decide_eq_true_eq, decide_eq_true_eq] at h
  omega
theorem small_bits {a : Int} (h : small a = true) : Builtin.Int.intBits a ≤ 64 := by
  unfold small at h
  rw [Bool.and_eq_true, decide_eq_true_eq, decide_eq_true_eq] at h
  exact intBits_le_64 (by omega) (by omega)
theorem vr_int {ρ : Map} {i : Int} {W : Value} (h : VR ρ (.int i) W) : ∃ t, W = .int i t := by cases h; exact ⟨_, rfl⟩
theorem vr_str {ρ : Map} {l : List Nat} {W : Value} (h : VR ρ (.str l) W) : ∃ t, W = .str ⟨l.toArray⟩ t := by cases h; exact ⟨_, rfl⟩
theorem vr_ok {ρ : Map} {l : List Nat} {W : Value} (h : VR ρ (.str l) W) : okS l := by cases h; assumption
theorem vr_bool {ρ : Map} {b : Bool} {W : Value} (h : VR ρ (.bool b) W) : W = .bool b := by cases h; rfl
theorem vr_none {ρ : Map} {W : Value} (h : VR ρ .none W) : W = .none := by cases h; rfl
theorem vr_obj {ρ : Map} {i : Nat} {W : Value} (h : VR ρ (.obj i) W) : ∃ p, ρ[i]? = some p ∧ W = .ref p.1 := by cases h; rename_i p e; exact ⟨p, e, rfl⟩
theorem vr_glob {ρ : Map} {u W : Value} (h : VR ρ (.glob u) W) : W = u := by cases h; rfl
theorem str_app (a b : List Nat) : (⟨a.toArray⟩ : Str) ++ (⟨b.toArray⟩ : Str) = ⟨(a ++ b).toArray⟩ := by
  show Str.append _ _ = _
  unfold Str.append
  simp
theorem str_len (a : List Nat) : (⟨a.toArray⟩ : Str).length = a.length := by simp [Str.length]
section
variable {cx : Cx}
/-- the end of a step that makes a plain value -/
theorem fin_toks {β : Type} {ρ : Map} {hid : Hd} {st : St} {s : Shared} (x : Rel cx ρ hid st s) {tk : Nat} {R : Map → β → Value → Prop} {b : β} {W : Value} (h : R ρ b W) (htk : 0 < tk := by first | assumption | exact Nat.succ_pos _ | exact Rel.pos (by assumption) | exact RelD.tk (by assumption)) :
    ∃ ρ', ρ <+: ρ' ∧ Rel cx ρ' hid st { s with toks := tk } ∧ R ρ' b W := ⟨ρ, pre_refl ρ, x.toks tk, h⟩
theorem fin_same {β α : Type} {ρ : Map} {hid : Hd} {st : St} {s : Shared} (x : Rel cx ρ hid st s) {R : Map → β → α → Prop} {b : β} {W : α} (h : R ρ b W) :
    ∃ ρ', ρ <+: ρ' ∧ Rel cx ρ' hid st s ∧ R ρ' b W := ⟨ρ, pre_refl ρ, x, h⟩
theorem p_mul_int {ρ : Map} {hid : Hd} {st : St} {s : Shared} (x : Rel cx ρ hid st s) {a b : Int} {t u : Tok} (h : (small a || small b) = true) :
    wpAny cx.M cx.A (binaryOp .Mult (.int a t) (.int b u)) (fun V s' => ∃ ρ', ρ <+: ρ' ∧ Rel cx ρ' hid st s' ∧ VR ρ' (.int (a * b)) V) (fun _ _ => False) s := by
  refine PyProof.Rows.mul_int (fin_toks x (.int _ _)) ?_
  rcases Bool.or_eq_true_iff.mp h with h | h
  · exact IntMulOk.of_left (small_bits h)
  · exact IntMulOk.of_right (small_bits h)
theorem p_div : P2 cx (binaryOp .FloorDiv) pDiv VR := by
  intro ρ hid st s x a A b B ha hb v st' h
  unfold pDiv at h
  split at h
  · rename_i a b
    obtain ⟨t, rfl⟩ := vr_int ha; obtain ⟨u, rfl⟩ := vr_int hb
    split at h
    · rename_i hp
      cases h
      refine PyProof.Rows.floordiv_int (by omega) ?_ (hp := .inl (PyProof.noPylong_small (by omega)))
      rw [Int.fdiv_eq_ediv_of_nonneg _ (by omega)]
      exact fin_toks x (.int _ _)
    · cases h
  · cases h
theorem p_mod : P2 cx (binaryOp .Mod) pMod VR := by
  intro ρ hid st s x a A b B ha hb v st' h
  unfold pMod at h
  split at h
  · rename_i a b
    obtain ⟨t, rfl⟩ := vr_int ha; obtain ⟨u, rfl⟩ := vr_int hb
    split at h
    · rename_i hp
      cases h
      refine PyProof.Rows.mod_int (by omega) ?_
      rw [Int.fmod_eq_emod_of_nonneg _ (by omega)]
      exact fin_toks x (.int _ _)
    · cases h
  · cases h
theorem p_pow : P2 cx (binaryOp .Pow) pPow VR := by
  intro ρ hid st s x a A b B ha hb v st' h
  unfold pPow at h
  split at h
  · rename_i a b
    obtain ⟨t, rfl⟩ := vr_int ha; obtain ⟨u, rfl⟩ := vr_int hb
    split at h
    · rename_i hp
      cases h
      simp only [Bool.and_eq_true, decide_eq_true_eq] at hp
      exact PyProof.Rows.pow_int_small hp.2.1 (by omega) (small_iff hp.1) (fin_toks x (.int _ _))
    · cases h
  · cases h
theorem p_neg : P1 cx (unaryOp .USub) pNeg VR := by
  intro ρ hid st s x a A ha v st' h
  unfold pNeg at h
  split at h
  · obtain ⟨t, rfl⟩ := vr_int ha
    cases h
    exact PyProof.Rows.neg_int (fin_toks x (.int _ _))
  · cases h
/-- comparisons of ints -/
def pLt : V → V → PM V
  | .int a, .int b => PM.pure (.bool (decide (a < b)))
  | _, _ => PM.fail
def pLe : V → V → PM V
  | .int a, .int b => PM.pure (.bool (decide (a ≤ b)))
  | _, _ => PM.fail
/-- the int that a value counts as in a comparison -/
def asI : V → Option Int
  | .int a => some a
  | .bool b => some (if b then 1 else 0)
  | _ => none
def pGt (a b : V) : PM V := match a, b with
  | .int a, .int b => PM.pure (.bool (decide (b < a)))
  | .bool a, .int b => PM.pure (.bool (decide (b < (if a then 1 else 0))))
  | .int a, .bool b => PM.pure (.bool (decide ((if b then 1 else 0) < a)))
  | .bool a, .bool b => PM.pure (.bool (decide ((if b then (1 : Int) else 0) < (if a then 1 else 0))))
  | _, _ => PM.fail
def pGe : V → V → PM V
  | .int a, .int b => PM.pure (.bool (decide (b ≤ a)))
  | _, _ => PM.fail
/-- identity -/
def isP : V → V → Option Bool
  | .none, .none => some true
  | .bool _, .none => some false
  | .int _, .none => some false
  | .str _, .none => some false
  | .obj _, .none => some false
  | .bool a, .bool b => some (a == b)
  | .obj i, .obj j => if i = j then some true else none
  | .glob (.type a), .glob (.type b) => some (a == b)
  | _, _ => none
def pIs (a b : V) : PM V := fun st => match isP a b with | some c => .ok (.bool c) st | none => .fail
def pIsNot (a b : V) : PM V := fun st => match isP a b with | some c => .ok (.bool (!c)) st | none => .fail
theorem same_sem {ρ : Map} {a b : V} {A B : Value} {c : Bool} (ha : VR ρ a A) (hb : VR ρ b B) (h : isP a b = some c) {M : Model} {Ar : Around} {Q : Bool → Shared → Prop} {E : Value → Shared → Prop} {s : Shared} (hq : Q c s) :
    wpAny M Ar (isSame A B) Q E s := by
  unfold isP at h
  split at h
  · cases vr_none ha; cases vr_none hb; cases h; exact wpAny_pure hq
  · cases vr_bool ha; cases vr_none hb; cases h; exact wpAny_pure hq
  · obtain ⟨t, rfl⟩ := vr_int ha; cases vr_none hb; cases h; exact wpAny_pure hq
  · obtain ⟨t, rfl⟩ := vr_str ha; cases vr_none hb; cases h; exact wpAny_pure hq
  · obtain ⟨p, _, rfl⟩ := vr_obj ha; cases vr_none hb; cases h; exact wpAny_pure hq
  · rename_i a b
    cases vr_bool ha; cases vr_bool hb; cases h
    have e : (Value.bool a == Value.bool b) = (a == b) := by cases a <;> cases b <;> rfl
    exact wpAny_pure (a := (Value.bool a == Value.bool b)) (by rw [e]; exact hq)
  · split at h
    · rename_i i j e
      subst e
      obtain ⟨p, e1, rfl⟩ := vr_obj ha; obtain ⟨q, e2, rfl⟩ := vr_obj hb
      have : p = q := Option.some.inj (e1.symm.trans e2)
      subst this
      cases h
      unfold isSame
      dsimp only
      rw [if_pos (beq_self_eq_true _)]
      exact wpAny_pure hq
    · cases h
  · rename_i a b
    cases vr_glob ha; cases vr_glob hb; cases h
    have e : (Value.type a == Value.type b) = (a == b) := by
      cases q : a == b with
      | true => rw [beq_iff_eq] at q; subst q; exact beq_self_eq_true _
      | false => rw [beq_eq_false_iff_ne] at q ⊢; exact fun e => q (Value.type.inj e)
    exact wpAny_pure (a := (Value.type a == Value.type b)) (by rw [e]; exact hq)
  · cases h
theorem p_is : P2 cx (compareOp .Is) pIs VR := by
  intro ρ hid st s x a A b B ha hb v st' h
  unfold pIs at h
  split at h
  · rename_i c e
    cases h
    exact wpAny_bind (same_sem ha hb e (wpAny_pure (fin_same x (.bool _))))
  · cases h
theorem p_isnot : P2 cx (compareOp .IsNot) pIsNot VR := by
  intro ρ hid st s x a A b B ha hb v st' h
  unfold pIsNot at h
  split at h
  · rename_i c e
    cases h
    exact wpAny_bind (same_sem ha hb e (wpAny_pure (fin_same x (.bool _))))
  · cases h
end
end Mine
namespace Mine
section
variable {cx : Cx} {ρ : Map} {hid : Hd} {fz led : Led} {m mloc : Str → Option Value} {st : St} {s : Shared}
theorem RelD.list_at (x : RelD cx ρ hid fz led m mloc st s) {i : Nat} {xs : List V} {p : Addr × Addr} (hi : st.sto[i]? = some (.list xs)) (hp : ρ[i]? = some p) : ∃ Xs n, VRs ρ xs Xs ∧ (p.1, listOf Xs.toArray n) ∈ led := x.B.obj i _ p hi hp
theorem RelD.tuple_at (x : RelD cx ρ hid fz led m mloc st s) {i : Nat} {xs : List V} {p : Addr × Addr} (hi : st.sto[i]? = some (.tuple xs)) (hp : ρ[i]? = some p) : ∃ Xs n, VRs ρ xs Xs ∧ (p.1, tupleObj Xs n) ∈ led := x.B.obj i _ p hi hp
theorem RelD.put_list (x : RelD cx ρ hid fz led m mloc st s) {i : Nat} {p : Addr × Addr} {ys : List V} {Ys : List Value} {n' : Nat} {h' : Heap} {tk : Nat} {o : Obj} (hp : ρ[i]? = some p) (hm : (p.1, o) ∈ led) (hv : VRs ρ ys Ys)
    (F : Fr cx.h₀ cx.L h' m) (N : News cx.h₀ cx.L h' (updL p.1 (listOf Ys.toArray n') led)) (htk : 0 < tk := by first | assumption | exact Nat.succ_pos _ | exact Rel.pos (by assumption) | exact RelD.tk (by assumption)) : Rel cx ρ hid { st with sto := st.sto.set i (.list ys) } { s with heap := h', toks := tk } :=
  RelD.rel (x.go F N (x.B.upd hp (.inl rfl) ⟨Ys, n', hv, mem_updL_self hm⟩))
end
theorem vrs_length {ρ : Map} {vs : List V} {Vs : List Value} (h : VRs ρ vs Vs) : vs.length = Vs.length := h.length
theorem vrs_append {ρ : Map} : ∀ {a : List V} {A : List Value} {b : List V} {B : List Value}, VRs ρ a A → VRs ρ b B → VRs ρ (a ++ b) (A ++ B)
  | _, _, _, _, .nil, h => h
  | _, _, _, _, .cons x t, h => .cons x (vrs_append t h)
theorem vrs_get {ρ : Map} : ∀ {a : List V} {A : List Value} {k : Nat} {v : V}, VRs ρ a A → a[k]? = some v → ∃ W, A[k]? = some W ∧ VR ρ v W
  | _, _, 0, v, .cons x t, h => by simp at h; subst h; exact ⟨_, rfl, x⟩
  | _, _, k + 1, v, .cons x t, h => by
    simp only [List.getElem?_cons_succ] at h ⊢
    exact vrs_get t h
theorem vrs_take {ρ : Map} : ∀ {a : List V} {A : List Value} (k : Nat), VRs ρ a A → VRs ρ (a.take k) (A.take k)
  | _, _, 0, _ => by simp only [List.take_zero]; exact .nil
  | _, _, k + 1, .nil => by simp only [List.take_nil]; exact .nil
  | _, _, k + 1, .cons x t => by simp only [List.take_succ_cons]; exact .cons x (vrs_take k t)
theorem vrs_drop {ρ : Map} : ∀ {a : List V} {A : List Value} (k : Nat), VRs ρ a A → VRs ρ (a.drop k) (A.drop k)
  | _, _, 0, h => by simp only [List.drop_zero]; exact h
  | _, _, k + 1, .nil => by simp only [List.drop_nil]; exact .nil
  | _, _, k + 1, .cons x t => by simp only [List.drop_succ_cons]; exact vrs_drop k t
/-- methods of lists -/
def cAppend : List V → PM V
  | [.obj i, v] => fun st => match st.sto[i]? with
    | some (.list xs) => if xs.length ≤ 1000000 then .ok .none { st with sto := st.sto.set i (.list (xs ++ [v])) } else .fail
    | _ => .fail
  | _ => PM.fail
abbrev PC (cx : Cx) (u : Value) (f : List V → PM V) : Prop := PL cx (fun Vs => call u Vs) f VR
theorem vrs_two {ρ : Map} {a b : V} {Vs : List Value} (h : VRs ρ [a, b] Vs) : ∃ A B, Vs = [A, B] ∧ VR ρ a A ∧ VR ρ b B := by
  cases h with | cons x t => cases t with | cons y r => cases r; exact ⟨_, _, rfl, x, y⟩
theorem vrs_one {ρ : Map} {a : V} {Vs : List Value} (h : VRs ρ [a] Vs) : ∃ A, Vs = [A] ∧ VR ρ a A := by
  cases h with | cons x t => cases t; exact ⟨_, rfl, x⟩
theorem list_fits {n : Nat} (h : n ≤ 1000000) : n ≤ sizeLine := Nat.le_trans h (by decide)
theorem size_push_eq (Xs : List Value) (W : Value) : Xs.toArray.push W = (Xs ++ [W]).toArray := by simp
section
variable {cx : Cx}
theorem pc_append : PC cx (.builtin "list.append") cAppend := by
  intro ρ hid st s x vs Vs hv v st' h
  unfold cAppend at h
  split at h
  · rename_i i w
    obtain ⟨A, B, rfl, ha, hb⟩ := vrs_two hv
    obtain ⟨p, hp, rfl⟩ := vr_obj ha
    split at h
    · rename_i xs hi
      split at h
      · rename_i hl
        cases h
        obtain ⟨fz, led, m, mloc, x⟩ := x
        obtain ⟨Xs, n, h1, h2⟩ := x.list_at hi hp
        refine append_K x.F x.N (upd_of _ h2 x.B.nd) (fun h' F' N' => ?_) (by rw [List.size_toArray, ← h1.length]; exact list_fits hl)
        rw [size_push_eq] at N'
        exact ⟨ρ, pre_refl ρ, x.put_list (tk := s.toks) hp h2 (vrs_append h1 (.cons hb .nil)) F' N', .none⟩
      · cases h
    · cases h
  · cases h
/-- len -/
def cLen : List V → PM V
  | [.obj i] => fun st => match st.sto[i]? with
    | some (.list xs) => if xs.length ≤ 1000000 then .ok (.int xs.length) st else .fail
    | some (.tuple xs) => if xs.length ≤ 1000000 then .ok (.int xs.length) st else .fail
    | _ => .fail
  | [.str l] => fun st => if l.length ≤ 1000000 then .ok (.int l.length) st else .fail
  | _ => PM.fail
end
end Mine
namespace Mine
theorem okS_append {a b : List Nat} (h : okS a) (h' : okS b) : okS (a ++ b) := fun c hc => (List.mem_append.mp hc).elim (h c) (h' c)
/-- a value read as data -/
def toDs (f : V → Option PyData) : List V → Option (List PyData)
  | [] => some []
  | v :: r => match f v, toDs f r with
    | some d, some ds => some (d :: ds)
    | _, _ => none
def toD : Nat → List O → V → Option PyData
  | _, _, .none => some .none
  | _, _, .bool b => some (.bool b)
  | _, _, .int i => some (.int i)
  | _, _, .str l => some (.str ⟨l.toArray⟩)
  | n + 1, sto, .obj i => match sto[i]? with
    | some (.list xs) => (toDs (toD n sto) xs).map .list
    | some (.tuple xs) => (toDs (toD n sto) xs).map .tuple
    | _ => none
  | _, _, _ => none
theorem okS_strOk {l : List Nat} (h : okS l) : PyData.strOk ⟨l.toArray⟩ = true := by
  unfold PyData.strOk
  simp only [List.all_toArray, List.all_eq_true, decide_eq_true_eq]
  exact fun c hc => h c hc
section
variable {cx : Cx} {ρ : Map} {hid : Hd} {fz led : Led} {m mloc : Str → Option Value} {st : St} {s : Shared}
theorem toDs_reads {n : Nat} {f : V → Option PyData} {h : Heap} (hf : ∀ v W d, VR ρ v W → f v = some d → ∃ as, Reads h W d as ∧ d.canLay0 = true ∧ d.depth ≤ n) :
    ∀ {vs : List V} {Vs : List Value} {ds : List PyData}, VRs ρ vs Vs → toDs f vs = some ds → ∃ as, ReadsAll h Vs ds as ∧ PyData.canLayAll0 ds = true ∧ PyData.depthAll ds ≤ n
  | _, _, _, .nil, e => by cases e; exact ⟨[], .nil, rfl, Nat.zero_le _⟩
  | _, _, _, .cons x t, e => by
    unfold toDs at e
    split at e
    · rename_i d ds h1 h2
      cases e
      obtain ⟨as, a1, a2, a3⟩ := hf _ _ _ x h1
      obtain ⟨bs, b1, b2, b3⟩ := toDs_reads hf t h2
      exact ⟨_, .cons a1 b1, by simp [PyData.canLayAll0, a2, b2], by simp only [PyData.depthAll]; omega⟩
    · cases e
theorem toD_reads (x : RelD cx ρ hid fz led m mloc st s) : ∀ (n : Nat) (v : V) (W : Value) (d : PyData), VR ρ v W → toD n st.sto v = some d → ∃ as, Reads s.heap W d as ∧ d.canLay0 = true ∧ d.depth ≤ n
  | n, .none, W, d, h, e => by cases vr_none h; cases n <;> cases e <;> exact ⟨_, .none, rfl, Nat.zero_le _⟩
  | n, .bool b, W, d, h, e => by cases vr_bool h; cases n <;> cases e <;> exact ⟨_, .bool b, rfl, Nat.zero_le _⟩
  | n, .int i, W, d, h, e => by obtain ⟨t, rfl⟩ := vr_int h; cases n <;> cases e <;> exact ⟨_, .int i t, rfl, Nat.zero_le _⟩
  | n, .str l, W, d, h, e => by
    have ho := vr_ok h
    obtain ⟨t, rfl⟩ := vr_str h
    cases n <;> cases e <;> exact ⟨_, .str _ t, okS_strOk ho, Nat.zero_le _⟩
  | n, .byt _, W, d, h, e => by cases n <;> cases e
  | n, .glob _, W, d, h, e => by cases n <;> cases e
  | 0, .obj i, W, d, h, e => by cases e
  | n + 1, .obj i, W, d, h, e => by
    obtain ⟨p, hp, rfl⟩ := vr_obj h
    unfold toD at e
    split at e
    · rename_i xs hi
      obtain ⟨ds, h1, rfl⟩ := Option.map_eq_some_iff.mp e
      obtain ⟨Xs, k, g1, g2⟩ := x.list_at hi hp
      obtain ⟨as, a1, a2, a3⟩ := toDs_reads (fun v W d => toD_reads x n v W d) g1 h1
      exact ⟨_, .list (x.N _ g2).1 rfl rfl a1, a2, by simp only [PyData.depth]; omega⟩
    · rename_i xs hi
      obtain ⟨ds, h1, rfl⟩ := Option.map_eq_some_iff.mp e
      obtain ⟨Xs, k, g1, g2⟩ := x.tuple_at hi hp
      obtain ⟨as, a1, a2, a3⟩ := toDs_reads (fun v W d => toD_reads x n v W d) g1 h1
      exact ⟨_, .tuple (x.N _ g2).1 rfl rfl a1, a2, by simp only [PyData.depth]; omega⟩
    · cases e
end
def eqP (st : St) (a b : V) : Option Bool := match toD 4 st.sto a, toD 4 st.sto b with
  | some x, some y => some (PyData.eqv x y)
  | _, _ => none
def pEq (a b : V) : PM V := fun st => match eqP st a b with | some c => .ok (.bool c) st | none => .fail
def pNe (a b : V) : PM V := fun st => match eqP st a b with | some c => .ok (.bool (!c)) st | none => .fail
/-- is the first a piece of the second -/
def subIn (y x : List Nat) : Bool := (List.range (x.length + 1)).any fun i => (x.drop i).take y.length == y
theorem subIn_eq (y x : List Nat) : (!(Builtin.Str.occurrences ⟨x.toArray⟩ ⟨y.toArray⟩ 0 (⟨x.toArray⟩ : Str).length 1).isEmpty) = subIn y x := by
  have h := StrLaws.found_iff ⟨x.toArray⟩ ⟨y.toArray⟩
  rw [Bool.eq_iff_iff, h]
  unfold subIn
  simp only [List.any_eq_true, List.mem_range]
  constructor
  · rintro ⟨i, h1, h2⟩
    refine ⟨i, by simp only [str_len] at h1; omega, ?_⟩
    rw [StrLaws.subAt_eq] at h2
    simpa [Str.length] using h2
  · rintro ⟨i, h1, h2⟩
    have h3 : (x.drop i).take y.length = y := by simpa using h2
    refine ⟨i, ?_, ?_⟩
    · simp only [str_len]
      have := congrArg List.length h3
      simp only [List.length_take, List.length_drop] at this
      omega
    · rw [StrLaws.subAt_eq]
      simpa [Str.length] using h2
def inP (st : St) (a c : V) : Option Bool := match c with
  | .obj j => match st.sto[j]? with
    | some (.list xs) => match toDs (toD 4 st.sto) xs, toD 4 st.sto a with
      | some ds, some d => some (ds.any fun y => PyData.eqv y d)
      | _, _ => none
    | _ => none
  | .str l => match a with
    | .str k => some (subIn k l)
    | _ => none
  | _ => none
def pIn (a b : V) : PM V := fun st => match inP st a b with | some c => .ok (.bool c) st | none => .fail
def pNotIn (a b : V) : PM V := fun st => match inP st a b with | some c => .ok (.bool (!c)) st | none => .fail
section
variable {cx : Cx}
theorem p_eq (ok : cx.Ok) : P2 cx (compareOp .Eq) pEq VR := by
  intro ρ hid st s x a A b B ha hb v st' h
  unfold pEq eqP at h
  split at h
  · rename_i c e
    split at e
    · rename_i d d' h1 h2
      cases h; cases e
      obtain ⟨fz, led, m, mloc, x'⟩ := id x
      obtain ⟨as, a1, a2, a3⟩ := toD_reads x' 4 a A d ha h1
      obtain ⟨bs, b1, b2, b3⟩ := toD_reads x' 4 b B d' hb h2
      have hu := ok.units
      exact SeqAt.compareEq_reads a1 b1 a2 b2 (by omega) (fin_same x (.bool _))
    · cases e
  · cases h
theorem p_ne (ok : cx.Ok) : P2 cx (compareOp .NotEq) pNe VR := by
  intro ρ hid st s x a A b B ha hb v st' h
  unfold pNe eqP at h
  split at h
  · rename_i c e
    split at e
    · rename_i d d' h1 h2
      cases h; cases e
      obtain ⟨fz, led, m, mloc, x'⟩ := id x
      obtain ⟨as, a1, a2, a3⟩ := toD_reads x' 4 a A d ha h1
      obtain ⟨bs, b1, b2, b3⟩ := toD_reads x' 4 b B d' hb h2
      have hu := ok.units
      refine ne_dataH a1 b1 ?_ ?_ (by omega) (fin_same x (.bool _))
      · unfold SeqAt.shaped; rw [a2, Bool.true_and]; exact decide_eq_true (by omega)
      · unfold SeqAt.shaped; rw [b2, Bool.true_and]; exact decide_eq_true (by omega)
    · cases e
  · cases h
theorem in_list {ρ : Map} {hid : Hd} {st : St} {s : Shared} (ok : cx.Ok) (x : Rel cx ρ hid st s) {a : V} {A : Value} {j : Nat} {B : Value} {xs : List V} {ds : List PyData} {d : PyData} (ha : VR ρ a A) (hb : VR ρ (.obj j) B) (hj : st.sto[j]? = some (.list xs))
    (h1 : toDs (toD 4 st.sto) xs = some ds) (h2 : toD 4 st.sto a = some d) : ∃ as bs, Reads s.heap B (.list ds) as ∧ Reads s.heap A d bs ∧ PyData.canLayAll0 ds = true ∧ d.canLay0 = true ∧ cx.A.units + 1 + min (PyData.depthAll ds) d.depth < cLine := by
  obtain ⟨fz, led, m, mloc, x⟩ := x
  obtain ⟨p, hp, rfl⟩ := vr_obj hb
  obtain ⟨Xs, k, g1, g2⟩ := x.list_at hj hp
  obtain ⟨as, a1, a2, a3⟩ := toDs_reads (fun v W d => toD_reads x 4 v W d) g1 h1
  obtain ⟨bs, b1, b2, b3⟩ := toD_reads x 4 a A d ha h2
  have hu := ok.units
  exact ⟨_, bs, .list (x.N _ g2).1 rfl rfl a1, b1, a2, b2, by omega⟩
theorem p_in (ok : cx.Ok) : P2 cx (compareOp .In) pIn VR := by
  intro ρ hid st s x a A b B ha hb v st' h
  unfold pIn inP at h
  split at h
  · rename_i c e
    split at e
    · split at e
      · rename_i xs hj
        split at e
        · rename_i ds d h1 h2
          cases h; cases e
          obtain ⟨as, bs, r1, r2, r3, r4, r5⟩ := in_list ok x ha hb hj h1 h2
          exact SeqAt.in_list_reads r1 r2 r3 r4 r5 (fin_same x (.bool _))
        · cases e
      · cases e
    · split at e
      · cases h; cases e
        obtain ⟨t, rfl⟩ := vr_str ha; obtain ⟨u, rfl⟩ := vr_str hb
        refine PyProof.Rows.in_str ?_
        rw [subIn_eq]
        exact fin_same x (.bool _)
      · cases e
    · cases e
  · cases h
theorem fits63 {n : Nat} (h : n ≤ 1000000) : (n : Int) < 2 ^ 63 := by omega
/-- truth -/
def pTruthy : V → PM Bool
  | .none => PM.pure false
  | .bool b => PM.pure b
  | .int i => PM.pure (i != 0)
  | .str l => fun st => if l.length ≤ 1000000 then .ok (!l.isEmpty) st else .fail
  | .obj i => fun st => match st.sto[i]? with
    | some (.list xs) => if xs.length ≤ 1000000 then .ok (!xs.isEmpty) st else .fail
    | some (.tuple xs) => if xs.length ≤ 1000000 then .ok (!xs.isEmpty) st else .fail
    | _ => .fail
  | _ => PM.fail
theorem vrs_empty {ρ : Map} {xs : List V} {Xs : List Value} (h : VRs ρ xs Xs) : Xs.toArray.isEmpty = xs.isEmpty := by cases h <;> simp
theorem p_truthy : P1 cx truthy pTruthy BR := by
  intro ρ hid st s x a A ha v st' h
  unfold pTruthy at h
  split at h
  · cases vr_none ha; cases h; exact PyProof.Rows.truthy_none (fin_same x rfl)
  · cases vr_bool ha; cases h; exact wpAny_truthy_bool (fin_same x rfl)
  · obtain ⟨t, rfl⟩ := vr_int ha; cases h; exact PyProof.Rows.truthy_int (fin_same x rfl)
  · obtain ⟨t, rfl⟩ := vr_str ha
    split at h
    · rename_i l hl
      cases h
      refine lf x.pos (PySem.W.KXt.truthy (b := !l.isEmpty) ?_ (by rw [str_len]; omega) fun k htk => ⟨ρ, pre_refl ρ, x.toks k htk, rfl⟩)
      rw [str_len]
      cases l <;> simp
      omega
    · cases h
  · rename_i i
    obtain ⟨p, hp, rfl⟩ := vr_obj ha
    obtain ⟨fz, led, m, mloc, x'⟩ := id x
    split at h
    · rename_i xs hi
      split at h
      · rename_i hl
        cases h
        obtain ⟨Xs, k, g1, g2⟩ := x'.list_at hi hp
        refine wpAny_truthy_list ⟨_, (x'.N _ g2).1, rfl, _, rfl⟩ (by rw [List.size_toArray, ← g1.length]; exact fits63 hl) ?_
        rw [vrs_empty g1]
        exact ⟨ρ, pre_refl ρ, x.toks _, rfl⟩
      · cases h
    · rename_i xs hi
      split at h
      · rename_i hl
        cases h
        obtain ⟨Xs, k, g1, g2⟩ := x'.tuple_at hi hp
        refine PyProof.Rows.truthy_tuple ⟨_, (x'.N _ g2).1, rfl, _, rfl⟩ (by rw [List.size_toArray, ← g1.length]; exact fits63 hl) ?_
        rw [vrs_empty g1]
        exact ⟨ρ, pre_refl ρ, x.toks _, rfl⟩
      · cases h
    · cases h
  · cases h
theorem pc_len : PC cx (.builtin "len") cLen := by
  intro ρ hid st s x vs Vs hv v st' h
  unfold cLen at h
  split at h
  · rename_i i
    obtain ⟨A, rfl, ha⟩ := vrs_one hv
    obtain ⟨p, hp, rfl⟩ := vr_obj ha
    obtain ⟨fz, led, m, mloc, x'⟩ := id x
    split at h
    · rename_i xs hi
      split at h
      · rename_i hl
        cases h
        obtain ⟨Xs, k, g1, g2⟩ := x'.list_at hi hp
        refine call_len_list ⟨_, (x'.N _ g2).1, rfl, _, rfl⟩ (by rw [List.size_toArray, ← g1.length]; exact fits63 hl) ?_
        rw [List.size_toArray, ← g1.length]
        exact ⟨ρ, pre_refl ρ, x.toks _, .int _ _⟩
      · cases h
    · rename_i xs hi
      split at h
      · rename_i hl
        cases h
        obtain ⟨Xs, k, g1, g2⟩ := x'.tuple_at hi hp
        refine PyProof.Rows.len_tuple ⟨_, (x'.N _ g2).1, rfl, _, rfl⟩ (by rw [List.size_toArray, ← g1.length]; exact fits63 hl) ?_
        rw [List.size_toArray, ← g1.length]
        exact ⟨ρ, pre_refl ρ, x.toks _, .int _ _⟩
      · cases h
    · cases h
  · obtain ⟨A, rfl, ha⟩ := vrs_one hv
    obtain ⟨t, rfl⟩ := vr_str ha
    split at h
    · rename_i l hl
      cases h
      refine PyProof.Rows.len_str (by rw [str_len]; have := fits63 hl; omega) ?_
      rw [str_len]
      exact ⟨ρ, pre_refl ρ, x.toks _, .int _ _⟩
    · cases h
  · cases h
end
end Mine
namespace Mine
/-- attributes of instances -/
def putA (n : String) (v : V) : List (String × V) → List (String × V)
  | [] => [(n, v)]
  | a :: r => if a.1 = n then (n, v) :: r else a :: putA n v r
theorem isStr_key {e : DictEntry} {a n : String} {t : Tok} (h : e.key = .str (Str.ofString a) t) : e.key.isStr (Str.ofString n) = decide (a = n) := by
  rw [h]
  show (Str.ofString a == Str.ofString n) = decide (a = n)
  by_cases q : a = n
  · subst q; simp
  · rw [decide_eq_false q]
    rw [beq_eq_false_iff_ne]
    exact fun e => q (ofString_inj e)
theorem ar_get {ρ : Map} {n : String} {w : V} : ∀ {as : List (String × V)} {Es : List DictEntry}, Paired (AR ρ) as Es → as.lookup n = some w → ∃ e ∈ Es, Es.find? (·.key.isStr (Str.ofString n)) = some e ∧ VR ρ w e.val
  | _, _, .cons (a := a) (b := e) x t, h => by
    obtain ⟨⟨tk, hk⟩, hv⟩ := x
    rw [List.find?_cons, isStr_key hk]
    by_cases q : a.1 = n
    · rw [decide_eq_true q]
      rw [List.lookup_cons, beq_iff_eq.mpr q.symm] at h
      cases h
      exact ⟨e, .head _, rfl, hv⟩
    · rw [decide_eq_false q]
      rw [List.lookup_cons, beq_eq_false_iff_ne.mpr (Ne.symm q)] at h
      obtain ⟨e', h1, h2, h3⟩ := ar_get t h
      exact ⟨e', .tail _ h1, h2, h3⟩
theorem ar_noref {ρ : Map} : ∀ {as : List (String × V)} {Es : List DictEntry}, Paired (AR ρ) as Es → Es.any (·.refKey) = false
  | _, _, .nil => rfl
  | _, _, .cons x t => by
    obtain ⟨⟨tk, hk⟩, hv⟩ := x
    rw [List.any_cons, ar_noref t, Bool.or_false]
    unfold DictEntry.refKey
    rw [hk]
theorem ar_none {ρ : Map} {n : String} : ∀ {as : List (String × V)} {Es : List DictEntry}, Paired (AR ρ) as Es → as.lookup n = none → Es.find? (·.key.isStr (Str.ofString n)) = none
  | _, _, .nil, _ => rfl
  | _, _, .cons (a := a) (b := e) x t, h => by
    obtain ⟨⟨tk, hk⟩, hv⟩ := x
    rw [List.find?_cons, isStr_key hk]
    by_cases q : a.1 = n
    · rw [List.lookup_cons, beq_iff_eq.mpr q.symm] at h; cases h
    · rw [decide_eq_false q]
      rw [List.lookup_cons, beq_eq_false_iff_ne.mpr (Ne.symm q)] at h
      exact ar_none t h
theorem ar_put {ρ : Map} {n : String} {v : V} {W : Value} {hs : Int} {tk : Tok} (hv : VR ρ v W) : ∀ {as : List (String × V)} {Es : List DictEntry}, Paired (AR ρ) as Es → Paired (AR ρ) (putA n v as) (putL (Str.ofString n) hs (.str (Str.ofString n) tk) W Es)
  | _, _, .nil => .cons ⟨⟨tk, rfl⟩, hv⟩ .nil
  | _, _, .cons (a := a) (b := e) x t => by
    obtain ⟨⟨tk', hk⟩, hv'⟩ := id x
    unfold putA putL
    rw [isStr_key hk]
    by_cases q : a.1 = n
    · rw [decide_eq_true q, if_pos q, if_pos rfl]
      exact .cons ⟨⟨tk', by rw [hk, q]⟩, hv⟩ t
    · rw [decide_eq_false q, if_neg q, if_neg (by simp)]
      exact .cons x (ar_put hv t)
theorem putA_len (n : String) (v : V) : ∀ as : List (String × V), (putA n v as).length ≤ as.length + 1
  | [] => by simp [putA]
  | a :: r => by
    unfold putA
    split
    · simp
    · have := putA_len n v r
      simp only [List.length_cons]; omega
/-- what the class says of a name: nothing, or something that an instance's own value hides -/
def okAttr (K : Frag) (C : Addr) (name : Str) : Bool := plainGet K C name && hasDictIn K C && match findIn K (.ref C) name with
  | some none => true
  | some (some a) => (match specialIn K a "__get__" with
      | some none => true
      | some (some _) => takesIn K a == some false
      | none => false)
  | none => false
theorem findObj_hides {K : Frag} {C : Addr} {name : Str} {od : Obj} {v : Value} (h : okAttr K C name = true) (hl : lookIn name od = some (some v)) : findObj K C (some od) name = some (.value v) := by
  unfold okAttr at h
  rw [Bool.and_eq_true, Bool.and_eq_true] at h
  obtain ⟨⟨_, hh⟩, h⟩ := h
  obtain ⟨cd, hc, hd⟩ := any_some hh
  have ho : PySem.W.ownOf cd (some od) name = some (some v) := by unfold PySem.W.ownOf; rw [if_pos hd]; exact hl
  unfold findObj
  rw [hc, Option.bind_some]
  split at h
  · rename_i e; rw [e]; simp [ho]
  · rename_i a e
    rw [e, Option.bind_some]
    split at h
    · rename_i g; simp [g, ho]
    · rename_i g q
      have q' : takesIn K a = some false := beq_iff_eq.mp h
      simp [q, q', ho]
    · cases h
  · cases h
def gAttr (n : String) : V → PM V
  | .obj i => fun st => match st.sto[i]? with
    | some (.inst as) => (match as.lookup n with
      | some (.glob _) => .fail
      | some w => .ok w st
      | none => .fail)
    | _ => .fail
  | _ => PM.fail
def sAttr (n : String) (v : V) : V → PM Unit
  | .obj i => fun st => match st.sto[i]? with
    | some (.inst as) => if as.length ≤ 90 then .ok () { st with sto := st.sto.set i (.inst (putA n v as)) } else .fail
    | _ => .fail
  | _ => PM.fail
theorem handed_vr {ρ : Map} {w : V} {W : Value} (h : VR ρ w W) (hg : ∀ u, w ≠ .glob u) : handedIn W = true := by
  cases h with
  | glob _ => exact absurd rfl (hg _)
  | _ => rfl
section
variable {cx : Cx}
theorem inst_at {ρ : Map} {hid : Hd} {fz led : Led} {m mloc : Str → Option Value} {st : St} {s : Shared} (x : RelD cx ρ hid fz led m mloc st s) {i : Nat} {as : List (String × V)} {p : Addr × Addr} (hi : st.sto[i]? = some (.inst as)) (hp : ρ[i]? = some p) :
    ∃ Es n, Paired (AR ρ) as Es ∧ Es.length ≤ 100 ∧ (p.1, instObj cx.C p.2) ∈ led ∧ (p.2, dictOf Es n) ∈ led ∧ InstAt s.heap p.1 (instObj cx.C p.2) cx.C (some (dictOf Es n)) := by
  obtain ⟨Es, n, h1, h2, h3, h4⟩ := x.B.obj i _ p hi hp
  exact ⟨Es, n, h1, h2, h3, h4, InstAt.of_news x.N h3 h4⟩
theorem get_attr (ok : cx.Ok) {n : String} (hc : okAttr cx.K cx.C (Str.ofString n) = true) {ρ : Map} {hid : Hd} {st : St} {s : Shared} (x : Rel cx ρ hid st s) {a : V} {A : Value} (ha : VR ρ a A) {v : V} {st' : St} (h : gAttr n a st = .ok v st') {expr : Bool} {Ar : Around}
    {Q : Value → Shared → Prop} {E : Value → Shared → Prop} (k : ∀ W s', VR ρ v W → Rel cx ρ hid st' s' → Q W s') : wpAny cx.M Ar (getAttr A (Str.ofString n) expr) Q E s := by
  unfold gAttr at h
  split at h
  · rename_i i
    obtain ⟨p, hp, rfl⟩ := vr_obj ha
    split at h
    · rename_i as hi
      split at h
      · cases h
      · rename_i w hg hl
        cases h
        obtain ⟨fz, led, m, mloc, x'⟩ := id x
        obtain ⟨Es, n', h1, h2, h3, h4, I⟩ := inst_at x' hi hp
        obtain ⟨e, _, g1, g2⟩ := ar_get h1 hl
        have pg : plainGet cx.K cx.C (Str.ofString n) = true := by
          unfold okAttr at hc; rw [Bool.and_eq_true, Bool.and_eq_true] at hc; exact hc.1.1
        refine get_value (ok.kin.keeps x'.F.keep) I (plainGet_of pg).1 (findObj_hides hc ?_) (handed_vr g2 fun u e => hg u e) (k _ _ g2 (x.toks _))
        rw [lookIn_dict]
        show (match Es.find? (·.key.isStr (Str.ofString n)) with | some e => some (some e.val) | none => _) = _
        rw [g1]
      · cases h
    · cases h
  · cases h
theorem sim_Attribute {e : Expr} {n : String} {pos : Pos} {ma : PM V} (ok : cx.Ok) (h1 : SimV cx (eval e cx.env) ma) (hc : okAttr cx.K cx.C (Str.ofString n) = true)
    (he : eval (.Attribute e (Str.ofString n) pos) cx.env = (do
      let o ← eval e cx.env
      standAt pos.atName
      let r ← holding [o] (getAttr o (Str.ofString n) true)
      letTemporaryGo e o r
      pure r) := by with_unfolding_all rfl) : SimV cx (eval (.Attribute e (Str.ofString n) pos) cx.env) (PM.bind ma (gAttr n)) := by
  intro ρ hid st s x v st' h
  obtain ⟨a, st1, e1, h⟩ := bind_ok h
  refine Attribute_any_ (wp_seq (h1 ρ hid st s x a st1 e1) fun A s1 ρ1 p1 r1 v1 => ?_) he
  exact get_attr ok hc r1 v1 h fun W s' hw hr => ⟨ρ1, p1, hr, hw⟩
def okSet (K : Frag) (C : Addr) (name : Str) : Bool := (findIn K (.ref C) "__setattr__" == some (some (.builtin "object.__setattr__"))) && plainOver K C && (takerIn K C name == some none) && hasDictIn K C
theorem set_attr (ok : cx.Ok) {n : String} (hc : okSet cx.K cx.C (Str.ofString n) = true) {ρ : Map} {hid : Hd} {st : St} {s : Shared} (x : Rel cx ρ hid st s) {a : V} {A : Value} (ha : VR ρ a A) {w : V} {W : Value} (hw : VR ρ w W) {st' : St} (h : sAttr n w a st = .ok () st') {Ar : Around}
    {Q : Unit → Shared → Prop} {E : Value → Shared → Prop} (k : ∀ s', Rel cx ρ hid st' s' → Q () s') : wpAny cx.M Ar (setAttr A (Str.ofString n) W) Q E s := by
  unfold sAttr at h
  split at h
  · rename_i i
    obtain ⟨p, hp, rfl⟩ := vr_obj ha
    split at h
    · rename_i as hi
      split at h
      · rename_i hlen
        cases h
        obtain ⟨fz, led, m, mloc, x'⟩ := id x
        obtain ⟨Es, n', h1, h2, h3, h4, I⟩ := inst_at x' hi hp
        unfold okSet at hc
        rw [Bool.and_eq_true, Bool.and_eq_true, Bool.and_eq_true] at hc
        obtain ⟨⟨⟨c1, c2⟩, c3⟩, c4⟩ := hc
        have hgl : (PySem.W.getL (Str.ofString n) Es).isSome = true := by
          unfold PySem.W.getL
          cases q : Es.find? (·.key.isStr (Str.ofString n)) with
          | some e => rfl
          | none => rw [ar_noref h1]; rfl
        have hp2 := ar_put (n := n) (hs := PyData.keyHash cx.w.params (Str.ofString n)) (tk := s.toks + 1) hw h1
        have hl2 : (putL (Str.ofString n) (PyData.keyHash cx.w.params (Str.ofString n)) (.str (Str.ofString n) (s.toks + 1)) W Es).length ≤ 100 := by
          rw [← hp2.length]
          have := putA_len n w as
          omega
        refine set_dict x'.F ok.kin x'.N I rfl (beq_iff_eq.mp c1) c2 (beq_iff_eq.mp c3) c4 hgl rfl (upd_of _ h4 x'.B.nd) (by omega) fun h' F' N' => k _ ?_
        refine RelD.rel (x'.go F' N' (x'.B.upd hp (.inr rfl) ⟨_, _, hp2, hl2, ?_, mem_updL_self h4⟩))
        refine mem_updL_ne h3 fun e => ?_
        have : instObj cx.C p.2 = dictOf Es n' := nodup_mem x'.B.nd (e ▸ h3 : (p.2, _) ∈ led) h4
        cases this
      · cases h
    · cases h
  · cases h
theorem sim_AssignAttr (ok : cx.Ok) {o e : Expr} {n : String} {pos' pos : Pos} {mo me : PM V} (h1 : SimV cx (eval e cx.env) me) (h2 : SimV cx (eval o cx.env) mo) (hc : okSet cx.K cx.C (Str.ofString n) = true)
    (hs : swapsWith e (some (.Attribute o (Str.ofString n) pos')) pos.line cx.env = pure false) :
    SimS cx (.Assign [.Attribute o (Str.ofString n) pos'] e pos) (PM.bind me fun v => PM.bind mo fun a => PM.bind (sAttr n v a) fun _ => PM.pure .next) := by
  intro ρ hid st s x v st' h
  obtain ⟨w, st1, e1, h⟩ := bind_ok h
  obtain ⟨a, st2, e2, h⟩ := bind_ok h
  obtain ⟨u, st3, e3, h⟩ := bind_ok h
  cases h
  refine plainObj_wpAny_Assign_Attribute (wp_seq (h1 ρ hid st s x w st1 e1) fun W s1 ρ1 p1 r1 v1 => wp_seq (h2 ρ1 hid st1 s1 r1 a st2 e2) fun A s2 ρ2 p2 r2 v2 => ?_) hs
  exact set_attr ok hc r2 v2 (v1.mono p2) e3 fun s' hr => ⟨ρ2, pre_trans p1 p2, hr, .next⟩
end
end Mine
namespace Mine
/-- the context of a called def -/
abbrev Cx.inn (cx : Cx) (g : Heap) (L' : Addr) (env' : Env) (k : Nat) : Cx := { cx with h₀ := g, L := L', A := cx.A.deeper env', fenv := env', env := env', outer := cx.fenv :: cx.outer, n := k, fzn := false }
theorem cellsFrom_addr : ∀ (names : List (Str × NameKind)) (n : Nat) (acc : List (Str × Addr)), (∀ x ∈ acc, x.2 < n) → (acc.map (·.2)).Nodup →
    ((cellsFrom n names acc).map (·.2)).Nodup ∧ ∀ x ∈ cellsFrom n names acc, x ∈ acc ∨ n ≤ x.2
  | [], n, acc, _, h => ⟨h, fun x hx => .inl hx⟩
  | (y, k) :: r, n, acc, h1, h2 => by
    unfold cellsFrom
    split
    · have := cellsFrom_addr r (n + 1) ((y, n) :: acc) (fun x hx => by
        rcases List.mem_cons.mp hx with rfl | hx
        · exact Nat.lt_succ_self _
        · exact Nat.lt_succ_of_lt (h1 x hx)) (by
        rw [List.map_cons, List.nodup_cons]
        refine ⟨fun hm => ?_, h2⟩
        obtain ⟨x, hx, e⟩ := List.mem_map.mp hm
        exact absurd (h1 x hx) (by rw [e]; exact Nat.lt_irrefl _))
      refine ⟨this.1, fun x hx => ?_⟩
      rcases this.2 x hx with h | h
      · rcases List.mem_cons.mp h with rfl | h
        · exact .inr (Nat.le_refl _)
        · exact .inl h
      · exact .inr (Nat.le_of_succ_le h)
    · exact cellsFrom_addr r n acc h1 h2
theorem cellsAre_fst {cm : Str → Option Value} : ∀ {cs : List (Str × Addr)} {cells : Led}, CellsAre cm cs cells → cells.map (·.1) = cs.map (·.2)
  | _, _, .nil => rfl
  | _, _, .cons _ r => by simp [cellsAre_fst r]
theorem cellsAre_get {cm : Str → Option Value} : ∀ {cs : List (Str × Addr)} {cells : Led}, CellsAre cm cs cells → ∀ {x : Str} {c : Addr}, cs.lookup x = some c → ∃ o, (c, o) ∈ cells ∧ o.data = .cell (cm x)
  | _, _, .cons (n := n) (c := c') (o := o) h r, x, c, e => by
    rw [List.lookup_cons] at e
    cases q : x == n with
    | true =>
      rw [q] at e
      cases e
      rw [beq_iff_eq] at q
      subst q
      exact ⟨o, .head _, h⟩
    | false =>
      rw [q] at e
      obtain ⟨o', h1, h2⟩ := cellsAre_get r e
      exact ⟨o', .tail _ h1, h2⟩
theorem bindL_other {kf : Str → Option NameKind} {x : Str} : ∀ (bs : List (Str × Value)) (m : Str → Option Value), (∀ b ∈ bs, b.1 ≠ x) → bindL kf bs m x = m x
  | [], _, _ => rfl
  | (n, v) :: r, m, h => by
    unfold bindL
    rw [bindL_other r _ fun b hb => h b (.tail _ hb)]
    have hn : x ≠ n := Ne.symm (h (n, v) (.head _))
    split
    · exact if_neg hn
    · rfl
theorem bindC_other {kf : Str → Option NameKind} {x : Str} : ∀ (bs : List (Str × Value)) (m : Str → Option Value), (∀ b ∈ bs, b.1 ≠ x) → bindC kf bs m x = m x
  | [], _, _ => rfl
  | (n, v) :: r, m, h => by
    unfold bindC
    rw [bindC_other r _ fun b hb => h b (.tail _ hb)]
    have hn : x ≠ n := Ne.symm (h (n, v) (.head _))
    split
    · rfl
    · exact if_neg hn
theorem zip_fst {ps : List String} {Vs : List Value} {x : Str} (h : ∀ p ∈ ps, Str.ofString p ≠ x) : ∀ b ∈ (ps.map Str.ofString).zip Vs, b.1 ≠ x := fun b hb => by
  have := (List.of_mem_zip (a := b.1) (b := b.2) hb).1
  obtain ⟨p, hp, e⟩ := List.mem_map.mp this
  rw [← e]; exact h p hp
theorem bind_get {ρ : Map} {kf : Str → Option NameKind} {n : String} {v : V} : ∀ {ps : List String} {vs : List V} {Vs : List Value} (m cm : Str → Option Value), ps.Nodup → VRs ρ vs Vs → (ps.zip vs).lookup n = some v →
    ∃ W, VR ρ v W ∧ (kf (Str.ofString n) = some .local → bindL kf ((ps.map Str.ofString).zip Vs) m (Str.ofString n) = some W) ∧ (kf (Str.ofString n) ≠ some .local → bindC kf ((ps.map Str.ofString).zip Vs) cm (Str.ofString n) = some W)
  | [], _, _, _, _, _, _, h => by simp at h
  | p :: ps, _, _, _, _, _, .nil, h => by simp at h
  | p :: ps, _, _, m, cm, hnd, .cons (a := a) (b := b) x t, h => by
    rw [List.nodup_cons] at hnd
    rw [List.zip_cons_cons, List.lookup_cons] at h
    rw [List.map_cons, List.zip_cons_cons]
    by_cases q : n = p
    · subst q
      rw [beq_self_eq_true] at h
      cases h
      have hne : ∀ r ∈ ps, Str.ofString r ≠ Str.ofString n := fun r hr e => hnd.1 (ofString_inj e ▸ hr)
      refine ⟨b, x, fun hk => ?_, fun hk => ?_⟩
      · unfold bindL
        rw [bindL_other _ _ (zip_fst hne), if_pos hk, if_pos rfl]
      · unfold bindC
        rw [bindC_other _ _ (zip_fst hne), if_neg hk, if_pos rfl]
    · rw [beq_eq_false_iff_ne.mpr q] at h
      obtain ⟨W, h1, h2, h3⟩ := bind_get (kf := kf) (if kf (Str.ofString p) = some .local then fun y => if y = Str.ofString p then some b else m y else m) (if kf (Str.ofString p) = some .local then cm else fun y => if y = Str.ofString p then some b else cm y) hnd.2 t h
      exact ⟨W, h1, h2, h3⟩
/-- a def called: its parameters, its body -/
def callP (ps : List String) (mb : PM Fl) : List V → PM V := fun vs st => if vs.length = ps.length then
    (match mb ⟨fun n => (ps.zip vs).lookup n, st.sto⟩ with
      | .ok fl st' => .ok (match fl with | .ret v => v | _ => .none) ⟨st.loc, st'.sto⟩
      | .exc e st' => .exc e ⟨st.loc, st'.sto⟩
      | .fail => .fail)
  else .fail
open Classical in
noncomputable def hidOf (ρ : Map) (fz led : Led) : Hd := ⟨led.filter fun q => decide ((∀ p ∈ ρ, q.1 ≠ p.1 ∧ q.1 ≠ p.2) ∧ ∀ r ∈ fz, r.1 ≠ q.1), fz⟩
theorem mem_hidOf {ρ : Map} {fz led : Led} {q : Addr × Obj} : q ∈ (hidOf ρ fz led).h ↔ q ∈ led ∧ (∀ p ∈ ρ, q.1 ≠ p.1 ∧ q.1 ≠ p.2) ∧ ∀ r ∈ fz, r.1 ≠ q.1 := by
  unfold hidOf
  simp only [List.mem_filter, decide_eq_true_eq]
section
variable {cx : Cx}
theorem inn_ok (ok : cx.Ok) {k : Nat} (hd : cx.A.depth + 4 * k + 5 < recursionLimit) (hu : cx.A.units + 40 * k + 203 < cLine) {qual : Str} {scope : Scope} {f : Addr} {cdv : Value} {g : Heap} {L' : Addr} (hk : scope.kind = .function) (st : cx.h₀.StaysIn g) (B : Below cx.A cx.base (cx.fenv :: cx.outer) g) :
    (cx.inn g L' (envOfC qual scope L' f cdv) k).Ok where
  bmain := ok.bmain.keeps st
  kin := ok.kin.keeps st
  top := ok.top.keeps st
  below := ⟨cx.A, B⟩
  frames := Around.frames_deeper ok.frames
  fframe := rfl
  fkind := hk
  kind := hk
  globals := rfl
  builtins := rfl
  handled := ok.handled
  depth := by show cx.A.depth + 1 + 4 * k + 4 < recursionLimit; omega
  units := by show cx.A.units + 3 + 40 * k + 200 < cLine; omega
  cinj := by
    intro x y c hx hy
    have h := (cellsFrom_addr scope.names (L' + 1) [] (fun _ h => nomatch h) .nil).1
    have hm : ∀ {l : List (Str × Addr)} {x : Str} {c : Addr}, l.lookup x = some c → (x, c) ∈ l := by
      intro l
      induction l with
      | nil => intro x c e; cases e
      | cons a r ih =>
        intro x c e
        rw [List.lookup_cons] at e
        cases q : x == a.1 with
        | true => rw [q] at e; cases e; rw [beq_iff_eq] at q; rw [q]; exact .head _
        | false => rw [q] at e; exact .tail _ (ih e)
    have h1 := hm (l := cellsFrom (L' + 1) scope.names []) hx
    have h2 := hm (l := cellsFrom (L' + 1) scope.names []) hy
    generalize cellsFrom (L' + 1) scope.names [] = l at h h1 h2
    induction l with
    | nil => cases h1
    | cons a r ih =>
      rw [List.map_cons, List.nodup_cons] at h
      rcases List.mem_cons.mp h1 with e | e <;> rcases List.mem_cons.mp h2 with e' | e'
      · exact (Prod.mk.inj (e.trans e'.symm)).1
      · exact absurd (List.mem_map_of_mem (f := (·.2)) e') (by rw [← e] at h; exact h.1)
      · exact absurd (List.mem_map_of_mem (f := (·.2)) e) (by rw [← e'] at h; exact h.1)
      · exact ih h.2 e e'
/-- the called def's first state -/
theorem bear_inn {ρ : Map} {hid : Hd} {fz led cells : Led} {m mloc : Str → Option Value} {st : St} (B : Bear cx ρ hid fz led m mloc st) {k : Nat} {qual : Str} {scope : Scope} {f : Addr} {cdv : Value} {g : Heap} {L' : Addr} {ps : List String} {vs : List V} {Vs : List Value}
    (hlt : ∀ p ∈ led, p.1 < L') (hv : VRs ρ vs Vs) (hps : ps.Nodup)
    (hkind : ∀ p ∈ ps, scope.names.lookup (Str.ofString p) = some .local ∨ scope.names.lookup (Str.ofString p) = some .cell)
    (C : CellsAre (bindC (envOfC qual scope L' f cdv).kindOf ((ps.map Str.ofString).zip Vs) fun _ => none) (cellsFrom (L' + 1) scope.names []) cells) :
    Bear (cx.inn g L' (envOfC qual scope L' f cdv) k) ρ (hidOf ρ fz led) fz (cells ++ led) (bindL (envOfC qual scope L' f cdv).kindOf ((ps.map Str.ofString).zip Vs) fun _ => none)
      (bindL (envOfC qual scope L' f cdv).kindOf ((ps.map Str.ofString).zip Vs) fun _ => none) ⟨fun n => (ps.zip vs).lookup n, st.sto⟩ := by
  have ca := cellsFrom_addr scope.names (L' + 1) [] (fun _ h => nomatch h) .nil
  have cf := cellsAre_fst C
  have cgt : ∀ q ∈ cells, L' < q.1 := fun q hq => by
    have : q.1 ∈ cells.map (·.1) := List.mem_map_of_mem hq
    rw [cf] at this
    obtain ⟨x, hx, e⟩ := List.mem_map.mp this
    rcases ca.2 x hx with h | h
    · cases h
    · rw [← e]; exact h
  have cmem : ∀ {x : Str} {c : Addr}, (envOfC qual scope L' f cdv).cells.lookup x = some c → L' < c := fun {x c} h => by
    obtain ⟨o, h1, _⟩ := cellsAre_get C h
    exact cgt _ h1
  have olt : ∀ p ∈ ρ, p.1 < L' ∧ p.2 < L' := fun p hp => by
    have := B.own p hp
    obtain ⟨q, hq, e⟩ := List.mem_map.mp this.1
    obtain ⟨q', hq', e'⟩ := List.mem_map.mp this.2
    exact ⟨e ▸ hlt q hq, e' ▸ hlt q' hq'⟩
  refine ⟨?_, fun h => absurd rfl h, .inl ⟨rfl, rfl⟩, B.len, fun p hp => ?_, fun i o p h1 h2 => ?_, B.sep, fun q hq => ?_, fun q hq => (mem_hidOf.mp hq).2.1, fun x c hc => ?_, fun x c hc => ⟨fun q hq => ?_, fun p hp => ?_⟩, fun q hq => List.mem_append_right _ (B.fin q hq), fun q hq => hq, fun q hq => (mem_hidOf.mp hq).2.2, B.fsep, fun _ q hq x hx hc => ?_, fun n v hn => ?_⟩
  · rw [List.map_append]
    refine List.nodup_append.mpr ⟨by rw [cf]; exact ca.1, B.nd, fun a ha b hb e => ?_⟩
    obtain ⟨q, hq, rfl⟩ := List.mem_map.mp ha
    obtain ⟨r, hr, rfl⟩ := List.mem_map.mp hb
    have h1 := cgt q hq
    have h2 := hlt r hr
    rw [← e] at h2
    exact absurd h1 (Nat.lt_asymm h2)
  · rw [List.map_append]
    exact ⟨List.mem_append_right _ (B.own p hp).1, List.mem_append_right _ (B.own p hp).2⟩
  · exact (B.obj i o p h1 h2).mono (pre_refl _) (fun _ h => h) fun _ _ h _ => List.mem_append_right _ h
  · exact List.mem_append_right _ (mem_hidOf.mp hq).1
  · obtain ⟨o, h1, h2⟩ := cellsAre_get C hc
    exact ⟨o, _, List.mem_append_left _ h1, h2⟩
  · exact Nat.ne_of_lt (Nat.lt_trans (hlt q (mem_hidOf.mp hq).1) (cmem hc))
  · exact ⟨Nat.ne_of_lt (Nat.lt_trans (olt p hp).1 (cmem hc)), Nat.ne_of_lt (Nat.lt_trans (olt p hp).2 (cmem hc))⟩
  · have h1 := hlt q (B.fin q hq)
    have h2 := cmem hc
    exact absurd h1 (Nat.lt_asymm h2)
  · have hm : n ∈ ps := by
      have : ∀ {l : List (String × V)}, l.lookup n = some v → ∃ w, (n, w) ∈ l := by
        intro l
        induction l with
        | nil => intro e; cases e
        | cons a r ih =>
          intro e
          rw [List.lookup_cons] at e
          cases q : n == a.1 with
          | true => rw [beq_iff_eq] at q; exact ⟨a.2, by rw [q]; exact .head _⟩
          | false => rw [q] at e; obtain ⟨w, hw⟩ := ih e; exact ⟨w, .tail _ hw⟩
      obtain ⟨w, hw⟩ := this hn
      exact (List.of_mem_zip hw).1
    obtain ⟨W, h1, h2, h3⟩ := bind_get (kf := (envOfC qual scope L' f cdv).kindOf) (fun _ => none) (fun _ => none) hps hv hn
    refine ⟨W, h1, ?_⟩
    rcases hkind n hm with q | q
    · exact .inl ⟨q, h2 q⟩
    · refine .inr ⟨.inl q, ?_⟩
      have hs := cellsFrom_some (x := Str.ofString n) scope.names (L' + 1) [] (.inl q)
      obtain ⟨c, hc⟩ := Option.isSome_iff_exists.mp hs
      obtain ⟨o, g1, g2⟩ := cellsAre_get C hc
      exact ⟨c, o, hc, List.mem_append_left _ g1, by rw [g2, h3 (by show scope.names.lookup _ ≠ _; rw [q]; simp)]⟩
/-- back in the caller -/
theorem bear_back {cx' : Cx} {ρ ρ' : Map} {hid : Hd} {fz led fz' led' : Led} {m mloc m' mloc' : Str → Option Value} {st st' : St} (hC : cx'.C = cx.C) (hw : cx'.w = cx.w) (hpr : cx'.prog = cx.prog) (hlam : cx'.lam = cx.lam) (htab : cx'.tab = cx.tab) (B : Bear cx ρ hid fz led m mloc st) (hρ : ρ <+: ρ') (B' : Bear cx' ρ' (hidOf ρ fz led) fz' led' m' mloc' st') :
    Bear cx ρ' hid fz' led' m mloc ⟨st.loc, st'.sto⟩ := by
  have keep : ∀ q ∈ led, (∀ p ∈ ρ, q.1 ≠ p.1 ∧ q.1 ≠ p.2) → q ∈ led' := fun q hq hp => by
    by_cases hf : ∀ r ∈ fz, r.1 ≠ q.1
    · exact B'.hin q (mem_hidOf.mpr ⟨hq, hp, hf⟩)
    · obtain ⟨r, hr'⟩ := Classical.not_forall.mp hf
      obtain ⟨hr, e⟩ := Classical.not_imp.mp hr'
      clear hr'
      have e : r.1 = q.1 := Classical.not_not.mp e
      have : r = q := by
        have h1 := B.fin r hr
        obtain ⟨a, o⟩ := r
        obtain ⟨b, o'⟩ := q
        dsimp only at e
        subst e
        rw [nodup_mem B.nd h1 hq]
      subst this
      exact B'.fin _ (B'.fz0 _ hr)
  have off : ∀ q ∈ led, (∀ p ∈ ρ, q.1 ≠ p.1 ∧ q.1 ≠ p.2) → ∀ p ∈ ρ', q.1 ≠ p.1 ∧ q.1 ≠ p.2 := fun q hq hp => by
    by_cases hf : ∀ r ∈ fz, r.1 ≠ q.1
    · exact B'.hsep q (mem_hidOf.mpr ⟨hq, hp, hf⟩)
    · obtain ⟨r, hr'⟩ := Classical.not_forall.mp hf
      obtain ⟨hr, e⟩ := Classical.not_imp.mp hr'
      clear hr'
      have e : r.1 = q.1 := Classical.not_not.mp e
      intro p hp'
      rw [← e]
      exact B'.fsep r (B'.fz0 _ hr) p hp'
  have cellsOff : ∀ x c o, cx.env.cells.lookup x = some c → (c, o) ∈ led → ∀ p ∈ ρ, c ≠ p.1 ∧ c ≠ p.2 := fun x c o hc _ p hp => ⟨Ne.symm ((B.csep x c hc).2 p hp).1, Ne.symm ((B.csep x c hc).2 p hp).2⟩
  have oat : ∀ {p : Addr × Addr} {o : O}, OAt cx' ρ' fz' led' p o → OAt cx ρ' fz' led' p o := fun {p o} h => by
    cases o with
    | inst as => obtain ⟨Es, n, a, b, c, d⟩ := h; exact ⟨Es, n, a, b, hC ▸ c, d⟩
    | dict es =>
      obtain ⟨o, kvs, a, d, c, b⟩ := h
      refine ⟨o, kvs, a, ?_, c, b⟩
      obtain ⟨prog, w⟩ := cx'
      dsimp only at hw hpr
      subst hw hpr
      exact d
    | clos cs => obtain ⟨fd, a, b⟩ := h; exact ⟨fd, a, hlam ▸ b⟩
    | ctab =>
      obtain ⟨a, b⟩ := h
      rw [hlam, htab] at b
      exact ⟨htab ▸ a, b⟩
    | _ => exact h
  refine ⟨B'.nd, B.cm, ?_, B'.len, B'.own, fun i o p h1 h2 => oat (B'.obj i o p h1 h2), B'.sep, fun q hq => keep q (B.hin q hq) (B.hsep q hq), fun q hq => off q (B.hin q hq) (B.hsep q hq), fun x c hc => ?_, fun x c hc => ⟨(B.csep x c hc).1, ?_⟩, B'.fin, fun q hq => B'.fz0 q (B.fz0 q hq), fun q hq r hr => ?_, B'.fsep, fun hz q hq x hx hc => ?_, fun n v hn => ?_⟩
  · rcases B.ln with h | ⟨g1, o, es, ep, g2, g3, g4, g5, g6, g7, g8, g9⟩
    · exact .inl h
    · have hn : ∀ p ∈ ρ, cx.env.locals ≠ p.1 ∧ cx.env.locals ≠ p.2 := fun p hp => ⟨Ne.symm (g6 p hp).1, Ne.symm (g6 p hp).2⟩
      refine .inr ⟨g1, o, es, ep, keep _ g2 hn, g3, g4, g5, fun p hp => ⟨Ne.symm (off _ g2 hn p hp).1, Ne.symm (off _ g2 hn p hp).2⟩, g7, fun q hq => ?_, g9⟩
      exact B'.hfz (cx.env.locals, o) (mem_hidOf.mpr ⟨g2, hn, fun r hr => g8 r hr⟩) q hq
  · obtain ⟨o, v, h1, h2⟩ := B.cel x c hc
    exact ⟨o, v, keep _ h1 (cellsOff x c o hc h1), h2⟩
  · obtain ⟨o, v, h1, h2⟩ := B.cel x c hc
    exact fun p hp => ⟨Ne.symm (off _ h1 (cellsOff x c o hc h1) p hp).1, Ne.symm (off _ h1 (cellsOff x c o hc h1) p hp).2⟩
  · exact B'.hfz q (mem_hidOf.mpr ⟨B.hin q hq, B.hsep q hq, fun r hr => B.hfz q hq r hr⟩) r hr
  · obtain ⟨o, v, h1, h2⟩ := B.cel x _ hc
    refine B'.hfz (q.1, o) (mem_hidOf.mpr ⟨h1, cellsOff x q.1 o hc h1, fun r hr e => ?_⟩) q hq rfl
    exact B.fcel hz r hr x hx (by rw [e]; exact hc)
  · obtain ⟨W, h1, h2⟩ := B.loc n v hn
    exact ⟨W, h1.mono hρ, h2.mono fun c o hc hm => keep _ hm (cellsOff _ c o hc hm)⟩
/-- the tail of a body, in which the cells are not bound any more -/
abbrev Cx.frz (cx : Cx) : Cx := { cx with fzn := true }
theorem Bear.frz {ρ : Map} {hid : Hd} {fz led : Led} {m mloc : Str → Option Value} {st : St} (B : Bear cx ρ hid fz led m mloc st) : Bear cx.frz ρ hid fz led m mloc st := by
  have oat : ∀ {p : Addr × Addr} {o : O}, OAt cx ρ fz led p o → OAt cx.frz ρ fz led p o := fun {p o} h => by cases o <;> exact h
  exact ⟨B.nd, B.cm, B.ln, B.len, B.own, fun i o p h1 h2 => oat (B.obj i o p h1 h2), B.sep, B.hin, B.hsep, B.cel, B.csep, B.fin, B.fz0, B.hfz, B.fsep, (fun h => by cases h), B.loc⟩
theorem Rel.frz {ρ : Map} {hid : Hd} {st : St} {s : Shared} (x : Rel cx ρ hid st s) : Rel cx.frz ρ hid st s := by
  obtain ⟨fz, led, m, mloc, x⟩ := x
  exact ⟨fz, led, m, mloc, x.F, x.N, x.B.frz, x.gens, x.os, x.tk⟩
theorem frz_ok (ok : cx.Ok) : cx.frz.Ok := ⟨ok.bmain, ok.kin, ok.top, ok.below, ok.frames, ok.fframe, ok.fkind, ok.kind, ok.globals, ok.builtins, ok.handled, ok.depth, ok.units, ok.cinj⟩
/-- a body as a whole -/
def SimBd (cx : Cx) (ss : List Stmt) (m : PM Fl) : Prop := ∀ ρ hid st s, Rel cx ρ hid st s → ∀ f st', m st = .ok f st' →
  wpAny cx.M cx.A (execs ss cx.env) (fun a s' => ∃ ρ', ρ <+: ρ' ∧ Rel cx.frz ρ' hid st' s' ∧ FR ρ' f a) (fun _ _ => False) s
theorem body_of {ss : List Stmt} {m : PM Fl} (h : SimSs cx ss m) : SimBd cx ss m := fun ρ hid st s x f st' e => wp_seq (h ρ hid st s x f st' e) fun a s' ρ' p r v => ⟨ρ', p, r.frz, v⟩
theorem body_frz {ss : List Stmt} {m : PM Fl} (ok : cx.Ok) (h : cx.frz.Ok → SimSs cx.frz ss m) : SimBd cx ss m := fun ρ hid st s x f st' e => h (frz_ok ok) ρ hid st s x.frz f st' e
theorem body_cons {a : Stmt} {r : List Stmt} {m k : PM Fl} (h1 : SimS cx a m) (h2 : SimBd cx r k) : SimBd cx (a :: r) (seqF m k) := by
  intro ρ hid st s x v st' h
  obtain ⟨f, st1, e1, h⟩ := bind_ok h
  refine wpAny_execs_cons (wp_seq (h1 ρ hid st s x f st1 e1) fun g s1 ρ1 p1 r1 v1 => ?_)
  cases v1 with
  | next =>
    refine wpAny_mono (h2 ρ1 hid st1 s1 r1 v st' h) (fun d s2 hq => ?_) fun _ _ z => z
    obtain ⟨ρ2, p2, r2, v2⟩ := hq
    exact ⟨ρ2, pre_trans p1 p2, r2, v2⟩
  | brk => cases h; exact ⟨ρ1, p1, r1.frz, .brk⟩
  | cont => cases h; exact ⟨ρ1, p1, r1.frz, .cont⟩
  | ret hv => cases h; exact ⟨ρ1, p1, r1.frz, .ret hv⟩
/-- a call of a def, up to its body: the tokens that stand then are not none -/
theorem call_pos {prog : Program} {w : World} {A : Around} {R : Result → Shared → Prop} {s : Shared} {fd : FuncData} {body : List Stmt} {f : Addr} {fo : Obj} {args : Args} {binds : List (Str × Value)} (hpos : 0 < s.toks)
    (hroom : A.depth < recursionLimit) (ho : s.heap.get? f = some fo) (hd : fo.data = .func fd) (hbd : fd.body = .stmts body) (hcl : fd.closure = []) (hgl : fd.globals = mainGlobals) (hbn : fd.builtins = builtinsNs) (hlim : s.heap.NoLimit) (hcd : s.heap.CodeRec fd.code fd.qualname)
    (hbind : BindsTo s fd args binds) (hkind : ∀ n, ∀ x ∈ binds, fd.scope.names.lookup x.1 = some .local ∨ (fd.scope.names.lookup x.1 = some .cell ∧ ((cellsFrom n fd.scope.names []).lookup x.1).isSome = true))
    (hnd : ((cellsFrom 0 fd.scope.names []).map (·.1)).Nodup)
    (h : ∀ h₁ tk cells, 0 < tk → Fr s.heap s.heap.objs.size h₁ (bindL (envOfC fd.qualname fd.scope s.heap.objs.size f fd.code).kindOf binds fun _ => none) → News s.heap s.heap.objs.size h₁ cells →
      CellsAre (bindC (envOfC fd.qualname fd.scope s.heap.objs.size f fd.code).kindOf binds fun _ => none) (cellsFrom (s.heap.objs.size + 1) fd.scope.names []) cells →
      wpAny (model prog w) (A.deeper (envOfC fd.qualname fd.scope s.heap.objs.size f fd.code)) (execs body (envOfC fd.qualname fd.scope s.heap.objs.size f fd.code))
        (fun fl s' => R (.ok (.ret (match fl with | .ret v => v | _ => .none))) s') (fun _ _ => False) { s with heap := h₁, toks := tk })
    (hco : fd.scope.isCoroutine = false) (hgen : fd.scope.isGenerator = false) (hk : fd.scope.kind = .function) : codeAny (model prog w) A (.call (.ref f) args) R s := by
  obtain ⟨name, qualname, params, bd, scope, globals, closure, defaults, kwdefaults, doc, pyModule, annotations, code, closureTuple, builtins⟩ := fd
  dsimp only at *
  subst hbd hcl hgl hbn
  refine codeAny_call_function hroom ho hd hco hgen rfl hcd (hbind _ _ _ _ ?_)
  refine lf hpos (wpAny_newFunctionEnv_cells hk (hkind _) fun env' he s' x htk => ?_)
  subst he
  refine ⟨hlim.keeps x.toInCall.keep, codeAny_func ?_⟩
  obtain ⟨h₁, tk, rfl, _⟩ := x.done
  obtain ⟨cells, NC, Y⟩ := Cl.news (h₀ := s.heap) (Nat.le_refl _) fun n c hm => ⟨x.cell n c (lookup_of_mem_nodup (cellsFrom_names scope.names 0 (s.heap.objs.size + 1) [] [] rfl ▸ hnd) hm), x.above n c hm⟩
  exact wpAny_mono (h h₁ tk cells htk ⟨x.toInCall.ns, x.toInCall.keep, Nat.le_refl _⟩ NC Y) (fun fl s' hl => hl) fun _ _ y => y.elim
theorem code_user (ok : cx.Ok) {k : Nat} (hdp : cx.A.depth + 4 * k + 5 < recursionLimit) (hun : cx.A.units + 40 * k + 203 < cLine) {ps : List String} {mb : PM Fl} {name qual : Str} {params : Arguments} {body : List Stmt} {scope : Scope} {dV kV doc pm cdv ct oc : Value} {an od : Option Addr} {osl : Array (Option Value)} {f : Addr}
    (ho : cx.K.lookup f = some ⟨oc, od, .func (fnOf name qual params body scope dV kV doc pm an cdv ct), osl⟩) (hcd : codeIn cx.K cdv qual = true)
    (hb : ∀ Vs : List Value, Vs.length = ps.length → bindArgs (fnOf name qual params body scope dV kV doc pm an cdv ct) ⟨Vs, []⟩ = pure ((ps.map Str.ofString).zip Vs))
    (hkind : ∀ p ∈ ps, scope.names.lookup (Str.ofString p) = some .local ∨ scope.names.lookup (Str.ofString p) = some .cell) (hps : ps.Nodup) (hnd : ((cellsFrom 0 scope.names []).map (·.1)).Nodup)
    (hco : scope.isCoroutine = false) (hgen : scope.isGenerator = false) (hk : scope.kind = .function)
    (hbody : ∀ g L', (cx.inn g L' (envOfC qual scope L' f cdv) k).Ok → SimBd (cx.inn g L' (envOfC qual scope L' f cdv) k) body mb)
    {ρ : Map} {hid : Hd} {st st' : St} {s : Shared} (x : Rel cx ρ hid st s) {vs : List V} {Vs : List Value} (hv : VRs ρ vs Vs) {v : V} (h : callP ps mb vs st = .ok v st') {R : Result → Shared → Prop}
    (hR : ∀ ρ' W s', ρ <+: ρ' → Rel cx ρ' hid st' s' → VR ρ' v W → R (.ok (.ret W)) s') : codeAny cx.M cx.A (.call (.ref f) ⟨Vs, []⟩) R s := by
  unfold callP at h
  split at h
  · rename_i hlen
    split at h
    · rename_i fl st1 e1
      cases h
      obtain ⟨fz, led, m, mloc, x⟩ := x
      obtain ⟨A₀, hB⟩ := ok.below
      have hVl : Vs.length = ps.length := by rw [← hv.length]; exact hlen
      obtain ⟨FG, B', stays, lv⟩ := groundX (A := cx.A) (R := R) hB x.F x.N ok.frames ok.fframe ok.fkind
      refine call_pos x.tk (by have := ok.depth; omega) (ok.kin.keeps x.F.keep _ _ ho) rfl rfl rfl rfl rfl (ok.top.nolimit.keeps x.F.keep) (codeRec_of (ok.kin.keeps x.F.keep) hcd) (BindsTo.of_eq (hb Vs hVl)) (fun j y hy => ?_) hnd
        (fun h₁ tk cells htk F1 N1 C' => ?_) hco hgen hk
      · have := (List.of_mem_zip (a := y.1) (b := y.2) hy).1
        obtain ⟨p, hp, e⟩ := List.mem_map.mp this
        rw [← e]
        rcases hkind p hp with q | q
        · exact .inl q
        · exact .inr ⟨q, cellsFrom_some scope.names j [] (.inl q)⟩
      · have hlt : ∀ p ∈ led, p.1 < s.heap.objs.size := fun p hp => Heap.lt_size (x.N p hp).1
        have ok' := inn_ok (qual := qual) (f := f) (cdv := cdv) (L' := s.heap.objs.size) ok hdp hun hk stays B'
        have Br := bear_inn (k := k) (g := hideAll s.heap (led.map (·.1))) x.B hlt hv hps hkind C'
        have F' : Fr (hideAll s.heap (led.map (·.1))) s.heap.objs.size h₁ (bindL (envOfC qual scope s.heap.objs.size f cdv).kindOf ((ps.map Str.ofString).zip Vs) fun _ => none) := ⟨F1.ns, fun b o e => F1.keep b o (of_hideAll _ e), Nat.le_of_eq (hideAll_size _ _)⟩
        have N' : News (hideAll s.heap (led.map (·.1))) s.heap.objs.size h₁ (cells ++ led) := fun p hp => by
          rcases List.mem_append.mp hp with hp | hp
          · refine ⟨(N1 p hp).1, (N1 p hp).2.1, ?_⟩
            cases q : (hideAll s.heap (led.map (·.1))).get? p.1 with
            | none => rfl
            | some o => have := of_hideAll _ q; rw [(N1 p hp).2.2] at this; cases this
          · exact ⟨F1.keep _ _ (x.N p hp).1, Nat.ne_of_lt (hlt p hp), hideAll_none _ (List.mem_map_of_mem hp)⟩
        have R' : Rel (cx.inn (hideAll s.heap (led.map (·.1))) s.heap.objs.size (envOfC qual scope s.heap.objs.size f cdv) k) ρ (hidOf ρ fz led) ⟨fun n => (ps.zip vs).lookup n, st.sto⟩ { s with heap := h₁, toks := tk } := ⟨fz, cells ++ led, _, _, F', N', Br, x.gens, x.os, htk⟩
        refine wpAny_mono (hbody _ s.heap.objs.size ok' ρ _ _ _ R' fl st1 e1) (fun fw s' hq => ?_) fun _ _ z => z.elim
        obtain ⟨ρ', hρ, ⟨fz', led', m', mloc', r'⟩, hfl⟩ := hq
        refine lv _ _ (leaveK_ r'.F r'.N fun F'' N'' => ?_)
        refine hR ρ' _ s' hρ ⟨fz', led', m, mloc, F'', N'', bear_back (cx' := (cx.inn (hideAll s.heap (led.map (·.1))) s.heap.objs.size (envOfC qual scope s.heap.objs.size f cdv) k).frz) rfl rfl rfl rfl rfl x.B hρ r'.B, r'.gens, r'.os, r'.tk⟩ ?_
        cases hfl with
        | ret hv => exact hv
        | _ => exact .none
    · cases h
    · cases h
  · cases h
/-- another place around -/
abbrev Cx.at (cx : Cx) (A' : Around) : Cx := { cx with A := A', n := 0 }
theorem Bear.chA {A' : Around} {n' : Nat} {ρ : Map} {hid : Hd} {fz led : Led} {m mloc : Str → Option Value} {st : St} (B : Bear cx ρ hid fz led m mloc st) : Bear { cx with A := A', n := n' } ρ hid fz led m mloc st := by
  have oat : ∀ {p : Addr × Addr} {o : O}, OAt cx ρ fz led p o → OAt { cx with A := A', n := n' } ρ fz led p o := fun {p o} h => by cases o <;> exact h
  exact ⟨B.nd, B.cm, B.ln, B.len, B.own, fun i o p h1 h2 => oat (B.obj i o p h1 h2), B.sep, B.hin, B.hsep, B.cel, B.csep, B.fin, B.fz0, B.hfz, B.fsep, B.fcel, B.loc⟩
theorem Rel.chA {A' : Around} {n' : Nat} {ρ : Map} {hid : Hd} {st : St} {s : Shared} (x : Rel cx ρ hid st s) : Rel { cx with A := A', n := n' } ρ hid st s := by
  obtain ⟨fz, led, m, mloc, x⟩ := x
  exact ⟨fz, led, m, mloc, x.F, x.N, x.B.chA, x.gens, x.os, x.tk⟩
theorem Rel.unA {A' : Around} {ρ : Map} {hid : Hd} {st : St} {s : Shared} (x : Rel (cx.at A') ρ hid st s) : Rel cx ρ hid st s := Rel.chA (cx := cx.at A') (A' := cx.A) (n' := cx.n) x
/-- a def as a primitive -/
structure Fn (cx : Cx) (k : Nat) (f : Addr) (ps : List String) (mb : PM Fl) : Prop where
  run : ∀ A', (cx.at A').Ok → A'.depth + 4 * k + 5 < recursionLimit → A'.units + 40 * k + 203 < cLine → ∀ {ρ : Map} {hid : Hd} {st st' : St} {s : Shared}, Rel cx ρ hid st s → ∀ {vs : List V} {Vs : List Value}, VRs ρ vs Vs → ∀ {v : V}, callP ps mb vs st = .ok v st' →
    ∀ {R : Result → Shared → Prop}, (∀ ρ' W s', ρ <+: ρ' → Rel cx ρ' hid st' s' → VR ρ' v W → R (.ok (.ret W)) s') → codeAny cx.M A' (.call (.ref f) ⟨Vs, []⟩) R s
theorem fn_user {k : Nat} {ps : List String} {mb : PM Fl} {name qual : Str} {params : Arguments} {body : List Stmt} {scope : Scope} {dV kV doc pm cdv ct oc : Value} {an od : Option Addr} {osl : Array (Option Value)} {f : Addr}
    (ho : cx.K.lookup f = some ⟨oc, od, .func (fnOf name qual params body scope dV kV doc pm an cdv ct), osl⟩) (hcd : codeIn cx.K cdv qual = true)
    (hb : ∀ Vs : List Value, Vs.length = ps.length → bindArgs (fnOf name qual params body scope dV kV doc pm an cdv ct) ⟨Vs, []⟩ = pure ((ps.map Str.ofString).zip Vs))
    (hkind : ∀ p ∈ ps, scope.names.lookup (Str.ofString p) = some .local ∨ scope.names.lookup (Str.ofString p) = some .cell) (hps : ps.Nodup) (hnd : ((cellsFrom 0 scope.names []).map (·.1)).Nodup)
    (hco : scope.isCoroutine = false) (hgen : scope.isGenerator = false) (hk : scope.kind = .function)
    (hbody : ∀ A' g L', ((cx.at A').inn g L' (envOfC qual scope L' f cdv) k).Ok → SimBd ((cx.at A').inn g L' (envOfC qual scope L' f cdv) k) body mb) : Fn cx k f ps mb :=
  ⟨fun A' ok hd hu _ _ _ _ _ x _ _ hv _ h _ hR => code_user (cx := cx.at A') ok hd hu ho hcd hb hkind hps hnd hco hgen hk (hbody A') x.chA hv h fun ρ' W s' a b c => hR ρ' W s' a b.unA c⟩
theorem at_ok (ok : cx.Ok) : (cx.at cx.A).Ok := ⟨ok.bmain, ok.kin, ok.top, ok.below, ok.frames, ok.fframe, ok.fkind, ok.kind, ok.globals, ok.builtins, ok.handled, by have := ok.depth; show cx.A.depth + 4 * 0 + 4 < _; omega, by have := ok.units; show cx.A.units + 40 * 0 + 200 < _; omega, ok.cinj⟩
theorem pc_user (ok : cx.Ok) {k : Nat} (hn : k + 1 ≤ cx.n) {f : Addr} {ps : List String} {mb : PM Fl} (F : Fn cx k f ps mb) : PC cx (.ref f) (callP ps mb) := by
  intro ρ hid st s x vs Vs hv v st' h
  exact wpAny_call (F.run cx.A (at_ok ok) (by have := ok.depth; omega) (by have := ok.units; omega) x hv h fun ρ' W s' a b c => ⟨ρ', a, b, c⟩)
/-- an instance made -/
def newInst (mi : PM Fl) (ps : List String) : List V → PM V := fun vs => PM.bind (alloc (.inst [])) fun v => PM.bind (callP ps mi (v :: vs)) fun r => match r with
  | .none => PM.pure v
  | _ => PM.fail
theorem under_ok (ok : cx.Ok) {c : Code} (hf : c.envs = []) (hd : c.weight ≤ 2) (hu : c.cUnits ≤ 10) (hn : 1 ≤ cx.n) : (cx.at (cx.A.under c)).Ok where
  bmain := ok.bmain
  kin := ok.kin
  top := ok.top
  below := ok.below
  frames := by show pushEnvs c.envs cx.A.frames = _; rw [hf]; exact ok.frames
  fframe := ok.fframe
  fkind := ok.fkind
  kind := ok.kind
  globals := ok.globals
  builtins := ok.builtins
  handled := ok.handled
  depth := by have := ok.depth; show cx.A.depth + c.weight + 4 * 0 + 4 < _; omega
  units := by have := ok.units; show cx.A.units + c.cUnits + 40 * 0 + 200 < _; omega
  cinj := ok.cinj
theorem tc_envs (a : Args) : (Code.builtin "type.__call__" a).envs = [] := rfl
theorem tc_frames (a : Args) : (Code.builtin "type.__call__" a).frames = 0 := by
  unfold Code.frames
  rfl
theorem tc_weight (C : Addr) (r : List Value) (kw : List (Str × Value)) : (Code.builtin "type.__call__" ⟨.ref C :: r, kw⟩).weight ≤ 2 := by
  unfold Code.weight
  rw [tc_frames]
  have h1 : (Code.builtin "type.__call__" ⟨.ref C :: r, kw⟩).isGuard = false := by show guardIds.contains "type.__call__" = false; decide
  have h2 : (Code.builtin "type.__call__" ⟨.ref C :: r, kw⟩).isCaller = false := rfl
  rw [h1, h2]
  split <;> decide
theorem tc_units (C : Addr) (r : List Value) (kw : List (Str × Value)) : (Code.builtin "type.__call__" ⟨.ref C :: r, kw⟩).cUnits ≤ 10 := by
  show 1 + 3 * (Code.builtin "type.__call__" ⟨.ref C :: r, kw⟩).frames ≤ 10
  rw [tc_frames]; decide
theorem pc_class (ok : cx.Ok) {k : Nat} (hn : k + 1 ≤ cx.n) {fI : Addr} {ps : List String} {mi : PM Fl} (hm : makesIn cx.K cx.C = true) (hi : findIn cx.K (.ref cx.C) "__init__" = some (some (.ref fI))) (hf : isFn cx.K (.ref fI) = true) (F : Fn cx k fI ps mi) :
    PC cx (.ref cx.C) (newInst mi ps) := by
  intro ρ hid st s x vs Vs hv v st' h
  unfold newInst at h
  obtain ⟨o, st1, e1, h0⟩ := bind_ok h
  clear h
  obtain ⟨r, st2, e2, h⟩ := bind_ok h0
  clear h0
  cases e1
  split at h
  · cases h
    obtain ⟨fz, led, m, mloc, x⟩ := x
    refine call_cls x.F ok.kin x.N hm hi hf fun a dx h' F' N' hlt hlt' => ?_
    have B1 := x.B.more (ob := dictOf [] 0) fun q hq => Nat.ne_of_lt (hlt q hq)
    have B2 := B1.more (a := a) (ob := instObj cx.C dx) fun q hq => by
      rcases List.mem_cons.mp hq with rfl | hq
      · exact Nat.ne_of_lt hlt'
      · exact Nat.ne_of_lt (Nat.lt_trans (hlt q hq) hlt')
    have hin : ∀ b, b ∈ led.map (·.1) → b < dx := fun b hb => by
      obtain ⟨q, hq, rfl⟩ := List.mem_map.mp hb
      exact hlt q hq
    have B3 := B2.enter (p := (a, dx)) (o := .inst []) (.head _) (.tail _ (.head _)) (fun q hq => by
        have := x.B.own q hq
        have h1 := hin _ this.1
        have h2 := hin _ this.2
        exact ⟨Nat.ne_of_gt (Nat.lt_trans h1 hlt'), Nat.ne_of_gt (Nat.lt_trans h2 hlt'), Nat.ne_of_gt h1, Nat.ne_of_gt h2⟩)
      (fun q hq => by have h1 := hlt q (x.B.hin q hq); exact ⟨Nat.ne_of_lt (Nat.lt_trans h1 hlt'), Nat.ne_of_lt h1⟩)
      (fun q hq => by have h1 := hlt q (x.B.fin q hq); exact ⟨Nat.ne_of_lt (Nat.lt_trans h1 hlt'), Nat.ne_of_lt h1⟩)
      (fun y c hc => by obtain ⟨o', v', g1, _⟩ := x.B.cel y c hc; have h1 := hlt _ g1; exact ⟨Nat.ne_of_gt (Nat.lt_trans h1 hlt'), Nat.ne_of_gt h1⟩)
      (fun hl => by
        rcases x.B.ln with q | ⟨_, o', es, ep, g2, _⟩
        · exact absurd q.1 hl
        · have h1 := hlt _ g2; exact ⟨Nat.ne_of_gt (Nat.lt_trans h1 hlt'), Nat.ne_of_gt h1⟩)
      ⟨[], 0, .nil, Nat.zero_le _, .head _, .tail _ (.head _)⟩
    have R3 : Rel cx (ρ ++ [(a, dx)]) hid { st with sto := st.sto ++ [.inst []] } { s with heap := h' } := ⟨fz, _, m, mloc, F', N', B3, x.gens, x.os, x.tk⟩
    have hp : ρ <+: ρ ++ [(a, dx)] := List.prefix_append _ _
    have hov : VR (ρ ++ [(a, dx)]) (.obj st.sto.length) (.ref a) := by
      have := VR.obj (alloc_get ρ (a, dx))
      rw [x.B.len] at this
      exact this
    have hd := ok.depth
    have hu := ok.units
    have hw := tc_weight cx.C Vs []
    have hcu := tc_units cx.C Vs []
    refine F.run _ (under_ok ok (tc_envs _) hw hcu (by omega)) (by show cx.A.depth + (Code.builtin "type.__call__" ⟨.ref cx.C :: Vs, []⟩).weight + 4 * k + 5 < _; omega) (by show cx.A.units + (Code.builtin "type.__call__" ⟨.ref cx.C :: Vs, []⟩).cUnits + 40 * k + 203 < _; omega) R3 (.cons hov (hv.mono hp)) e2 fun ρ' W s' p1 r1 v1 => ?_
    cases vr_none v1
    exact ⟨rfl, ρ', pre_trans hp p1, r1, hov.mono p1⟩
  · cases h
end
end Mine
namespace Mine
section
variable {cx : Cx}
/-- a callee whose keeper is known -/
def KeepOk (cx : Cx) (u : Value) : Prop := ∀ h, cx.K.In h → ∃ k, (k = Keeper.frame ∨ k = Keeper.machine ∨ k = Keeper.boundFrame) ∧ Looks cx.M h (keeperOf u) k
theorem keep_builtin {id : String} : KeepOk cx (.builtin id) := fun _ _ => ⟨.machine, .inr (.inl rfl), Looks.of_pure rfl⟩
theorem keep_type {T : String} : KeepOk cx (.type T) := fun _ _ => ⟨.machine, .inr (.inl rfl), Looks.of_pure rfl⟩
theorem keep_K {u : Value} (hk : keepIn cx.K u = true) : KeepOk cx u := fun h X => keeps_K hk h X
theorem evalArgs_of {M : Model} {A : Around} {E : Value → Shared → Prop} {s : Shared} {f : Value} {args : List (Bool × Sem Value)} {Q : Args → Shared → Prop} (hplain : args.any (·.1) = false)
    (h : wpAny M A (spliced args) (fun vs s' => Q ⟨vs, []⟩ s') E s) : wpAny M A (evalArgs f true args []) Q E s := by
  cases args with
  | nil =>
    unfold evalArgs
    show wpAny M A (spliced [] >>= _) Q E s
    refine wpAny_bind (wpAny_mono h (fun vs s' h' => wpAny_bind (wpAny_pure (wpAny_holding ?_))) fun _ _ x => x)
    exact wpAny_bind (wpAny_pure (wpAny_bind (wpAny_pure (wpAny_pure h'))))
  | cons a r =>
    obtain ⟨b, t⟩ := a
    rw [List.any_cons, Bool.or_eq_false_iff] at hplain
    obtain ⟨rfl, _⟩ := hplain
    exact evalArgs_plain h
theorem call_with (ok : cx.Ok) {u : Value} {pos : Pos} {es : List Expr} {ma : PM (List V)} {f : List V → PM V} {first : List V} {First : List Value} (ha : SimL cx pos es ma) (hk : KeepOk cx u) (hp : PC cx u f) (hplain : (backTo pos (starEach es cx.env)).any (·.1) = false)
    {ρ : Map} {hid : Hd} {st st1 st' : St} {s : Shared} (x : Rel cx ρ hid st s) (hf : VRs ρ first First) {vs : List V} {v : V} (e1 : ma st = .ok vs st1) (e2 : f (first ++ vs) st1 = .ok v st') :
    wpAny cx.M cx.A (callWith pos u First (backTo pos (starEach es cx.env)) []) (fun V s' => ∃ ρ', ρ <+: ρ' ∧ Rel cx ρ' hid st' s' ∧ VR ρ' v V) (fun _ _ => False) s := by
  refine callWith_of (P := cx.K.In) (by rw [hplain]; rfl) hk (evalArgs_of hplain (wp_seq (ha ρ hid st s x vs st1 e1) fun Vs s1 ρ1 p1 r1 v1 => ⟨?_, wp_seq (hp ρ1 hid st1 s1 r1 _ _ (vrs_append (hf.mono p1) v1) v st' e2) fun W s2 ρ2 p2 r2 v2 => ⟨ρ2, pre_trans p1 p2, r2, v2⟩⟩))
  obtain ⟨fz, led, m, mloc, r⟩ := r1
  exact ok.kin.keeps r.F.keep
/-- a call by a name -/
theorem sim_Call (ok : cx.Ok) {func : Expr} {es : List Expr} {pos : Pos} {u : Value} {ma : PM (List V)} {f : List V → PM V} (hf : SimV cx (eval func cx.env) (PM.pure (.glob u))) (ha : SimL cx pos es ma) (hk : KeepOk cx u) (hp : PC cx u f)
    (hplain : (backTo pos (starEach es cx.env)).any (·.1) = false) (he : eval (.Call func es [] pos) cx.env = (eval func cx.env >>= fun fv => callWith pos fv [] (backTo pos (starEach es cx.env)) [])) :
    SimV cx (eval (.Call func es [] pos) cx.env) (PM.bind ma f) := by
  intro ρ hid st s x v st' h
  obtain ⟨vs, st1, e1, h⟩ := bind_ok h
  rw [he]
  refine wpAny_bind (wp_seq (hf ρ hid st s x (.glob u) st rfl) fun U s1 ρ1 p1 r1 v1 => ?_)
  cases vr_glob v1
  exact wp_seq (call_with ok ha hk hp hplain r1 (first := []) .nil e1 h) fun W s2 ρ2 p2 r2 v2 => ⟨ρ2, pre_trans p1 p2, r2, v2⟩
/-- a method of a list, a text, a dict -/
def isList : V → PM Unit
  | .obj i => fun st => match st.sto[i]? with
    | some (.list _) => .ok () st
    | _ => .fail
  | _ => PM.fail
def isStr : V → PM Unit
  | .str _ => PM.pure ()
  | _ => PM.fail
abbrev MethForm (cx : Cx) (o : Expr) (name : Str) (apos pos : Pos) (es : List Expr) (pl : Sem Bool) : Prop := eval (.Call (.Attribute o name apos) es [] pos) cx.env = (do
      let ov ← eval o cx.env
      standAt apos.atName
      let (f, first) ← holding [ov] (getMethod ov name pl)
      callWith pos f first (backTo pos (starEach es cx.env)) [])
theorem sim_MethL (ok : cx.Ok) {o : Expr} {name : Str} {bid : String} {apos pos : Pos} {es : List Expr} {pl : Sem Bool} {mo : PM V} {ma : PM (List V)} {f : List V → PM V} (slot : Slot "list" name bid) (hty : typeOf (.builtin bid) = pure (.type "method_descriptor"))
    (hp : PC cx (.builtin bid) f) (ho : SimV cx (eval o cx.env) mo) (ha : SimL cx pos es ma) (hplain : (backTo pos (starEach es cx.env)).any (·.1) = false) (he : MethForm cx o name apos pos es pl) :
    SimV cx (eval (.Call (.Attribute o name apos) es [] pos) cx.env) (PM.bind mo fun v => PM.bind (isList v) fun _ => PM.bind ma fun vs => f (v :: vs)) := by
  intro ρ hid st s x v st' h
  obtain ⟨a, st1, e1, h1⟩ := bind_ok h
  obtain ⟨u, st2, e2, h2⟩ := bind_ok h1
  obtain ⟨vs, st3, e3, h3⟩ := bind_ok h2
  clear h h1 h2
  refine MethodCall_ (wp_seq (ho ρ hid st s x a st1 e1) fun A s1 ρ1 p1 r1 v1 => ?_) he
  unfold isList at e2
  split at e2
  · rename_i i
    obtain ⟨p, hp', rfl⟩ := vr_obj v1
    split at e2
    · rename_i xs hi
      cases e2
      obtain ⟨fz, led, m, mloc, r'⟩ := id r1
      obtain ⟨Xs, n, g1, g2⟩ := r'.list_at hi hp'
      exact kl_method r'.N g2 slot hty (wp_seq (call_with ok ha keep_builtin hp hplain r1 (first := [_]) (.cons v1 .nil) e3 h3) fun W s2 ρ2 p2 r2 v2 => ⟨ρ2, pre_trans p1 p2, r2, v2⟩)
    · cases e2
  · cases e2
set_option maxRecDepth 100000 in
theorem sim_MethS (ok : cx.Ok) {o : Expr} {name : Str} {bid : String} {apos pos : Pos} {es : List Expr} {pl : Sem Bool} {mo : PM V} {ma : PM (List V)} {f : List V → PM V} (slot : Slot "str" name bid) (hty : typeOf (.builtin bid) = pure (.type "method_descriptor"))
    (hp : PC cx (.builtin bid) f) (ho : SimV cx (eval o cx.env) mo) (ha : SimL cx pos es ma) (hplain : (backTo pos (starEach es cx.env)).any (·.1) = false) (he : MethForm cx o name apos pos es pl) :
    SimV cx (eval (.Call (.Attribute o name apos) es [] pos) cx.env) (PM.bind mo fun v => PM.bind (isStr v) fun _ => PM.bind ma fun vs => f (v :: vs)) := by
  intro ρ hid st s x v st' h
  obtain ⟨a, st1, e1, h1⟩ := bind_ok h
  obtain ⟨u, st2, e2, h2⟩ := bind_ok h1
  obtain ⟨vs, st3, e3, h3⟩ := bind_ok h2
  clear h h1 h2
  refine MethodCall_ (wp_seq (ho ρ hid st s x a st1 e1) fun A s1 ρ1 p1 r1 v1 => ?_) he
  unfold isStr at e2
  split at e2
  · cases e2
    obtain ⟨t, rfl⟩ := vr_str v1
    exact getMethod_builtin (typeIs_str _ _ _) PySem.F.plainAttrs_str slot hty (fun a e => by cases e) (wp_seq (call_with ok ha keep_builtin hp hplain r1 (first := [_]) (.cons v1 .nil) e3 h3) fun W s2 ρ2 p2 r2 v2 => ⟨ρ2, pre_trans p1 p2, r2, v2⟩)
  · cases e2
/-- a method of the class, not hidden by the instance -/
def isInst (n : String) : V → PM Unit
  | .obj i => fun st => match st.sto[i]? with
    | some (.inst as) => (match as.lookup n with | none => .ok () st | some _ => .fail)
    | _ => .fail
  | _ => PM.fail
theorem sim_MethI (ok : cx.Ok) {o : Expr} {n : String} {g : Addr} {apos pos : Pos} {es : List Expr} {pl : Sem Bool} {mo : PM V} {ma : PM (List V)} {f : List V → PM V} (hg : plainGet cx.K cx.C (Str.ofString n) = true)
    (hf : findIn cx.K (.ref cx.C) (Str.ofString n) = some (some (.ref g))) (ht : isFn cx.K (.ref g) = true) (hk : keepIn cx.K (.ref g) = true)
    (hp : PC cx (.ref g) f) (ho : SimV cx (eval o cx.env) mo) (ha : SimL cx pos es ma) (hplain : (backTo pos (starEach es cx.env)).any (·.1) = false) (he : MethForm cx o (Str.ofString n) apos pos es pl) :
    SimV cx (eval (.Call (.Attribute o (Str.ofString n) apos) es [] pos) cx.env) (PM.bind mo fun v => PM.bind (isInst n v) fun _ => PM.bind ma fun vs => f (v :: vs)) := by
  intro ρ hid st s x v st' h
  obtain ⟨a, st1, e1, h1⟩ := bind_ok h
  obtain ⟨u, st2, e2, h2⟩ := bind_ok h1
  obtain ⟨vs, st3, e3, h3⟩ := bind_ok h2
  clear h h1 h2
  refine MethodCall_ (wp_seq (ho ρ hid st s x a st1 e1) fun A s1 ρ1 p1 r1 v1 => ?_) he
  unfold isInst at e2
  split at e2
  · rename_i i
    obtain ⟨p, hp', rfl⟩ := vr_obj v1
    split at e2
    · rename_i as hi
      split at e2
      · rename_i hl
        cases e2
        obtain ⟨fz, led, m, mloc, r'⟩ := id r1
        obtain ⟨Es, n', j1, j2, j3, j4, I⟩ := inst_at r' hi hp'
        refine method_inst r'.F ok.kin I hg hf ht ?_ (wp_seq (call_with ok ha (keep_K hk) hp hplain r1 (first := [_]) (.cons v1 .nil) e3 h3) fun W s2 ρ2 p2 r2 v2 => ⟨ρ2, pre_trans p1 p2, r2, v2⟩)
        unfold PySem.W.getL
        rw [ar_none j1 hl, ar_noref j1]
        rfl
      · cases e2
    · cases e2
  · cases e2
/-- a call whose value is dropped -/
theorem sim_Expr {e : Expr} {pos : Pos} {m : PM V} (h : SimV cx (eval e cx.env) m) (hi : interactive cx.env = false) (hs : swapsWith e none pos.line cx.env = pure false)
    (hd : ∀ v, dropValue e pos v = (match v with | .ref _ => (do standAt pos; let _ ← runValue (.builtin "proto.let_go" {}); pure .next) | _ => pure .next)) :
    SimS cx (.Expr e pos) (PM.bind m fun v => match v with | .obj _ => PM.fail | .glob _ => PM.fail | _ => PM.pure .next) := by
  intro ρ hid st s x v st' e0
  obtain ⟨a, st1, e1, e⟩ := bind_ok e0
  rw [exec_Expr cx.env _ pos hi hs]
  refine wpAny_bind (wpAny_standAt (wpAny_bind (wp_seq (h ρ hid st s x a st1 e1) fun A s1 ρ1 p1 r1 v1 => ?_)))
  rw [hd]
  cases v1 with
  | obj _ => cases e
  | glob _ => cases e
  | none => cases e; exact wpAny_pure ⟨ρ1, p1, r1, .next⟩
  | bool _ => cases e; exact wpAny_pure ⟨ρ1, p1, r1, .next⟩
  | int _ _ => cases e; exact wpAny_pure ⟨ρ1, p1, r1, .next⟩
  | str _ _ _ => cases e; exact wpAny_pure ⟨ρ1, p1, r1, .next⟩
  | byt _ _ => cases e; exact wpAny_pure ⟨ρ1, p1, r1, .next⟩
end
end Mine
namespace Mine
abbrev Hd.cons (q : Addr × Obj) (hid : Hd) : Hd := ⟨q :: hid.h, hid.z⟩
section
variable {cx : Cx} {ρ : Map} {hid : Hd} {st : St} {s : Shared}
theorem Fr.extBut {h₀ h h' : Heap} {L d : Addr} {m : Str → Option Value} (F : Fr h₀ L h m) (hs : ∀ b o, b ≠ d → h.get? b = some o → h'.get? b = some o) (hd : d ≠ L) (hn : h₀.get? d = none) : Fr h₀ L h' m :=
  ⟨F.ns.extBut hs (Ne.symm hd), fun b o e => hs b o (fun q => by rw [q, hn] at e; cases e) (F.keep b o e), F.above⟩
/-- a hidden object is forgotten -/
theorem Rel.less {q : Addr × Obj} (x : Rel cx ρ (hid.cons q) st s) : Rel cx ρ hid st s := by
  obtain ⟨fz, led, m, mloc, x⟩ := x
  refine ⟨fz, led, m, mloc, x.F, x.N, ?_, x.gens, x.os, x.tk⟩
  have B := x.B
  refine ⟨B.nd, B.cm, ?_, B.len, B.own, B.obj, B.sep, fun r hr => B.hin r (.tail _ hr), fun r hr => B.hsep r (.tail _ hr), B.cel, fun y c hc => ⟨fun r hr => (B.csep y c hc).1 r (.tail _ hr), (B.csep y c hc).2⟩, B.fin, B.fz0, fun r hr => B.hfz r (.tail _ hr), B.fsep, B.fcel, B.loc⟩
  rcases B.ln with h | ⟨g1, o, es, ep, g2, g3, g4, g5, g6, g7, g8, g9⟩
  · exact .inl h
  · exact .inr ⟨g1, o, es, ep, g2, g3, g4, g5, g6, fun r hr => g7 r (.tail _ hr), g8, g9⟩
/-- a new hidden object -/
theorem Rel.hide (x : Rel cx ρ hid st s) {ob : Obj} {tk : Nat} (hf : ob.isFreed = false) (htk : 0 < tk := by first | assumption | exact Nat.succ_pos _ | exact Rel.pos (by assumption) | exact RelD.tk (by assumption)) : Rel cx ρ (hid.cons (s.heap.objs.size, ob)) st { s with heap := s.heap.push ob, toks := tk } ∧ ∀ q ∈ hid.h, q.1 ≠ s.heap.objs.size := by
  obtain ⟨fz, led, m, mloc, x⟩ := x
  have hfr := news_fresh x.N
  have B := x.B.more (ob := ob) hfr
  refine ⟨⟨fz, _, m, mloc, x.F.push ob, x.N.push x.F ob hf, ?_, x.gens, x.os, htk⟩, fun q hq => hfr q (x.B.hin q hq)⟩
  have own : ∀ p ∈ ρ, s.heap.objs.size ≠ p.1 ∧ s.heap.objs.size ≠ p.2 := fun p hp => by
    obtain ⟨q, hq, e⟩ := List.mem_map.mp (x.B.own p hp).1
    obtain ⟨q', hq', e'⟩ := List.mem_map.mp (x.B.own p hp).2
    exact ⟨fun z => hfr q hq (e.trans z.symm), fun z => hfr q' hq' (e'.trans z.symm)⟩
  refine ⟨B.nd, B.cm, ?_, B.len, B.own, B.obj, B.sep, fun r hr => ?_, fun r hr => ?_, B.cel, fun y c hc => ⟨fun r hr => ?_, (B.csep y c hc).2⟩, B.fin, B.fz0, fun r hr => ?_, B.fsep, B.fcel, B.loc⟩
  · rcases B.ln with h | ⟨g1, o, es, ep, g2, g3, g4, g5, g6, g7, g8, g9⟩
    · exact .inl h
    · refine .inr ⟨g1, o, es, ep, g2, g3, g4, g5, g6, fun r hr => ?_, g8, g9⟩
      rcases List.mem_cons.mp hr with rfl | hr
      · rcases x.B.ln with h | ⟨_, o', _, _, k2, _⟩
        · exact absurd h.1 g1
        · exact Ne.symm (hfr _ k2)
      · exact g7 r hr
  · rcases List.mem_cons.mp hr with rfl | hr
    · exact .head _
    · exact B.hin r hr
  · rcases List.mem_cons.mp hr with rfl | hr
    · exact own
    · exact B.hsep r hr
  · rcases List.mem_cons.mp hr with rfl | hr
    · obtain ⟨o, v, k1, _⟩ := x.B.cel y c hc
      exact Ne.symm (hfr _ k1)
    · exact (B.csep y c hc).1 r hr
  · rcases List.mem_cons.mp hr with rfl | hr
    · exact fun r' hr' => hfr r' (x.B.fin r' hr')
    · exact B.hfz r hr
/-- a hidden object turns -/
theorem Rel.turn {I : Addr} {o o' : Obj} {h' : Heap} {tk : Nat} (x : Rel cx ρ (hid.cons (I, o)) st s) (hI : ∀ q ∈ hid.h, q.1 ≠ I) (hk : ∀ b ob, b ≠ I → s.heap.get? b = some ob → h'.get? b = some ob) (ho : h'.get? I = some o') (htk : 0 < tk := by first | assumption | exact Nat.succ_pos _ | exact Rel.pos (by assumption) | exact RelD.tk (by assumption)) :
    Rel cx ρ (hid.cons (I, o')) st { s with heap := h', toks := tk } := by
  obtain ⟨fz, led, m, mloc, x⟩ := x
  have B := x.B
  have hm : (I, o) ∈ led := B.hin _ (.head _)
  have hg := x.N _ hm
  have own : ∀ p ∈ ρ, I ≠ p.1 ∧ I ≠ p.2 := B.hsep _ (.head _)
  have N' : News cx.h₀ cx.L h' (updL I o' led) := fun q hq => by
    obtain ⟨p, hp, e⟩ := List.mem_map.mp hq
    by_cases hd : p.1 = I
    · rw [if_pos hd] at e; subst e; exact ⟨ho, hg.2.1, hg.2.2⟩
    · rw [if_neg hd] at e; subst e; have := x.N _ hp; exact ⟨hk _ _ hd this.1, this.2⟩
  refine ⟨fz, updL I o' led, m, mloc, Fr.extBut x.F hk hg.2.1 hg.2.2, N', ?_, x.gens, x.os, htk⟩
  have cne : ∀ y c, cx.env.cells.lookup y = some c → c ≠ I := fun y c hc => Ne.symm ((B.csep y c hc).1 _ (.head _))
  refine ⟨by rw [updL_fst]; exact B.nd, B.cm, ?_, B.len, fun p hp => by rw [updL_fst]; exact B.own p hp, fun i ob p h1 h2 => ?_, B.sep, fun r hr => ?_, fun r hr => ?_, fun y c hc => ?_, fun y c hc => ⟨fun r hr => ?_, (B.csep y c hc).2⟩, fun r hr => ?_, B.fz0, fun r hr => ?_, B.fsep, B.fcel, fun n v hv => ?_⟩
  · rcases B.ln with h | ⟨g1, ob, es, ep, g2, g3, g4, g5, g6, g7, g8, g9⟩
    · exact .inl h
    · refine .inr ⟨g1, ob, es, ep, mem_updL_ne g2 fun e => g7 _ (.head _) e.symm, g3, g4, g5, g6, fun r hr => ?_, g8, g9⟩
      rcases List.mem_cons.mp hr with rfl | hr
      · exact g7 (I, o) (.head _)
      · exact g7 r (.tail _ hr)
  · refine (B.obj i ob p h1 h2).mono (pre_refl _) (fun _ h => h) fun b ob' hb hbp => mem_updL_ne hb fun e => ?_
    have := own p (mem_of_get h2)
    rcases hbp with rfl | rfl
    · exact this.1 e.symm
    · exact this.2 e.symm
  · rcases List.mem_cons.mp hr with rfl | hr
    · exact mem_updL_self hm
    · exact mem_updL_ne (B.hin r (.tail _ hr)) (hI r hr)
  · rcases List.mem_cons.mp hr with rfl | hr
    · exact own
    · exact B.hsep r (.tail _ hr)
  · obtain ⟨ob, v, h1, h2⟩ := B.cel y c hc
    exact ⟨ob, v, mem_updL_ne h1 (cne y c hc), h2⟩
  · rcases List.mem_cons.mp hr with rfl | hr
    · exact Ne.symm (cne y c hc)
    · exact (B.csep y c hc).1 r (.tail _ hr)
  · exact mem_updL_ne (B.fin r hr) (B.hfz (I, o) (.head _) r hr)
  · rcases List.mem_cons.mp hr with rfl | hr
    · exact B.hfz (I, o) (.head _)
    · exact B.hfz r (.tail _ hr)
  · obtain ⟨W, h1, h2⟩ := B.loc n v hv
    exact ⟨W, h1, h2.mono fun c ob hc hb => mem_updL_ne hb (cne _ c hc)⟩
theorem Bear.drop {fz led : Led} {m mloc : Str → Option Value} {I : Addr} {o : Obj} (B : Bear cx ρ (hid.cons (I, o)) fz led m mloc st) (hI : ∀ q ∈ hid.h, q.1 ≠ I) : Bear cx ρ hid fz (led.filter fun q => decide (q.1 ≠ I)) m mloc st := by
  have own : ∀ p ∈ ρ, I ≠ p.1 ∧ I ≠ p.2 := B.hsep _ (.head _)
  have cne : ∀ y c, cx.env.cells.lookup y = some c → c ≠ I := fun y c hc => Ne.symm ((B.csep y c hc).1 _ (.head _))
  have mf : ∀ {q : Addr × Obj}, q ∈ led → q.1 ≠ I → q ∈ led.filter (fun q => decide (q.1 ≠ I)) := fun hq hne => List.mem_filter.mpr ⟨hq, decide_eq_true hne⟩
  have mfa : ∀ {b : Addr}, b ∈ led.map (·.1) → b ≠ I → b ∈ (led.filter (fun q => decide (q.1 ≠ I))).map (·.1) := fun {b} hb hne => by
    obtain ⟨q, hq, rfl⟩ := List.mem_map.mp hb
    exact List.mem_map_of_mem (mf hq hne)
  refine ⟨B.nd.sublist (List.filter_sublist.map _), B.cm, ?_, B.len, fun p hp => ⟨mfa (B.own p hp).1 (Ne.symm (own p hp).1), mfa (B.own p hp).2 (Ne.symm (own p hp).2)⟩, fun i ob p h1 h2 => ?_, B.sep, fun r hr => mf (B.hin r (.tail _ hr)) (hI r hr), fun r hr => B.hsep r (.tail _ hr), fun y c hc => ?_, fun y c hc => ⟨fun r hr => (B.csep y c hc).1 r (.tail _ hr), (B.csep y c hc).2⟩, fun r hr => mf (B.fin r hr) (B.hfz (I, o) (.head _) r hr), B.fz0, fun r hr => B.hfz r (.tail _ hr), B.fsep, B.fcel, fun n v hv => ?_⟩
  · rcases B.ln with h | ⟨g1, ob, es, ep, g2, g3, g4, g5, g6, g7, g8, g9⟩
    · exact .inl h
    · exact .inr ⟨g1, ob, es, ep, mf g2 fun e => g7 _ (.head _) e.symm, g3, g4, g5, g6, fun r hr => g7 r (.tail _ hr), g8, g9⟩
  · refine (B.obj i ob p h1 h2).mono (pre_refl _) (fun _ h => h) fun b ob' hb hbp => mf hb ?_
    have := own p (mem_of_get h2)
    rcases hbp with rfl | rfl
    · exact Ne.symm this.1
    · exact Ne.symm this.2
  · obtain ⟨ob, v, h1, h2⟩ := B.cel y c hc
    exact ⟨ob, v, mf h1 (cne y c hc), h2⟩
  · obtain ⟨W, h1, h2⟩ := B.loc n v hv
    exact ⟨W, h1, h2.mono fun c ob hc hb => mf hb (cne _ c hc)⟩
/-- a hidden object is dropped, whatever becomes of it -/
theorem Rel.dropI {I : Addr} {o : Obj} {h' : Heap} {tk : Nat} (x : Rel cx ρ (hid.cons (I, o)) st s) (hI : ∀ q ∈ hid.h, q.1 ≠ I) (hk : ∀ b ob, b ≠ I → s.heap.get? b = some ob → h'.get? b = some ob) (htk : 0 < tk := by first | assumption | exact Nat.succ_pos _ | exact Rel.pos (by assumption) | exact RelD.tk (by assumption)) :
    Rel cx ρ hid st { s with heap := h', toks := tk } := by
  obtain ⟨fz, led, m, mloc, x⟩ := x
  have hg := x.N _ (x.B.hin _ (.head _))
  refine ⟨fz, led.filter fun q => decide (q.1 ≠ I), m, mloc, Fr.extBut x.F hk hg.2.1 hg.2.2, fun q hq => ?_, x.B.drop hI, x.gens, x.os, htk⟩
  obtain ⟨h1, h2⟩ := List.mem_filter.mp hq
  have := x.N q h1
  exact ⟨hk _ _ (of_decide_eq_true h2) this.1, this.2⟩
/-- a hidden list enters the store -/
theorem Rel.enterH {D : Addr} {Ys : List Value} {ys : List V} {k : Nat} (x : Rel cx ρ (hid.cons (D, listObj Ys k)) st s) (hD : ∀ q ∈ hid.h, q.1 ≠ D) (hv : VRs ρ ys Ys) :
    Rel cx (ρ ++ [(D, D)]) hid { st with sto := st.sto ++ [.list ys] } s ∧ VR (ρ ++ [(D, D)]) (.obj st.sto.length) (.ref D) := by
  obtain ⟨fz, led, m, mloc, x'⟩ := id x
  have B := x'.B
  have hm := B.hin _ (.head _)
  have hma : D ∈ led.map (·.1) := List.mem_map_of_mem hm
  obtain ⟨fz1, led1, m1, mloc1, y⟩ := x.less
  refine ⟨?_, ?_⟩
  · have B0 : Bear cx ρ hid fz led m mloc st := by
      refine ⟨B.nd, B.cm, ?_, B.len, B.own, B.obj, B.sep, fun r hr => B.hin r (.tail _ hr), fun r hr => B.hsep r (.tail _ hr), B.cel, fun y c hc => ⟨fun r hr => (B.csep y c hc).1 r (.tail _ hr), (B.csep y c hc).2⟩, B.fin, B.fz0, fun r hr => B.hfz r (.tail _ hr), B.fsep, B.fcel, B.loc⟩
      rcases B.ln with h | ⟨g1, o, es, ep, g2, g3, g4, g5, g6, g7, g8, g9⟩
      · exact .inl h
      · exact .inr ⟨g1, o, es, ep, g2, g3, g4, g5, g6, fun r hr => g7 r (.tail _ hr), g8, g9⟩
    have own := B.hsep _ (.head _)
    refine ⟨fz, led, m, mloc, x'.F, x'.N, B0.enter (p := (D, D)) hma hma (fun q hq => ⟨(own q hq).1, (own q hq).2, (own q hq).1, (own q hq).2⟩) (fun q hq => ⟨hD q hq, hD q hq⟩) (fun q hq => ⟨B.hfz _ (.head _) q hq, B.hfz _ (.head _) q hq⟩) (fun y c hc => ?_) (fun hl => ?_) ⟨Ys, k, hv.mono (List.prefix_append _ _), hm⟩, x'.gens, x'.os, x'.tk⟩
    · have := (B.csep y c hc).1 _ (.head _)
      exact ⟨this, this⟩
    · rcases B.ln with h | ⟨g1, o, es, ep, g2, g3, g4, g5, g6, g7, g8, g9⟩
      · exact absurd h.1 hl
      · have := g7 _ (.head _)
        exact ⟨this, this⟩
  · have := VR.obj (alloc_get ρ (D, D))
    rw [x'.B.len] at this
    exact this
end
end Mine
namespace Mine
/-- where a loop's items come from: an object that must stand as it is, or nothing -/
abbrev Src := Option (Nat × O)
open Classical in
noncomputable def chk (src : Src) : PM Unit := fun st => match src with
  | none => .ok () st
  | some p => if st.sto[p.1]? = some p.2 then .ok () st else .fail
theorem chk_ok {src : Src} {st st' : St} (h : chk src st = .ok () st') : st' = st ∧ ∀ p, src = some p → st.sto[p.1]? = some p.2 := by
  unfold chk at h
  split at h
  · cases h; exact ⟨rfl, fun p e => by cases e⟩
  · rename_i p
    split at h
    · rename_i e; cases h; exact ⟨rfl, fun q hq => by cases hq; exact e⟩
    · cases h
theorem chk_some {j : Nat} {o : O} {st : St} (h : st.sto[j]? = some o) : chk (some (j, o)) st = .ok () st := by
  unfold chk
  exact if_pos h
/-- the ints of a range -/
def rangeInts (a b c : Int) : List Int := (List.range (if a < b then ((b - a - 1) / c + 1).toNat else 0)).map fun i : Nat => a + (i : Int) * c
def iterOf : V → PM (Src × List V)
  | .obj i => fun st => match st.sto[i]? with
    | some (.list xs) => .ok (some (i, .list xs), xs) st
    | some (.tuple xs) => .ok (some (i, .tuple xs), xs) st
    | some (.range a b c) => if -1000000000 ≤ a ∧ a ≤ 1000000000 ∧ -1000000000 ≤ b ∧ b ≤ 1000000000 ∧ 0 < c ∧ c ≤ 1000000000 then .ok (none, (rangeInts a b c).map V.int) st else .fail
    | _ => .fail
  | .str l => fun st => .ok (none, l.map fun c => .str [c]) st
  | _ => PM.fail
noncomputable def loopF (src : Src) (body : V → PM Fl) : List V → PM Fl
  | [] => PM.bind (chk src) fun _ => PM.pure .next
  | x :: r => PM.bind (chk src) fun _ => PM.bind (body x) fun f => match f with
    | .next => loopF src body r
    | .cont => loopF src body r
    | .brk => PM.pure .next
    | .ret v => PM.pure (.ret v)
structure Iter (cx : Cx) (ρ₀ : Map) (src : Src) (xs : List V) (I : Addr) (At : Nat → Heap → Prop) : Prop where
  frame : ∀ i h h', At i h → (∀ o, h.get? I = some o → h'.get? I = some o) → At i h'
  there : ∀ i h, At i h → ∃ o, h.get? I = some o
  next : ∀ i x ρ hid st s, xs[i]? = some x → At i s.heap → ρ₀ <+: ρ → Rel cx ρ hid st s → (∀ p, src = some p → st.sto[p.1]? = some p.2) → ∀ (A : Around) (Q : Option Value → Shared → Prop) (E : Value → Shared → Prop),
    (∀ W h' tk, VR ρ x W → At (i + 1) h' → (∀ b o, b ≠ I → s.heap.get? b = some o → h'.get? b = some o) → Q (some W) { s with heap := h', toks := tk }) → wpAny cx.M A (pyNext (.ref I)) Q E s
  done : ∀ ρ hid st s, At xs.length s.heap → ρ₀ <+: ρ → Rel cx ρ hid st s → (∀ p, src = some p → st.sto[p.1]? = some p.2) → ∀ (A : Around) (Q : Option Value → Shared → Prop) (E : Value → Shared → Prop), A.handled = none →
    (∀ h' tk, (∀ b o, b ≠ I → s.heap.get? b = some o → h'.get? b = some o) → Q none { s with heap := h', toks := tk }) → wpAny cx.M A (pyNext (.ref I)) Q E s
  self : ∀ i s, At i s.heap → ∀ (A : Around) (Q : Value → Shared → Prop) (E : Value → Shared → Prop), Q (.ref I) s → wpAny cx.M A (pyIter (.ref I)) Q E s
  go : ∀ i s, At i s.heap → ∀ (A : Around) (target : Expr) (W : Value) (Q : Unit → Shared → Prop) (E : Value → Shared → Prop), Q () s → wpAny cx.M A (letOwnedTupleGo target (.ref I) W) Q E s
theorem go_plain {M : Model} {A : Around} {s : Shared} {I : Addr} {o : Obj} {n : String} (ho : s.heap.get? I = some o) (hc : o.cls = .type n)
    (hn : ["enumerate", "zip", "dict_itemiterator", "dict_reverseitemiterator", "odict_iterator", "itertools.zip_longest", "itertools.pairwise"].contains n = false) (target : Expr) (W : Value) (Q : Unit → Shared → Prop) (E : Value → Shared → Prop) (hq : Q () s) :
    wpAny M A (letOwnedTupleGo target (.ref I) W) Q E s := by
  unfold letOwnedTupleGo
  have key : ∀ vs : Data, wpAny M A (match o.cls, vs with
      | .type n, .fields vs => (if (["enumerate", "zip", "dict_itemiterator", "dict_reverseitemiterator", "odict_iterator", "itertools.zip_longest", "itertools.pairwise"].contains n && vs[0]? == some W) = true then (do rule "for.unpacks-the-owned-tuple"; updateField I 0 .none) else pure ())
      | _, _ => pure ()) Q E s := fun vs => by
    rw [hc]
    cases vs <;> first | exact wpAny_pure hq | (dsimp only; rw [hn]; exact wpAny_pure hq)
  split <;> first
    | exact wpAny_pure hq
    | (cases W <;> first
        | exact wpAny_pure hq
        | (refine wpAny_bind (wpAny_load ho ?_)
           rw [hc]
           split <;> first
             | exact wpAny_pure hq
             | (rename_i h1 h2; cases h1; rw [hn, Bool.false_and]; exact wpAny_pure hq)))
section
variable {cx : Cx}
theorem iter_list {j : Nat} {xs : List V} {I : Addr} {ρ₀ : Map} {p : Addr × Addr} (hp₀ : ρ₀[j]? = some p) :
    Iter cx ρ₀ (some (j, .list xs)) xs I (fun i h => h.IsListIter I p.1 i) where
  frame := fun i h h' x k => x.at fun o e => k o e
  there := fun i h ⟨o, ho, _⟩ => ⟨o, ho⟩
  next := by
    intro i x ρ hid st s hx hit hpre r hs A Q E k
    have hj := hs _ rfl
    have hp := get_mono hpre hp₀
    obtain ⟨fz, led, m, mloc, r⟩ := r
    obtain ⟨Xs, n, g1, g2⟩ := r.list_at hj hp
    obtain ⟨W, w1, w2⟩ := vrs_get g1 hx
    exact wpAny_pyNext_list_item hit ⟨_, (r.N _ g2).1, rfl, _, rfl⟩ (by simpa using w1) fun h' hit' hs' => k W h' s.toks w2 hit' fun b o hb e => (hs'.2 b hb).trans e
  done := by
    intro ρ hid st s hit hpre r hs A Q E hh k
    have hj := hs _ rfl
    have hp := get_mono hpre hp₀
    obtain ⟨fz, led, m, mloc, r⟩ := r
    obtain ⟨Xs, n, g1, g2⟩ := r.list_at hj hp
    exact wpAny_pyNext_list_end hh hit ⟨_, (r.N _ g2).1, rfl, _, rfl⟩ (by rw [List.getElem?_toArray]; exact List.getElem?_eq_none (by rw [g1.length]; exact Nat.le_refl _)) fun h' hs' => k h' s.toks fun b o hb e => hs' b o hb e
  self := fun i s hit A Q E hq => wpAny_pyIter_listiter hit hq
  go := fun i s hit A target W Q E hq => by
    obtain ⟨o, ho, hc, hd⟩ := hit
    exact go_plain ho hc (by decide) target W Q E hq
theorem iter_tuple {j : Nat} {xs : List V} {I : Addr} {ρ₀ : Map} {p : Addr × Addr} (hp₀ : ρ₀[j]? = some p) :
    Iter cx ρ₀ (some (j, .tuple xs)) xs I (fun i h => h.IsTupleIter I p.1 i) where
  frame := fun i h h' ⟨o, ho, hr⟩ k => ⟨o, k o ho, hr⟩
  there := fun i h ⟨o, ho, _⟩ => ⟨o, ho⟩
  next := by
    intro i x ρ hid st s hx hit hpre r hs A Q E k
    have hj := hs _ rfl
    have hp := get_mono hpre hp₀
    obtain ⟨fz, led, m, mloc, r⟩ := r
    obtain ⟨Xs, n, g1, g2⟩ := r.tuple_at hj hp
    obtain ⟨W, w1, w2⟩ := vrs_get g1 hx
    exact wpAny_pyNext_tuple_item hit ⟨_, (r.N _ g2).1, rfl, _, rfl⟩ (by simpa using w1) fun h' hit' hs' => k W h' s.toks w2 hit' fun b o hb e => (hs'.2 b hb).trans e
  done := by
    intro ρ hid st s hit hpre r hs A Q E hh k
    have hj := hs _ rfl
    have hp := get_mono hpre hp₀
    obtain ⟨fz, led, m, mloc, r⟩ := r
    obtain ⟨Xs, n, g1, g2⟩ := r.tuple_at hj hp
    exact wpAny_pyNext_tuple_end hh hit ⟨_, (r.N _ g2).1, rfl, _, rfl⟩ (by rw [List.getElem?_toArray]; exact List.getElem?_eq_none (by rw [g1.length]; exact Nat.le_refl _)) fun h' hs' => k h' s.toks fun b o hb e => hs' b o hb e
  self := fun i s hit A Q E hq => wpAny_pyIter_tupleiter hit hq
  go := fun i s hit A target W Q E hq => by
    obtain ⟨o, ho, hc, hd⟩ := hit
    exact go_plain ho hc (by decide) target W Q E hq
theorem iter_range {ρ₀ : Map} {a c : Int} {n : Nat} {I : Addr} (xs : List V) (hxs : xs = ((List.range n).map fun i : Nat => V.int (a + (i : Int) * c))) :
    Iter cx ρ₀ none xs I (fun i h => IsRangeIter h I (a + (i : Nat) * c) ((n : Int) - (i : Nat)) c) where
  frame := fun i h h' x k => k _ x
  there := fun i h x => ⟨_, x⟩
  next := by
    intro i x ρ hid st s hx hit hpre r hs A Q E k
    subst hxs
    have hi : i < n := by
      rcases Nat.lt_or_ge i n with h | h
      · exact h
      · rw [List.getElem?_eq_none (by simpa using h)] at hx; cases hx
    have hxe : x = .int (a + (i : Int) * c) := by
      rw [List.getElem?_map, List.getElem?_range hi] at hx
      exact (Option.some.inj hx).symm
    subst hxe
    refine wpAny_pyNext_range_item hit (by omega) fun h' hit' hs' => k _ h' _ (.int _ _) ?_ fun b o hb e => (hs'.2 b hb).trans e
    have e1 : a + (i : Int) * c + c = a + ((i + 1 : Nat) : Int) * c := by push_cast; rw [Int.add_mul]; omega
    have e2 : (n : Int) - (i : Nat) - 1 = (n : Int) - ((i + 1 : Nat) : Int) := by push_cast; omega
    rw [e1, e2] at hit'
    exact hit'
  done := by
    intro ρ hid st s hit hpre r hs A Q E hh k
    subst hxs
    refine wpAny_pyNext_range_end hh hit (by simp) fun h' hs' => k h' s.toks fun b o hb e => hs' b o hb e
  self := fun i s hit A Q E hq => wpAny_pyIter_rangeiter hit hq
  go := fun i s hit A target W Q E hq => go_plain hit rfl (by decide) target W Q E hq
theorem iter_str {ρ₀ : Map} {l : List Nat} (hl : okS l) {I : Addr} {cls : String} {t : Tok} (hcl : cls = "str_ascii_iterator" ∨ cls = "str_iterator") :
    Iter cx ρ₀ none (l.map fun c => V.str [c]) I (fun i h => h.IsStrIter I cls ⟨l.toArray⟩ t i) where
  frame := fun i h h' ⟨o, ho, hr⟩ k => ⟨o, k o ho, hr⟩
  there := fun i h ⟨o, ho, _⟩ => ⟨o, ho⟩
  next := by
    intro i x ρ hid st s hx hit hpre r hs A Q E k
    rw [List.getElem?_map] at hx
    obtain ⟨c, hc, rfl⟩ := Option.map_eq_some_iff.mp hx
    have hoc : okS [c] := fun d hd => by rw [List.mem_singleton.mp hd]; exact hl c (List.mem_of_getElem? hc)
    have hc' : (⟨l.toArray⟩ : Str).cps[i]? = some c := by simpa using hc
    rcases hcl with rfl | rfl
    · exact wpAny_pyNext_ascii_item hit hc' fun h' hit' hs' => k _ h' _ (.str [c] _ hoc) hit' fun b o hb e => (hs'.2 b hb).trans e
    · exact wpAny_pyNext_wide_item hit hc' fun h' hit' hs' => k _ h' _ (.str [c] _ hoc) hit' fun b o hb e => (hs'.2 b hb).trans e
  done := by
    intro ρ hid st s hit hpre r hs A Q E hh k
    rw [List.length_map] at hit
    have hn : (⟨l.toArray⟩ : Str).cps[l.length]? = none := by simp
    rcases hcl with rfl | rfl
    · exact wpAny_pyNext_ascii_end hh hit hn fun h' hs' => k h' _ fun b o hb e => hs' b o hb e
    · exact wpAny_pyNext_wide_end hh hit hn fun h' hs' => k h' _ fun b o hb e => hs' b o hb e
  self := by
    intro i s hit A Q E hq
    rcases hcl with rfl | rfl
    · exact wpAny_pyIter_striter_ascii hit hq
    · exact wpAny_pyIter_striter_wide hit hq
  go := fun i s hit A target W Q E hq => by
    obtain ⟨o, ho, hc, hd⟩ := hit
    rcases hcl with rfl | rfl
    · exact go_plain ho hc (by decide) target W Q E hq
    · exact go_plain ho hc (by decide) target W Q E hq
theorem range_small {a b c : Int} (h : -1000000000 ≤ a ∧ a ≤ 1000000000 ∧ -1000000000 ≤ b ∧ b ≤ 1000000000 ∧ 0 < c ∧ c ≤ 1000000000) :
    Builtin.Range.small a b c = true ∧ Builtin.Range.rangeSize a b c = (((if a < b then ((b - a - 1) / c + 1).toNat else 0 : Nat)) : Int) := by
  obtain ⟨h1, h2, h3, h4, h5, h6⟩ := h
  have hdiv : a < b → 0 ≤ (b - a - 1) / c ∧ (b - a - 1) / c ≤ b - a - 1 := fun hab => ⟨Int.ediv_nonneg (by omega) (by omega), Int.ediv_le_self _ (by omega)⟩
  have hs : Builtin.Range.rangeSize a b c = (((if a < b then ((b - a - 1) / c + 1).toNat else 0 : Nat)) : Int) := by
    unfold Builtin.Range.rangeSize
    rw [if_pos h5]
    split
    · rename_i hab
      have := hdiv hab
      rw [Int.toNat_of_nonneg (by omega)]
    · rfl
  refine ⟨?_, hs⟩
  unfold Builtin.Range.small
  have hsz : 0 ≤ Builtin.Range.rangeSize a b c ∧ Builtin.Range.rangeSize a b c ≤ 2000000001 := by
    unfold Builtin.Range.rangeSize
    rw [if_pos h5]
    split
    · rename_i hab
      have := hdiv hab
      omega
    · omega
  have f : ∀ i : Int, -9000000000000000000 ≤ i → i ≤ 9000000000000000000 → Builtin.Range.rangeFitsLong i = true := fun i hi hi' => by
    unfold Builtin.Range.rangeFitsLong
    simp only [Bool.and_eq_true, decide_eq_true_eq]
    omega
  rw [f a (by omega) (by omega), f b (by omega) (by omega), f c (by omega) (by omega), f _ (by omega) (by omega), if_pos h5, f (b + (c - 1)) (by omega) (by omega)]
  simp
theorem iter_start {ρ : Map} {hid : Hd} {st st' : St} {s : Shared} (x : Rel cx ρ hid st s) {v : V} {W : Value} (hv : VR ρ v W) {r : Src × List V} (h : iterOf v st = .ok r st') {Ar : Around} {Q : Value → Shared → Prop} {E : Value → Shared → Prop}
    (k : ∀ I o At s', (∀ cx' : Cx, Iter cx' ρ r.1 r.2 I At) → At 0 s'.heap → Rel cx ρ (hid.cons (I, o)) st' s' → (∀ q ∈ hid.h, q.1 ≠ I) → Q (.ref I) s') : wpAny cx.M Ar (pyIter W) Q E s := by
  unfold iterOf at h
  split at h
  · rename_i i
    obtain ⟨p, hp, rfl⟩ := vr_obj hv
    obtain ⟨fz, led, m, mloc, x'⟩ := id x
    split at h
    · rename_i xs hi
      cases h
      obtain ⟨Xs, n, g1, g2⟩ := x'.list_at hi hp
      refine wpAny_pyIter_list ⟨_, (x'.N _ g2).1, rfl, _, rfl⟩ ?_
      obtain ⟨a, b⟩ := x.hide (ob := { cls := .type "list_iterator", data := .fields #[.ref p.1, .int 0 0] }) (tk := s.toks) rfl
      exact k _ _ _ _ (fun _ => iter_list hp) ⟨_, Heap.get?_push_size _ rfl, rfl, rfl⟩ a b
    · rename_i xs hi
      cases h
      obtain ⟨Xs, n, g1, g2⟩ := x'.tuple_at hi hp
      refine wpAny_pyIter_tuple ⟨_, (x'.N _ g2).1, rfl, _, rfl⟩ ?_
      obtain ⟨a, b⟩ := x.hide (ob := { cls := .type "tuple_iterator", data := .fields #[.ref p.1, .int 0 0] }) (tk := s.toks) rfl
      exact k _ _ _ _ (fun _ => iter_tuple hp) ⟨_, Heap.get?_push_size _ rfl, rfl, rfl⟩ a b
    · rename_i a b c hi
      split at h
      · rename_i hb
        cases h
        obtain ⟨A, B, S, w1, w2, w3, w4⟩ := x'.B.obj i _ p hi hp
        obtain ⟨t1, rfl⟩ := vr_int w1; obtain ⟨t2, rfl⟩ := vr_int w2; obtain ⟨t3, rfl⟩ := vr_int w3
        obtain ⟨hsm, hsz⟩ := range_small hb
        refine wpAny_pyIter_range (x'.N _ w4).1 hsm ?_
        obtain ⟨e1, e2⟩ := x.hide (ob := { cls := .type "range_iterator", data := .fields #[rawInt a, rawInt (Builtin.Range.rangeSize a b c), rawInt c] }) (tk := s.toks) rfl
        refine k _ _ _ _ (fun _ => iter_range (a := a) (c := c) (n := if a < b then ((b - a - 1) / c + 1).toNat else 0) _ ?_) ?_ e1 e2
        · unfold rangeInts; rw [List.map_map]; rfl
        · show Heap.get? _ _ = _
          rw [Heap.get?_push_size _ rfl, hsz]
          simp [rawInt]
      · cases h
    · cases h
  · have ho := vr_ok hv
    obtain ⟨t, rfl⟩ := vr_str hv
    cases h
    rename_i l
    cases ha : (⟨l.toArray⟩ : Str).cps.all (· < 128) with
    | false =>
      refine wpAny_pyIter_wide ha ?_
      obtain ⟨e1, e2⟩ := x.hide (ob := { cls := .type "str_iterator", data := .fields #[.str ⟨l.toArray⟩ t, .int 0 0] }) (tk := s.toks) rfl
      exact k _ _ _ _ (fun _ => iter_str ho (.inr rfl)) ⟨_, Heap.get?_push_size _ rfl, rfl, rfl⟩ e1 e2
    | true =>
      refine wpAny_pyIter_ascii ha ?_
      obtain ⟨e1, e2⟩ := x.hide (ob := { cls := .type "str_ascii_iterator", data := .fields #[.str ⟨l.toArray⟩ t, .int 0 0] }) (tk := s.toks) rfl
      exact k _ _ _ _ (fun _ => iter_str ho (.inl rfl)) ⟨_, Heap.get?_push_size _ rfl, rfl, rfl⟩ e1 e2
  · cases h
/-- targets -/
abbrev SimG (cx : Cx) (target : Expr) (g : V → PM Unit) : Prop := P1 cx (fun W => assign target cx.env W) g UR
theorem sim_target (ok : cx.Ok) {n : String} {pos : Pos} (hk : Asg cx n) : SimG cx (.Name (Str.ofString n) pos) (setL n) := by
  intro ρ hid st s x a A ha v st' h
  cases h
  exact wpAny_assign_Name (store_name ok x ha hk fun s' r => ⟨ρ, pre_refl ρ, r, trivial⟩)
theorem loop_turns (ok : cx.Ok) {target : Expr} {body : List Stmt} {g : V → PM Unit} {mb : PM Fl} (hg : SimG cx target g) (hb : SimSs cx body mb) {src : Src} {xs : List V} {I : Addr} {At : Nat → Heap → Prop} {ρ₀ : Map} {hid : Hd} (It : Iter cx ρ₀ src xs I At) (hI : ∀ q ∈ hid.h, q.1 ≠ I)
    {o : Obj} {st st' : St} {s : Shared} (x : Rel cx ρ₀ (hid.cons (I, o)) st s) (hat : At 0 s.heap) {fl : Fl} (h : loopF src (fun v => PM.bind (g v) fun _ => mb) xs st = .ok fl st') {R : Result → Shared → Prop}
    (hR : ∀ f s' ρ', ρ₀ <+: ρ' → Rel cx ρ' hid st' s' → FR ρ' fl f → R (.ok f) s') : codeAny cx.M cx.A (.forLoop target (.ref I) body [] cx.env) R s := by
  refine codeAny_forLoop_any (fun n s' => ∃ i ρ' o' st1, ρ₀ <+: ρ' ∧ Rel cx ρ' (hid.cons (I, o')) st1 s' ∧ At i s'.heap ∧ i ≤ xs.length ∧ n = xs.length + 1 - i ∧ loopF src (fun v => PM.bind (g v) fun _ => mb) (xs.drop i) st1 = .ok fl st') ?_ (xs.length + 1)
    ⟨0, ρ₀, o, st, pre_refl _, x, hat, Nat.zero_le _, rfl, h⟩
  rintro n s1 ⟨i, ρ1, o1, st1, p1, r1, a1, hi, rfl, e1⟩
  rcases Nat.lt_or_ge i xs.length with hlt | hge
  · have hx : xs[i]? = some xs[i] := List.getElem?_eq_getElem hlt
    have hd : xs.drop i = xs[i] :: xs.drop (i + 1) := List.drop_eq_getElem_cons hlt
    rw [hd] at e1
    unfold loopF at e1
    obtain ⟨_, st2, c1, e2⟩ := bind_ok e1
    obtain ⟨rfl, c2⟩ := chk_ok c1
    obtain ⟨f, st3, c3, e3⟩ := bind_ok e2
    obtain ⟨_, st4, c4, c5⟩ := bind_ok c3
    refine lf r1.pos (It.next i xs[i] ρ1 _ _ s1 hx a1 p1 r1 c2 cx.A _ _ fun W h' tk w1 w2 w3 htk => ?_)
    obtain ⟨o2, ho2⟩ := It.there _ _ w2
    have r2 := r1.turn (tk := tk) hI w3 ho2
    refine It.go (i + 1) _ w2 cx.A target W _ _ ?_
    refine wp_seq (hg ρ1 _ _ _ r2 _ W w1 () st4 c4) fun _ s3 ρ3 p3 r3 _ => ?_
    refine wp_seq (hb ρ3 _ _ _ r3 f st3 c5) fun fw s4 ρ4 p4 r4 hf => ?_
    have hat4 : At (i + 1) s4.heap := by
      refine It.frame (i + 1) h' s4.heap w2 fun ob hob => ?_
      have : ob = o2 := Option.some.inj (hob.symm.trans ho2)
      subst this
      obtain ⟨fz, led, m, mloc, r4'⟩ := id r4
      exact (r4'.N _ (r4'.B.hin _ (.head _))).1
    have pp : ρ₀ <+: ρ4 := pre_trans p1 (pre_trans p3 p4)
    cases hf with
    | next => exact ⟨xs.length + 1 - (i + 1), by omega, i + 1, ρ4, o2, st3, pp, r4, hat4, hlt, rfl, e3⟩
    | cont => exact ⟨xs.length + 1 - (i + 1), by omega, i + 1, ρ4, o2, st3, pp, r4, hat4, hlt, rfl, e3⟩
    | brk => cases e3; exact hR _ _ ρ4 pp r4.less .next
    | ret hv => cases e3; exact hR _ _ ρ4 pp r4.less (.ret hv)
  · have hil : i = xs.length := Nat.le_antisymm hi hge
    subst hil
    rw [List.drop_length] at e1
    unfold loopF at e1
    obtain ⟨_, st2, c1, e2⟩ := bind_ok e1
    obtain ⟨rfl, c2⟩ := chk_ok c1
    cases e2
    refine lf r1.pos (It.done ρ1 _ _ s1 a1 p1 r1 c2 cx.A _ _ ok.handled fun h' tk w3 htk => wpAny_execs_nil ?_)
    exact hR _ _ ρ1 p1 (r1.dropI hI w3) .next
theorem sim_For (ok : cx.Ok) {target iter : Expr} {body : List Stmt} {pos : Pos} {mi : PM V} {g : V → PM Unit} {mb : PM Fl} (hi : SimV cx (eval iter cx.env) mi) (hg : SimG cx target g) (hb : SimSs cx body mb)
    (hs : ∀ x, foldedSetIterable iter cx.env x = pure x) : SimS cx (.For target iter body [] pos) (PM.bind mi fun v => PM.bind (iterOf v) fun p => loopF p.1 (fun x => PM.bind (g x) fun _ => mb) p.2) := by
  intro ρ hid st s x v st' h
  obtain ⟨a, st1, e1, h1⟩ := bind_ok h
  obtain ⟨p, st2, e2, h2⟩ := bind_ok h1
  refine wpAny_For (wp_seq (hi ρ hid st s x a st1 e1) fun A s1 ρ1 p1 r1 v1 => iter_start r1 v1 e2 fun I o At s2 It hat r2 hI => ?_) hs
  exact loop_turns ok hg hb (It cx) hI r2 hat h2 fun f s' ρ' pp rr hf => ⟨ρ', pre_trans p1 pp, rr, hf⟩
end
end Mine
namespace Mine
/-- the cells that a comprehension sees -/
def clOf (scope : Scope) (env : Env) : List (Str × Addr) := (scope.names.filter (·.2 == .free)).reverse.filterMap fun x => (env.cells.lookup x.1).map fun c => (x.1, c)
theorem closureFor_eq {scope : Scope} {env : Env} (h : (scope.names.all fun y => y.2 != .free || (env.cells.lookup y.1).isSome) = true) : closureFor scope env = pure (clOf scope env) := by
  have key : ∀ (names : List (Str × NameKind)) (cs : List (Str × Addr)), (names.all fun y => y.2 != .free || (env.cells.lookup y.1).isSome) = true →
      (forIn names cs fun x (r : List (Str × Addr)) => (do
        if (x.2 == .free) = true then do
          let a ← cellOf env x.1
          pure (ForInStep.yield ((x.1, a) :: r))
        else pure (ForInStep.yield r) : Sem (ForInStep (List (Str × Addr))))) = pure (((names.filter (·.2 == .free)).reverse.filterMap fun x => (env.cells.lookup x.1).map fun c => (x.1, c)) ++ cs) := by
    intro names
    induction names with
    | nil => intro cs _; rfl
    | cons y r ih =>
      intro cs hy
      rw [List.all_cons, Bool.and_eq_true] at hy
      rw [List.forIn_cons]
      cases hk : (y.2 == NameKind.free) with
      | false =>
        simp only [Bool.false_eq_true, if_false]
        show (forIn r cs _ : Sem _) = _
        rw [ih cs hy.2, List.filter_cons, hk]
        simp
      | true =>
        have hsome : (env.cells.lookup y.1).isSome = true := by
          have := hy.1
          rw [bne, hk] at this
          simpa using this
        obtain ⟨c, hc⟩ := Option.isSome_iff_exists.mp hsome
        simp only [if_true]
        have hcell : cellOf env y.1 = pure c := by unfold cellOf; rw [hc]
        rw [hcell]
        show (forIn r ((y.1, c) :: cs) _ : Sem _) = _
        rw [ih _ hy.2, List.filter_cons, hk]
        simp [hc]
  have := key scope.names [] h
  rw [List.append_nil] at this
  unfold closureFor clOf
  show (forIn scope.names [] _ >>= fun r => pure r) = _
  rw [this]
  rfl
theorem clOf_mem {scope : Scope} {env : Env} {x : Str} {c : Addr} (h : (x, c) ∈ clOf scope env) : env.cells.lookup x = some c ∧ (x, NameKind.free) ∈ scope.names := by
  unfold clOf at h
  obtain ⟨y, hy, e⟩ := List.mem_filterMap.mp h
  obtain ⟨c', hc, e'⟩ := Option.map_eq_some_iff.mp e
  cases e'
  obtain ⟨h1, h2⟩ := List.mem_filter.mp (List.mem_reverse.mp hy)
  have : y.2 = .free := by simpa using h2
  exact ⟨hc, by rw [← this]; exact h1⟩
theorem lookup_mem {l : List (Str × Addr)} {x : Str} {c : Addr} (e : l.lookup x = some c) : (x, c) ∈ l := by
  induction l with
  | nil => cases e
  | cons a r ih =>
    rw [List.lookup_cons] at e
    cases q : x == a.1 with
    | true => rw [q] at e; cases e; rw [beq_iff_eq] at q; rw [q]; exact .head _
    | false => rw [q] at e; exact .tail _ (ih e)
theorem mem_lookup {l : List (Str × NameKind)} {x : Str} {k : NameKind} (e : l.lookup x = some k) : (x, k) ∈ l := by
  induction l with
  | nil => cases e
  | cons a r ih =>
    rw [List.lookup_cons] at e
    cases q : x == a.1 with
    | true => rw [q] at e; cases e; rw [beq_iff_eq] at q; rw [q]; exact .head _
    | false => rw [q] at e; exact .tail _ (ih e)
theorem clOf_lookup {scope : Scope} {env : Env} {x : Str} {c : Addr} (h : (clOf scope env).lookup x = some c) : env.cells.lookup x = some c := (clOf_mem (lookup_mem h)).1
theorem clOf_get {scope : Scope} {env : Env} {x : Str} {c : Addr} (hm : (x, NameKind.free) ∈ scope.names) (hc : env.cells.lookup x = some c) : (clOf scope env).lookup x = some c := by
  have hin : (x, c) ∈ clOf scope env := by
    unfold clOf
    exact List.mem_filterMap.mpr ⟨(x, .free), List.mem_reverse.mpr (List.mem_filter.mpr ⟨hm, rfl⟩), by rw [hc]; rfl⟩
  have all : ∀ y d, (y, d) ∈ clOf scope env → env.cells.lookup y = some d := fun y d h => (clOf_mem h).1
  generalize clOf scope env = l at hin all
  induction l with
  | nil => cases hin
  | cons a r ih =>
    rw [List.lookup_cons]
    cases q : x == a.1 with
    | true =>
      rw [beq_iff_eq] at q
      have := all a.1 a.2 (.head _)
      rw [← q, hc] at this
      exact this.symm
    | false =>
      rcases List.mem_cons.mp hin with e | e
      · rw [← e, beq_self_eq_true] at q; cases q
      · exact ih e fun y d h => all y d (.tail _ h)
theorem relabel_cell {scope : Scope} {env : Env} {x : Str} (hn : (scope.names.all fun y => y.2 != .cell) = true) (h : (relabel scope env).names.lookup x = some .cell) : env.kindOf x = some .cell := by
  have hm := mem_lookup h
  unfold relabel at hm
  obtain ⟨y, hy, e⟩ := List.mem_map.mp hm
  have hc := List.all_eq_true.mp hn y hy
  dsimp only at e
  split at e
  · rename_i hq
    rw [Bool.and_eq_true, Bool.and_eq_true] at hq
    cases e
    exact beq_iff_eq.mp hq.2
  · have e2 : y.2 = NameKind.cell := (Prod.mk.inj e).2
    rw [e2] at hc
    simp at hc
theorem relabel_own {scope : Scope} {env : Env} {x : Str} (hk : env.scope.kind = .function) (he : env.kindOf x = some .cell) : ∀ {names : List (Str × NameKind)}, names.lookup x = some .free →
    (names.map fun (n, k) => if (k == NameKind.free && env.scope.kind == .function && env.kindOf n == some .cell) then (n, NameKind.cell) else (n, k)).lookup x = some .cell
  | [], h => by cases h
  | (n, k) :: r, h => by
    rw [List.lookup_cons] at h
    rw [List.map_cons]
    dsimp only
    cases q : x == n with
    | true =>
      rw [q] at h
      cases h
      rw [beq_iff_eq] at q
      subst q
      rw [if_pos (by rw [hk, he]; rfl), List.lookup_cons, beq_self_eq_true]
    | false =>
      rw [q] at h
      have ih := relabel_own (scope := scope) hk he h
      split <;> (rw [List.lookup_cons, q]; exact ih)
theorem relabel_free {scope : Scope} {env : Env} {x : Str} : ∀ {names : List (Str × NameKind)}, names.lookup x = some .free →
    (names.map fun (n, k) => if (k == NameKind.free && env.scope.kind == .function && env.kindOf n == some .cell) then (n, NameKind.cell) else (n, k)).lookup x = some .cell ∨
    (names.map fun (n, k) => if (k == NameKind.free && env.scope.kind == .function && env.kindOf n == some .cell) then (n, NameKind.cell) else (n, k)).lookup x = some .free
  | [], h => by cases h
  | (n, k) :: r, h => by
    rw [List.lookup_cons] at h
    rw [List.map_cons]
    dsimp only
    cases q : x == n with
    | true =>
      rw [q] at h
      cases h
      split
      · left; rw [List.lookup_cons, q]
      · right; rw [List.lookup_cons, q]
    | false =>
      rw [q] at h
      have ih := relabel_free (scope := scope) (env := env) h
      split <;> (rw [List.lookup_cons, q]; exact ih)
structure CompOk (scope : Scope) (env : Env) (fr : List String) : Prop where
  kind : scope.kind = .function
  nocell : (scope.names.all fun y => y.2 != .cell) = true
  free : (scope.names.all fun y => y.2 != .free || (env.cells.lookup y.1).isSome) = true
  frf : (fr.all fun n => scope.names.lookup (Str.ofString n) == some .free) = true
  frk : (fr.all fun n => env.kindOf (Str.ofString n) != some .local) = true
  names : (scope.names.all fun x => x.2 != .local || scope.names.lookup x.1 == some .local) = true
  namesF : (scope.names.all fun x => x.2 != .free || (scope.names.lookup x.1 == some .free && fr.any fun n => Str.ofString n == x.1)) = true
abbrev Cx.comp (cx : Cx) (scope : Scope) (C : Addr) (fm : Str → Option Value) : Cx := { cx with env := compEnvC scope (clOf scope cx.env) C cx.env, fm := fm }
open Classical in
noncomputable def inScope {α : Type} (fr : List String) (m : PM α) : PM α := fun st => match m ⟨fun n => if n ∈ fr then st.loc n else none, st.sto⟩ with
  | .ok a st' => if (∀ n ∈ fr, st'.loc n = st.loc n) then .ok a ⟨st.loc, st'.sto⟩ else .fail
  | _ => .fail
noncomputable def compM (src : Src) (g : V → PM Unit) (conds : PM Bool) (elt : PM V) : List V → List V → PM (List V)
  | acc, [] => PM.bind (chk src) fun _ => PM.pure acc
  | acc, x :: r => PM.bind (chk src) fun _ => PM.bind (g x) fun _ => PM.bind conds fun b => match b with
    | true => PM.bind elt fun v => fun st => if acc.length ≤ 1000000 then compM src g conds elt (acc ++ [v]) r st else .fail
    | false => compM src g conds elt acc r
section
variable {cx : Cx}
theorem comp_ok (ok : cx.Ok) {scope : Scope} {fr : List String} (c : CompOk scope cx.env fr) (C : Addr) (fm : Str → Option Value) : (cx.comp scope C fm).Ok :=
  ⟨ok.bmain, ok.kin, ok.top, ok.below, ok.frames, ok.fframe, ok.fkind, c.kind, ok.globals, ok.builtins, ok.handled, ok.depth, ok.units, fun x y d h1 h2 => ok.cinj x y d (clOf_lookup h1) (clOf_lookup h2)⟩
theorem Rel.hsub {ρ : Map} {hid hid' : Hd} {st : St} {s : Shared} (x : Rel cx ρ hid st s) (h1 : ∀ q ∈ hid'.h, q ∈ hid.h) (h2 : ∀ q ∈ hid'.z, q ∈ hid.z) : Rel cx ρ hid' st s := by
  obtain ⟨fz, led, m, mloc, x⟩ := x
  have B := x.B
  refine ⟨fz, led, m, mloc, x.F, x.N, ⟨B.nd, B.cm, ?_, B.len, B.own, B.obj, B.sep, fun q hq => B.hin q (h1 q hq), fun q hq => B.hsep q (h1 q hq), B.cel, fun y c hc => ⟨fun q hq => (B.csep y c hc).1 q (h1 q hq), (B.csep y c hc).2⟩, B.fin, fun q hq => B.fz0 q (h2 q hq), fun q hq => B.hfz q (h1 q hq), B.fsep, B.fcel, B.loc⟩, x.gens, x.os, x.tk⟩
  rcases B.ln with h | ⟨g1, o, es, ep, g2, g3, g4, g5, g6, g7, g8, g9⟩
  · exact .inl h
  · exact .inr ⟨g1, o, es, ep, g2, g3, g4, g5, g6, fun q hq => g7 q (h1 q hq), g8, g9⟩
open Classical in
noncomputable def hidC (ρ : Map) (fz led : Led) (cs : List (Str × Addr)) : Hd := ⟨led.filter fun q => decide ((∀ p ∈ ρ, q.1 ≠ p.1 ∧ q.1 ≠ p.2) ∧ (∀ r ∈ fz, r.1 ≠ q.1) ∧ ∀ y ∈ cs, q.1 ≠ y.2), fz⟩
theorem mem_hidC {ρ : Map} {fz led : Led} {cs : List (Str × Addr)} {q : Addr × Obj} : q ∈ (hidC ρ fz led cs).h ↔ q ∈ led ∧ (∀ p ∈ ρ, q.1 ≠ p.1 ∧ q.1 ≠ p.2) ∧ (∀ r ∈ fz, r.1 ≠ q.1) ∧ ∀ y ∈ cs, q.1 ≠ y.2 := by
  unfold hidC
  simp only [List.mem_filter, decide_eq_true_eq]
theorem bear_comp_in {ρ : Map} {hid : Hd} {fz led : Led} {m mloc : Str → Option Value} {st : St} (B : Bear cx ρ hid fz led m mloc st) {scope : Scope} {fr : List String} (c : CompOk scope cx.env fr) {C : Addr} {oC : Obj} {es : Array DictEntry} {ep : Nat}
    (hC : ∀ q ∈ led, q.1 ≠ C) (hCL : C ≠ cx.L) (hd : oC.data = .dict es ep) (hs : StrKeys es) (hf : ∀ y, nsFind es y = none) :
    Bear (cx.comp scope C m) ρ (hidC ρ fz led (clOf scope cx.env)) fz ((C, oC) :: led) m (fun _ => none) ⟨fun n => if n ∈ fr then st.loc n else none, st.sto⟩ := by
  have own : ∀ p ∈ ρ, p.1 ≠ C ∧ p.2 ≠ C := fun p hp => by
    obtain ⟨q, hq, e⟩ := List.mem_map.mp (B.own p hp).1
    obtain ⟨q', hq', e'⟩ := List.mem_map.mp (B.own p hp).2
    exact ⟨e ▸ hC q hq, e' ▸ hC q' hq'⟩
  refine ⟨?_, fun _ => rfl, .inr ⟨hCL, oC, es, ep, .head _, hd, hs, hf, own, fun q hq => hC q (mem_hidC.mp hq).1, fun q hq => hC q (B.fin q hq), fun x hx => ?_⟩, B.len, fun p hp => ⟨.tail _ (B.own p hp).1, .tail _ (B.own p hp).2⟩, fun i o p h1 h2 => ?_, B.sep, fun q hq => .tail _ (mem_hidC.mp hq).1, fun q hq => (mem_hidC.mp hq).2.1, fun x d hx => ?_, fun x d hx => ⟨fun q hq => ?_, (B.csep x d (clOf_lookup hx)).2⟩, fun q hq => .tail _ (B.fin q hq), fun q hq => hq, fun q hq => (mem_hidC.mp hq).2.2.1, B.fsep, fun hz q hq x hx he => ?_, fun n v hv => ?_⟩
  · rw [List.map_cons, List.nodup_cons]
    refine ⟨fun h => ?_, B.nd⟩
    obtain ⟨q, hq, e⟩ := List.mem_map.mp h
    exact hC q hq e
  · obtain ⟨o, v, h1, _⟩ := B.cel x _ (clOf_lookup hx)
    exact hC _ h1 rfl
  · have := (B.obj i o p h1 h2).mono (led' := (C, oC) :: led) (pre_refl _) (fun _ h => h) fun _ _ h _ => .tail _ h
    cases o <;> exact this
  · obtain ⟨o, v, h1, h2⟩ := B.cel x d (clOf_lookup hx)
    exact ⟨o, v, .tail _ h1, h2⟩
  · exact (mem_hidC.mp hq).2.2.2 (x, d) (lookup_mem hx)
  · exact B.fcel hz q hq x (relabel_cell c.nocell hx) (clOf_lookup he)
  · dsimp only at hv
    split at hv
    · rename_i hn
      obtain ⟨W, h1, h2⟩ := B.loc n v hv
      refine ⟨W, h1, ?_⟩
      have hfree := beq_iff_eq.mp (List.all_eq_true.mp c.frf n hn)
      have hnl := List.all_eq_true.mp c.frk n hn
      rcases h2 with ⟨hk, _⟩ | ⟨_, d, o, g1, g2, g3⟩
      · rw [hk] at hnl; simp at hnl
      · exact .inr ⟨relabel_free (scope := scope) hfree, d, o, clOf_get (mem_lookup hfree) g1, .tail _ g2, g3⟩
    · cases hv
theorem bear_comp_out (ok : cx.Ok) {ρ ρ' : Map} {hid hid' : Hd} {fz led fz' led' : Led} {m mloc mloc' m' : Str → Option Value} {st st' : St} (B : Bear cx ρ hid fz led m mloc st) {scope : Scope} {fr : List String} (c : CompOk scope cx.env fr) {C D : Addr} {oD : Obj} (hCL : C ≠ cx.L)
    (hρ : ρ <+: ρ') (B' : Bear (cx.comp scope C m) ρ' hid' fz' led' m' mloc' st') (hD : (D, oD) ∈ hid'.h) (hDf : ∀ q ∈ led, q.1 ≠ D)
    (hH : ∀ q ∈ led, (∀ p ∈ ρ, q.1 ≠ p.1 ∧ q.1 ≠ p.2) → (∀ r ∈ fz, r.1 ≠ q.1) → (∀ y ∈ clOf scope cx.env, q.1 ≠ y.2) → q ∈ hid'.h) (hz : ∀ q ∈ fz, q ∈ hid'.z) (hloc : ∀ n ∈ fr, st'.loc n = st.loc n) :
    m' = m ∧ ∃ oC es ep, oC.data = .dict es ep ∧ StrKeys es ∧ (C, oC) ∈ led' ∧ Bear cx ρ' ((hid.cons (D, oD)).cons (C, oC)) fz' led' m mloc ⟨st.loc, st'.sto⟩ := by
  refine ⟨B'.cm hCL, ?_⟩
  have frn : ∀ {x : Str} {d : Addr}, (clOf scope cx.env).lookup x = some d → ∃ n ∈ fr, Str.ofString n = x ∧ scope.names.lookup x = some .free := fun {x d} h => by
    have := List.all_eq_true.mp c.namesF _ (clOf_mem (lookup_mem h)).2
    simp only [bne_self_eq_false, Bool.false_or, Bool.and_eq_true, beq_iff_eq, List.any_eq_true] at this
    obtain ⟨h1, n, hn, e⟩ := this
    exact ⟨n, hn, e, h1⟩
  -- what lies outside the comprehension's sight stands
  have keep : ∀ q ∈ led, (∀ p ∈ ρ, q.1 ≠ p.1 ∧ q.1 ≠ p.2) → (∀ y ∈ clOf scope cx.env, q.1 ≠ y.2) → q ∈ led' ∧ (q ∈ hid'.h ∨ q ∈ fz') := fun q hq hp hy => by
    by_cases hf : ∀ r ∈ fz, r.1 ≠ q.1
    · have := hH q hq hp hf hy
      exact ⟨B'.hin q this, .inl this⟩
    · obtain ⟨r, hr'⟩ := Classical.not_forall.mp hf
      obtain ⟨hr, e⟩ := Classical.not_imp.mp hr'
      have e : r.1 = q.1 := Classical.not_not.mp e
      have hrq : r = q := by
        have h1 := B.fin r hr
        obtain ⟨a, o⟩ := r
        obtain ⟨b, o'⟩ := q
        dsimp only at e
        subst e
        rw [nodup_mem B.nd h1 hq]
      subst hrq
      have := B'.fz0 _ (hz _ hr)
      exact ⟨B'.fin _ this, .inr this⟩
  have off : ∀ q, q ∈ hid'.h ∨ q ∈ fz' → ∀ p ∈ ρ', q.1 ≠ p.1 ∧ q.1 ≠ p.2 := fun q hq p hp => by
    rcases hq with h | h
    · exact B'.hsep q h p hp
    · exact B'.fsep q h p hp
  obtain ⟨oC, es, ep, k2, k3, k4, k5, k6, k7, k8, k9⟩ : ∃ oC es ep, (C, oC) ∈ led' ∧ oC.data = .dict es ep ∧ StrKeys es ∧ (∀ name, nsFind es name = mloc' name) ∧
      (∀ p ∈ ρ', p.1 ≠ C ∧ p.2 ≠ C) ∧ (∀ q ∈ hid'.h, q.1 ≠ C) ∧ (∀ q ∈ fz', q.1 ≠ C) ∧ (∀ x, (clOf scope cx.env).lookup x ≠ some C) := by
    rcases B'.ln with h | ⟨_, h⟩
    · exact absurd h.1 hCL
    · exact h
  have hidk : ∀ q ∈ hid.h, q ∈ hid'.h := fun q hq => hH q (B.hin q hq) (B.hsep q hq) (fun r hr => B.hfz q hq r hr) fun y hy => by
    obtain ⟨z1, _⟩ := clOf_mem (show (y.1, y.2) ∈ _ from hy)
    exact (B.csep y.1 y.2 z1).1 q hq
  -- a cell of the outer block: seen by the comprehension, or standing
  have cell : ∀ x d o, cx.env.cells.lookup x = some d → (d, o) ∈ led → (clOf scope cx.env).lookup x = some d ∨ ((d, o) ∈ led' ∧ ((d, o) ∈ hid'.h ∨ (d, o) ∈ fz')) := fun x d o hx ho => by
    by_cases hy : ∀ y ∈ clOf scope cx.env, d ≠ y.2
    · exact .inr (keep (d, o) ho (fun p hp => ⟨Ne.symm ((B.csep x d hx).2 p hp).1, Ne.symm ((B.csep x d hx).2 p hp).2⟩) hy)
    · obtain ⟨y, hy'⟩ := Classical.not_forall.mp hy
      obtain ⟨hy, e⟩ := Classical.not_imp.mp hy'
      have e : d = y.2 := Classical.not_not.mp e
      obtain ⟨z1, z2⟩ := clOf_mem (show (y.1, y.2) ∈ _ from hy)
      have : x = y.1 := ok.cinj x y.1 d hx (by rw [e]; exact z1)
      subst this
      exact .inl (clOf_get z2 hx)
  refine ⟨oC, es, ep, k3, k4, k2, B'.nd, B.cm, ?_, B'.len, B'.own, fun i o p h1 h2 => ?_, B'.sep, fun q hq => ?_, fun q hq => ?_, fun x d hx => ?_, fun x d hx => ⟨fun q hq => ?_, fun p hp => ?_⟩, B'.fin, fun q hq => B'.fz0 q (hz q (B.fz0 q hq)), fun q hq r hr => ?_, B'.fsep, fun hzz q hq x hx he => ?_, fun n v hv => ?_⟩
  · rcases B.ln with h | ⟨g1, o, es', ep', g2, g3, g4, g5, g6, g7, g8, g9⟩
    · exact .inl h
    · have hl : (cx.env.locals, o) ∈ hid'.h := hH _ g2 (fun p hp => ⟨Ne.symm (g6 p hp).1, Ne.symm (g6 p hp).2⟩) (fun r hr => g8 r hr) fun y hy e => by
        obtain ⟨z1, _⟩ := clOf_mem (show (y.1, y.2) ∈ _ from hy)
        exact g9 y.1 (by rw [z1]; exact congrArg some e.symm)
      refine .inr ⟨g1, o, es', ep', B'.hin _ hl, g3, g4, g5, fun p hp => ⟨Ne.symm (B'.hsep _ hl p hp).1, Ne.symm (B'.hsep _ hl p hp).2⟩, fun q hq => ?_, fun q hq => B'.hfz _ hl q hq, g9⟩
      rcases List.mem_cons.mp hq with rfl | hq
      · exact Ne.symm (k7 _ hl)
      · rcases List.mem_cons.mp hq with rfl | hq
        · exact Ne.symm (hDf _ g2)
        · exact g7 q hq
  · have := B'.obj i o p h1 h2
    cases o <;> exact this
  · rcases List.mem_cons.mp hq with rfl | hq
    · exact k2
    · rcases List.mem_cons.mp hq with rfl | hq
      · exact B'.hin _ hD
      · exact B'.hin q (hidk q hq)
  · rcases List.mem_cons.mp hq with rfl | hq
    · exact fun p hp => ⟨Ne.symm (k6 p hp).1, Ne.symm (k6 p hp).2⟩
    · rcases List.mem_cons.mp hq with rfl | hq
      · exact B'.hsep _ hD
      · exact B'.hsep q (hidk q hq)
  · obtain ⟨o, v, h1, h2⟩ := B.cel x d hx
    rcases cell x d o hx h1 with h | h
    · exact B'.cel x d h
    · exact ⟨o, v, h.1, h2⟩
  · obtain ⟨o, v, h1, h2⟩ := B.cel x d hx
    rcases List.mem_cons.mp hq with rfl | hq
    · rcases cell x d o hx h1 with h | h
      · exact fun e => k9 x (by rw [h]; exact congrArg some e.symm)
      · rcases h.2 with h | h
        · exact Ne.symm (k7 _ h)
        · exact Ne.symm (k8 _ h)
    · rcases List.mem_cons.mp hq with rfl | hq
      · exact Ne.symm (hDf _ h1)
      · exact (B.csep x d hx).1 q hq
  · obtain ⟨o, v, h1, h2⟩ := B.cel x d hx
    rcases cell x d o hx h1 with h | h
    · exact (B'.csep x d h).2 p hp
    · have := off _ h.2 p hp
      exact ⟨Ne.symm this.1, Ne.symm this.2⟩
  · rcases List.mem_cons.mp hq with rfl | hq
    · exact k8 r hr
    · rcases List.mem_cons.mp hq with rfl | hq
      · exact B'.hfz _ hD r hr
      · exact B'.hfz q (hidk q hq) r hr
  · obtain ⟨o, v, h1, h2⟩ := B.cel x _ he
    by_cases hcl : (clOf scope cx.env).lookup x = some q.1
    · obtain ⟨n, hn, e, hfree⟩ := frn hcl
      exact B'.fcel hzz q hq x (relabel_own (scope := scope) ok.kind hx hfree) hcl
    · have hy : ∀ y ∈ clOf scope cx.env, q.1 ≠ y.2 := fun y hy e => by
        obtain ⟨z1, z2⟩ := clOf_mem (show (y.1, y.2) ∈ _ from hy)
        have : x = y.1 := ok.cinj x y.1 q.1 he (by rw [e]; exact z1)
        subst this
        exact hcl (clOf_get z2 he)
      have := hH (q.1, o) h1 (fun p hp => ⟨Ne.symm ((B.csep x _ he).2 p hp).1, Ne.symm ((B.csep x _ he).2 p hp).2⟩) (fun r hr e => B.fcel hzz r hr x hx (by rw [e]; exact he)) hy
      exact B'.hfz _ this q hq rfl
  · obtain ⟨W, h1, h2⟩ := B.loc n v hv
    rcases h2 with h2 | ⟨hk, d, o, g1, g2, g3⟩
    · exact ⟨W, h1.mono hρ, .inl h2⟩
    · rcases cell _ d o g1 g2 with h | h
      · obtain ⟨n', hn', e, hfree⟩ := frn h
        have : n' = n := ofString_inj e
        subst this
        obtain ⟨W', w1, w2⟩ := B'.loc n' v (by rw [hloc n' hn']; exact hv)
        refine ⟨W', w1, ?_⟩
        rcases w2 with ⟨z1, _⟩ | ⟨_, d', o', z1, z2, z3⟩
        · exfalso
          have := relabel_free (scope := scope) (env := cx.env) hfree
          have z1' : (relabel scope cx.env).names.lookup (Str.ofString n') = some .local := z1
          unfold relabel at z1'
          rcases this with q | q <;> (rw [q] at z1'; cases z1')
        · exact .inr ⟨hk, d', o', clOf_lookup z1, z2, z3⟩
      · exact ⟨W, h1.mono hρ, .inr ⟨hk, d, o, g1, h.1, g3⟩⟩
end
end Mine
namespace Mine
abbrev Tests (env : Env) (ifs : List Expr) : Sem Bool := forIn ifs true fun c r => if r = true then do let ok ← isTrue c env (eval c env); pure (ForInStep.yield ok) else pure (ForInStep.yield r)
section
variable {cx : Cx}
theorem sim_tests_nil : Sim cx (Tests cx.env []) (PM.pure true) BR := by
  intro ρ hid st s x v st' h; cases h
  exact wpAny_tests_nil ⟨ρ, pre_refl ρ, x, rfl⟩
theorem sim_tests_one {c : Expr} {m : PM Bool} (h : SimT cx c m) : Sim cx (Tests cx.env [c]) m BR := by
  intro ρ hid st s x v st' e
  exact wpAny_tests_one (h ρ hid st s x v st' e)
theorem comp_turns (ok : cx.Ok) {elt iter : Expr} {x : Str} {px : Pos} {ifs : List Expr} {scope : Scope} {pos : Pos} {g : V → PM Unit} {mc : PM Bool} {me : PM V} (hg : SimG cx (.Name x px) g) (hc : Sim cx (Tests cx.env ifs) mc BR) (he : SimV cx (eval elt cx.env) me)
    {src : Src} {xs : List V} {I D : Addr} {At : Nat → Heap → Prop} {ρ₀ : Map} {H : Hd} (It : Iter cx ρ₀ src xs I At) (hI : ∀ q ∈ H.h, q.1 ≠ I) (hD : ∀ q ∈ H.h, q.1 ≠ D) (hDI : D ≠ I)
    {o : Obj} {st st' : St} {s : Shared} (x0 : Rel cx ρ₀ ((H.cons (D, listObj [] 0)).cons (I, o)) st s) (hat : At 0 s.heap) {res : List V} (h : compM src g mc me [] xs st = .ok res st') {R : Result → Shared → Prop}
    (hR : ∀ s' ρ' Ys k, ρ₀ <+: ρ' → VRs ρ' res Ys → Rel cx ρ' (H.cons (D, listObj Ys k)) st' s' → R (.ok .next) s') :
    codeAny cx.M cx.A (.compLoop (.ListComp elt [⟨.Name x px, iter, ifs, 0⟩] scope pos) 0 (.ref I) (.ref D) cx.env) R s := by
  refine codeAny_compLoop_tests (fun n s' => ∃ i ρ' o' ys Ys k st1, ρ₀ <+: ρ' ∧ VRs ρ' ys Ys ∧ Rel cx ρ' ((H.cons (D, listObj Ys k)).cons (I, o')) st1 s' ∧ At i s'.heap ∧ i ≤ xs.length ∧ n = xs.length + 1 - i ∧ compM src g mc me ys (xs.drop i) st1 = .ok res st') ?_ (xs.length + 1)
    ⟨0, ρ₀, o, [], [], 0, st, pre_refl _, .nil, x0, hat, Nat.zero_le _, rfl, h⟩
  rintro n s1 ⟨i, ρ1, o1, ys, Ys, k, st1, p1, vy, r1, a1, hi, rfl, e1⟩
  have hI' : ∀ (Ys : List Value) (k : Nat), ∀ q ∈ (H.cons (D, listObj Ys k)).h, q.1 ≠ I := fun Ys k q hq => by
    rcases List.mem_cons.mp hq with rfl | hq
    · exact hDI
    · exact hI q hq
  rcases Nat.lt_or_ge i xs.length with hlt | hge
  · have hx : xs[i]? = some xs[i] := List.getElem?_eq_getElem hlt
    have hd : xs.drop i = xs[i] :: xs.drop (i + 1) := List.drop_eq_getElem_cons hlt
    rw [hd] at e1
    unfold compM at e1
    obtain ⟨_, st2, c1, e2⟩ := bind_ok e1
    obtain ⟨rfl, c2⟩ := chk_ok c1
    obtain ⟨_, st4, c4, e3⟩ := bind_ok e2
    obtain ⟨b, st5, c5, e4⟩ := bind_ok e3
    refine lf r1.pos (It.next i xs[i] ρ1 _ _ s1 hx a1 p1 r1 c2 cx.A _ _ fun W h' tk w1 w2 w3 htk => ?_)
    obtain ⟨o2, ho2⟩ := It.there _ _ w2
    have r2 := r1.turn (tk := tk) (hI' Ys k) w3 ho2
    refine wp_seq (hg ρ1 _ _ _ r2 _ W w1 () st4 c4) fun _ s3 ρ3 p3 r3 _ => ?_
    refine wp_seq (hc ρ3 _ _ _ r3 b st5 c5) fun b' s4 ρ4 p4 r4 hb => ?_
    cases hb
    have atI : ∀ {s5 : Shared} {ρ5 : Map} {hh : Hd} {st6 : St}, Rel cx ρ5 (hh.cons (I, o2)) st6 s5 → At (i + 1) s5.heap := fun {s5 ρ5 hh st6} r5 => by
      refine It.frame (i + 1) h' s5.heap w2 fun ob hob => ?_
      have : ob = o2 := Option.some.inj (hob.symm.trans ho2)
      subst this
      obtain ⟨fz, led, m, mloc, r5'⟩ := id r5
      exact (r5'.N _ (r5'.B.hin _ (.head _))).1
    cases b with
    | false =>
      rw [if_neg (by simp)]
      exact ⟨xs.length + 1 - (i + 1), by omega, i + 1, ρ4, o2, ys, Ys, k, st5, pre_trans p1 (pre_trans p3 p4), vy.mono (pre_trans p3 p4), r4, atI r4, hlt, rfl, e4⟩
    | true =>
      rw [if_pos rfl]
      obtain ⟨v, st6, c6, e5⟩ := bind_ok e4
      split at e5
      · rename_i hlen
        refine wp_seq (he ρ4 _ _ _ r4 v st6 c6) fun X s5 ρ5 p5 r5 hX => ?_
        have pp := pre_trans p3 (pre_trans p4 p5)
        have r5s : Rel cx ρ5 ((H.cons (I, o2)).cons (D, listObj Ys k)) st6 s5 := r5.hsub (fun q hq => by
          rcases List.mem_cons.mp hq with rfl | hq
          · exact .tail _ (.head _)
          · rcases List.mem_cons.mp hq with rfl | hq
            · exact .head _
            · exact .tail _ (.tail _ hq)) fun q hq => hq
        obtain ⟨fz, led, m, mloc, r5'⟩ := id r5s
        refine append_at (hsz := by rw [List.size_toArray, ← vy.length]; exact list_fits hlen) (r5'.N _ (r5'.B.hin _ (.head _))).1 fun h6 hs6 ho6 => ?_
        rw [size_push_eq] at ho6
        have r6 := r5s.turn (tk := s5.toks) (fun q hq => by
          rcases List.mem_cons.mp hq with rfl | hq
          · exact Ne.symm hDI
          · exact hD q hq) (fun b ob hb e => (hs6.2 b hb).trans e) ho6
        have r6s : Rel cx ρ5 ((H.cons (D, listObj (Ys ++ [X]) (k + 1))).cons (I, o2)) st6 { s5 with heap := h6 } := r6.hsub (fun q hq => by
          rcases List.mem_cons.mp hq with rfl | hq
          · exact .tail _ (.head _)
          · rcases List.mem_cons.mp hq with rfl | hq
            · exact .head _
            · exact .tail _ (.tail _ hq)) fun q hq => hq
        exact ⟨xs.length + 1 - (i + 1), by omega, i + 1, ρ5, o2, ys ++ [v], Ys ++ [X], k + 1, st6, pre_trans p1 pp, vrs_append (vy.mono pp) (.cons hX .nil), r6s, atI r6s, hlt, rfl, e5⟩
      · cases e5
  · have hil : i = xs.length := Nat.le_antisymm hi hge
    subst hil
    rw [List.drop_length] at e1
    unfold compM at e1
    obtain ⟨_, st2, c1, e2⟩ := bind_ok e1
    obtain ⟨rfl, c2⟩ := chk_ok c1
    cases e2
    refine lf r1.pos (It.done ρ1 _ _ s1 a1 p1 r1 c2 cx.A _ _ ok.handled fun h' tk w3 htk => ?_)
    exact hR _ ρ1 Ys k p1 vy (r1.dropI (hI' Ys k) w3)
/-- a comprehension up to its filled list -/
theorem comp_run (ok : cx.Ok) {elt iter : Expr} {n : String} {px : Pos} {ifs : List Expr} {scope : Scope} {fr : List String} {pos cpos : Pos} {mi : PM V} {mc : PM Bool} {me : PM V} (c : CompOk scope cx.env fr) (hi : SimV cx (eval iter cx.env) mi)
    (hx : scope.names.lookup (Str.ofString n) = some .local)
    (hc : ∀ C fm, (cx.comp scope C fm).Ok → Sim (cx.comp scope C fm) (Tests (cx.comp scope C fm).env ifs) mc BR) (he : ∀ C fm, (cx.comp scope C fm).Ok → SimV (cx.comp scope C fm) (eval elt (cx.comp scope C fm).env) me)
    (hs : ∀ x, foldedSetIterable iter cx.env x = pure x) {use : Option (Value → Sem Unit)} {Q : Value → Shared → Prop}
    {ρ : Map} {hid : Hd} {st st1 st2 st3 : St} {s : Shared} (x : Rel cx ρ hid st s) {a : V} {p : Src × List V} {vs : List V} (e1 : mi st = .ok a st1) (e2 : iterOf a st1 = .ok p st2) (e3 : inScope fr (compM p.1 (setL n) mc me [] p.2) st2 = .ok vs st3)
    (k : ∀ D C oC es ep Ys k s' ρ', ρ <+: ρ' → VRs ρ' vs Ys → Rel cx ρ' ((hid.cons (D, listObj Ys k)).cons (C, oC)) st3 s' → oC.data = .dict es ep → StrKeys es → (∀ q ∈ hid.h, q.1 ≠ D) → (∀ q ∈ (hid.cons (D, listObj Ys k)).h, q.1 ≠ C) →
      compPost cx.M cx.A (fun _ _ => False) use Q (.ref D) C (.ok .next) s') :
    wpAny cx.M cx.A (comprehension (.ListComp elt [⟨.Name (Str.ofString n) px, iter, ifs, 0⟩] scope pos) scope cx.env cpos (newList []) false (eval iter cx.env) use) Q (fun _ _ => False) s := by
  have hcell : ∀ y ∈ scope.names, y.2 ≠ .cell := fun y hy => by simpa using List.all_eq_true.mp c.nocell y hy
  refine wpAny_comprehension_free (g := ⟨.Name (Str.ofString n) px, iter, ifs, 0⟩) (gs := []) rfl hs (closureFor_eq c.free) c.kind (fun y hy hl => by have := List.all_eq_true.mp c.names y hy; rw [hl] at this; simpa using this) ?_
  refine wp_seq (hi ρ hid st s x a st1 e1) fun A1 s1 ρ1 p1 r1 v1 => iter_start r1 v1 e2 fun I o At s2 It hat r2 hI => ?_
  refine wpAny_newObj_type ?_ (by show (0 : Nat) ≤ sizeLine; exact Nat.zero_le _)
  obtain ⟨r3, hD⟩ := r2.hide (ob := listObj [] 0) (tk := s2.toks) rfl
  generalize hDdef : s2.heap.objs.size = D at r3 hD
  have hDI : I ≠ D := hD (I, o) (.head _)
  have hDh : ∀ q ∈ hid.h, q.1 ≠ D := fun q hq => hD q (.tail _ hq)
  have at3 : At 0 (s2.heap.push (listObj [] 0)) := (It cx).frame 0 s2.heap _ hat fun ob hob => Heap.get?_push_of_some _ hob
  refine wpAny_newFunctionEnv hcell (by intro y hy; simp at hy) (fun h' hns hsb => ?_) c.kind
  obtain ⟨fz, led, m, mloc, r3⟩ := r3
  have B3 := r3.B
  generalize hH3 : s2.heap.push (listObj [] 0) = H3 at *
  have hfr := news_fresh r3.N
  generalize hCdef : H3.objs.size = C at *
  obtain ⟨oC, es, ep, hoC, hdC, hkC, hfC⟩ := hns
  have hCL : C ≠ cx.L := by
    obtain ⟨oL, _, _, hL, _⟩ := r3.F.ns
    have := Heap.lt_size hL
    intro e
    rw [← e, ← hCdef] at this
    exact Nat.lt_irrefl _ this
  have hC0 : cx.h₀.get? C = none := by
    cases q : cx.h₀.get? C with
    | none => rfl
    | some o' =>
      have := Heap.lt_size (r3.F.keep _ _ q)
      rw [hCdef] at this
      exact absurd this (Nat.lt_irrefl _)
  have old : ∀ b ob, H3.get? b = some ob → h'.get? b = some ob := fun b ob e => by
    have hne : b ≠ C := by
      intro q
      have := Heap.lt_size e
      rw [q, hCdef] at this
      exact Nat.lt_irrefl _ this
    exact (hsb.2 b hne).trans (Heap.get?_push_of_some _ e)
  have F4 : Fr cx.h₀ cx.L h' m := ⟨r3.F.ns.keeps old, fun b ob e => old b ob (r3.F.keep b ob e), r3.F.above⟩
  have N4 : News cx.h₀ cx.L h' ((C, oC) :: led) := fun q hq => by
    rcases List.mem_cons.mp hq with rfl | hq
    · exact ⟨hoC, hCL, hC0⟩
    · have := r3.N q hq
      exact ⟨old _ _ this.1, this.2⟩
  have B4 := bear_comp_in B3 c (C := C) (oC := oC) hfr hCL hdC hkC (fun y => by rw [hfC]; rfl)
  -- what is hidden within
  have nocl : ∀ q ∈ ((hid.cons (I, o)).cons (D, listObj [] 0)).h, ∀ y ∈ clOf scope cx.env, q.1 ≠ y.2 := fun q hq y hy => by
    obtain ⟨z1, _⟩ := clOf_mem (show (y.1, y.2) ∈ _ from hy)
    exact (B3.csep y.1 y.2 z1).1 q hq
  have inC : ∀ q ∈ ((hid.cons (I, o)).cons (D, listObj [] 0)).h, q ∈ (hidC ρ1 fz led (clOf scope cx.env)).h := fun q hq => mem_hidC.mpr ⟨B3.hin q hq, B3.hsep q hq, fun r hr => B3.hfz q hq r hr, nocl q hq⟩
  let H0 : Hd := ⟨(hidC ρ1 fz led (clOf scope cx.env)).h.filter (fun q => decide (q.1 ≠ I) && decide (q.1 ≠ D)), fz⟩
  have hH0 : ∀ q ∈ H0.h, q ∈ (hidC ρ1 fz led (clOf scope cx.env)).h ∧ q.1 ≠ I ∧ q.1 ≠ D := fun q hq => by
    have := List.mem_filter.mp hq
    rw [Bool.and_eq_true, decide_eq_true_eq, decide_eq_true_eq] at this
    exact this
  have R4 : Rel (cx.comp scope C m) ρ1 ((H0.cons (D, listObj [] 0)).cons (I, o)) ⟨fun k => if k ∈ fr then st2.loc k else none, st2.sto⟩ { s2 with heap := h' } := by
    refine Rel.hsub (hid := hidC ρ1 fz led (clOf scope cx.env)) ⟨fz, _, m, _, F4, N4, B4, r3.gens, r3.os, r3.tk⟩ (fun q hq => ?_) fun q hq => hq
    rcases List.mem_cons.mp hq with rfl | hq
    · exact inC _ (.tail _ (.head _))
    · rcases List.mem_cons.mp hq with rfl | hq
      · exact inC _ (.head _)
      · exact (hH0 q hq).1
  have okc := comp_ok ok c C m
  unfold inScope at e3
  split at e3
  · rename_i vs' st4 e4
    split at e3
    · rename_i hloc
      cases e3
      have at4 : At 0 h' := (It cx).frame 0 H3 h' at3 fun ob hob => old _ _ hob
      have loop : ∀ s4 : Shared, s4 = { s2 with heap := h', toks := s2.toks + ([] : List (Str × Value)).length } →
          codeAny cx.M cx.A (.compLoop (.ListComp elt [⟨.Name (Str.ofString n) px, iter, ifs, 0⟩] scope pos) 0 (.ref I) (.ref D) (compEnvC scope (clOf scope cx.env) C cx.env)) (compPost cx.M cx.A (fun _ _ => False) use Q (.ref D) C) s4 := by
        rintro s4 rfl
        refine comp_turns (cx := cx.comp scope C m) okc (sim_target okc (.inl (lookup_relabel_local hx))) (hc C m okc) (he C m okc) (It _) (fun q hq => (hH0 q hq).2.1) (fun q hq => (hH0 q hq).2.2) (Ne.symm hDI) R4 at4 e4 fun s5 ρ5 Ys kk p5 v5 r5 => ?_
        obtain ⟨fz5, led5, m5, mloc5, r5⟩ := r5
        have B00 := (B3.drop (fun q hq => hD q hq)).drop (fun q hq => hI q hq)
        obtain ⟨rfl, oC5, es5, ep5, d5, k5, mem5, B5⟩ := bear_comp_out (D := D) (oD := listObj Ys kk) ok B00 c hCL p5 r5.B (.head _) (fun q hq => by
            have := List.mem_filter.mp (List.mem_filter.mp hq).1
            exact of_decide_eq_true this.2) (fun q hq hp hf hy => by
            have h1 := List.mem_filter.mp hq
            have h2 := List.mem_filter.mp h1.1
            refine .tail _ (List.mem_filter.mpr ⟨mem_hidC.mpr ⟨h2.1, hp, hf, hy⟩, ?_⟩)
            rw [Bool.and_eq_true]
            exact ⟨h1.2, h2.2⟩) (fun q hq => hq) hloc
        refine k D C oC5 es5 ep5 Ys kk s5 ρ5 (pre_trans p1 p5) v5 ⟨fz5, led5, m5, mloc, r5.F, r5.N, B5, r5.gens, r5.os, r5.tk⟩ d5 k5 hDh fun q hq => ?_
        have := B5.nd
        intro e
        rcases List.mem_cons.mp hq with rfl | hq
        · have h1 := B5.hin _ (.tail _ (.head _))
          have h2 := B5.hin _ (.head _)
          have : listObj Ys kk = oC5 := nodup_mem B5.nd (e ▸ h1) h2
          rw [← this] at d5
          cases d5
        · have := B3.hin q (.tail _ (.tail _ hq))
          exact hfr q this e
      exact codeAny_compStart_list (loop _ rfl) ((It cx).self 0 _ at4 cx.A _ _ (loop _ rfl))
    · cases e3
  · cases e3
/-- the comprehension's program -/
noncomputable def compV (fr : List String) (n : String) (mi : PM V) (mc : PM Bool) (me : PM V) : PM V := PM.bind mi fun a => PM.bind (iterOf a) fun p => PM.bind (inScope fr (compM p.1 (setL n) mc me [] p.2)) fun vs => alloc (.list vs)
theorem sim_ListComp (ok : cx.Ok) {elt iter : Expr} {n : String} {px : Pos} {ifs : List Expr} {scope : Scope} {fr : List String} {pos : Pos} {mi : PM V} {mc : PM Bool} {me : PM V} (c : CompOk scope cx.env fr) (hi : SimV cx (eval iter cx.env) mi)
    (hx : scope.names.lookup (Str.ofString n) = some .local)
    (hc : ∀ C fm, (cx.comp scope C fm).Ok → Sim (cx.comp scope C fm) (Tests (cx.comp scope C fm).env ifs) mc BR) (he : ∀ C fm, (cx.comp scope C fm).Ok → SimV (cx.comp scope C fm) (eval elt (cx.comp scope C fm).env) me)
    (hs : ∀ x, foldedSetIterable iter cx.env x = pure x) : SimV cx (eval (.ListComp elt [⟨.Name (Str.ofString n) px, iter, ifs, 0⟩] scope pos) cx.env) (compV fr n mi mc me) := by
  intro ρ hid st s x v st' h
  obtain ⟨a, st1, e1, h1⟩ := bind_ok h
  obtain ⟨p, st2, e2, h2⟩ := bind_ok h1
  obtain ⟨vs, st3, e3, h3⟩ := bind_ok h2
  rw [eval_ListComp]
  refine comp_run ok c hi hx hc he hs (use := none) x e1 e2 e3 fun D C oC es ep Ys k s' ρ' pp vv rr hd hk hD hC => ?_
  obtain ⟨fz, led, m, mloc, rr'⟩ := id rr
  refine ⟨_, ⟨oC, es, ep, (rr'.N _ (rr'.B.hin _ (.head _))).1, hd, hk, fun _ => rfl⟩, fun h' hs' => ?_⟩
  have r1 := rr.dropI (tk := s'.toks) hC (fun b ob hb e => (hs'.2 b hb).trans e)
  obtain ⟨r2, v2⟩ := r1.enterH hD vv
  cases h3
  exact ⟨_, pre_trans pp (List.prefix_append _ _), r2, v2⟩
theorem sim_AssignComp (ok : cx.Ok) {elt iter : Expr} {n y : String} {px py spos : Pos} {ifs : List Expr} {scope : Scope} {fr : List String} {pos : Pos} {mi : PM V} {mc : PM Bool} {me : PM V} (c : CompOk scope cx.env fr) (hi : SimV cx (eval iter cx.env) mi)
    (hx : scope.names.lookup (Str.ofString n) = some .local)
    (hc : ∀ C fm, (cx.comp scope C fm).Ok → Sim (cx.comp scope C fm) (Tests (cx.comp scope C fm).env ifs) mc BR) (he : ∀ C fm, (cx.comp scope C fm).Ok → SimV (cx.comp scope C fm) (eval elt (cx.comp scope C fm).env) me)
    (hs : ∀ x, foldedSetIterable iter cx.env x = pure x) (hk : Asg cx y)
    (hsw : swapsWith (.ListComp elt [⟨.Name (Str.ofString n) px, iter, ifs, 0⟩] scope pos) (some (.Name (Str.ofString y) py)) spos.line cx.env = pure true) :
    SimS cx (.Assign [.Name (Str.ofString y) py] (.ListComp elt [⟨.Name (Str.ofString n) px, iter, ifs, 0⟩] scope pos) spos) (PM.bind (compV fr n mi mc me) fun v => PM.bind (setL y v) fun _ => PM.pure .next) := by
  intro ρ hid st s x v st' h0
  obtain ⟨w, st5, h, h5⟩ := bind_ok h0
  obtain ⟨a, st1, e1, h1⟩ := bind_ok h
  obtain ⟨p, st2, e2, h2⟩ := bind_ok h1
  obtain ⟨vs, st3, e3, h3⟩ := bind_ok h2
  cases h3
  cases h5
  rw [exec_Assign_Name_used _ _ _ _ hsw]
  refine wpAny_bind (wpAny_standAt (wpAny_bind ?_))
  show wpAny _ cx.A (do let _ ← comprehension (.ListComp elt [⟨.Name (Str.ofString n) px, iter, ifs, 0⟩] scope pos) scope cx.env _ (newList []) false (eval iter cx.env) (some (assign (.Name (Str.ofString y) py) cx.env))) _ _ s
  refine wpAny_bind (wpAny_mono (comp_run ok c hi hx hc he hs (use := some (assign (.Name (Str.ofString y) py) cx.env)) (Q := fun _ s' => ∃ ρ', ρ <+: ρ' ∧ Rel cx ρ' hid _ s' ∧ FR ρ' .next .next) x e1 e2 e3 fun D C oC es ep Ys k s' ρ' pp vv rr hd hkk hD hC => ?_)
    (fun _ s' hq => wpAny_pure (wpAny_pure hq)) fun _ _ e => e)
  show wpAny _ cx.A (assign (.Name (Str.ofString y) py) cx.env (.ref D)) _ _ _
  have rs : Rel cx ρ' ((hid.cons (C, oC)).cons (D, listObj Ys k)) st3 s' := rr.hsub (fun q hq => by
    rcases List.mem_cons.mp hq with rfl | hq
    · exact .tail _ (.head _)
    · rcases List.mem_cons.mp hq with rfl | hq
      · exact .head _
      · exact .tail _ (.tail _ hq)) fun q hq => hq
  obtain ⟨r2, v2⟩ := rs.enterH (fun q hq => by
    rcases List.mem_cons.mp hq with rfl | hq
    · exact Ne.symm (hC _ (.head _))
    · exact hD q hq) vv
  refine wpAny_assign_Name (store_name ok r2 v2 hk fun s'' r'' => ?_)
  obtain ⟨fz, led, m, mloc, rr'⟩ := id r''
  refine ⟨_, ⟨oC, es, ep, (rr'.N _ (rr'.B.hin _ (.head _))).1, hd, hkk, fun _ => rfl⟩, fun h' hs' => ?_⟩
  exact ⟨_, pre_trans pp (List.prefix_append _ _), r''.dropI (tk := s''.toks) (fun q hq => hC q (.tail _ hq)) (fun b ob hb e => (hs'.2 b hb).trans e), .next⟩
end
end Mine
namespace Mine
/-- an index into a row of n, from behind if below nought -/
def idx (n : Nat) (k : Int) : Option Nat := if 0 ≤ k then (if k < n then some k.toNat else none) else (if 0 ≤ k + n then some (k + n).toNat else none)
theorem idx_lt {n : Nat} {k : Int} {j : Nat} (h : idx n k = some j) : j < n ∧ seqIndex? k n = some j ∧ ((0 ≤ k ∧ j = k.toNat ∧ k < n) ∨ (k < 0 ∧ j = (k + n).toNat ∧ 0 ≤ k + n)) := by
  unfold idx at h
  have key : j < n ∧ ((0 ≤ k ∧ j = k.toNat ∧ k < n) ∨ (k < 0 ∧ j = (k + n).toNat ∧ 0 ≤ k + n)) := by
    split at h
    · split at h
      · cases h; exact ⟨by omega, .inl ⟨by assumption, rfl, by assumption⟩⟩
      · cases h
    · split at h
      · cases h; exact ⟨by omega, .inr ⟨by omega, rfl, by assumption⟩⟩
      · cases h
  refine ⟨key.1, ?_, key.2⟩
  unfold seqIndex?
  rcases key.2 with ⟨h1, h2, h3⟩ | ⟨h1, h2, h3⟩
  · simp only [show ¬ k < 0 from by omega, if_false]
    rw [if_pos (by simp; omega), h2]
  · simp only [h1, if_true]
    rw [if_pos (by simp; omega), h2]
def itemP (st : St) (o i : V) : Option V := match o, i with
  | .obj j, .int k => (match st.sto[j]? with
    | some (.list xs) => if xs.length ≤ 1000000 then (idx xs.length k).bind (xs[·]?) else none
    | some (.tuple xs) => if xs.length ≤ 1000000 then (idx xs.length k).bind (xs[·]?) else none
    | _ => none)
  | .str l, .int k => if l.length ≤ 1000000 then (idx l.length k).bind fun j => (l[j]?).map fun c => .str [c] else none
  | _, _ => none
def pItem (o i : V) : PM V := fun st => match itemP st o i with | some v => .ok v st | none => .fail
/-- a cut of a row -/
def cutAt (n : Nat) (lo : Option Int) (d : Nat) : Nat := lo.elim d (clipAt n)
def cut {α : Type} (xs : List α) (lo hi : Option Int) : List α := (xs.drop (cutAt xs.length lo 0)).take (cutAt xs.length hi xs.length - cutAt xs.length lo 0)
def asPart : V → Option (Option Int)
  | .none => some none
  | .int i => some (some i)
  | _ => none
theorem vrs_cut {ρ : Map} {xs : List V} {Xs : List Value} (h : VRs ρ xs Xs) (lo hi : Option Int) : VRs ρ (cut xs lo hi) (cut Xs lo hi) := by
  unfold cut
  rw [← h.length]
  exact vrs_take _ (vrs_drop _ h)
section
variable {cx : Cx}
theorem isPart {ρ : Map} {v : V} {W : Value} {p : Option Int} (hv : VR ρ v W) (h : asPart v = some p) : IsPart W p := by
  unfold asPart at h
  split at h
  · cases h; cases vr_none hv; exact .none
  · cases h; obtain ⟨t, rfl⟩ := vr_int hv; exact .int _ t
  · cases h
theorem p_item (ok : cx.Ok) : P2 cx getItem pItem VR := by
  intro ρ hid st s x a A b B ha hb v st' h
  unfold pItem at h
  split at h
  · rename_i w e
    cases h
    unfold itemP at e
    split at e
    · rename_i j k
      obtain ⟨p, hp, rfl⟩ := vr_obj ha
      obtain ⟨t, rfl⟩ := vr_int hb
      obtain ⟨fz, led, m, mloc, x'⟩ := id x
      split at e
      · rename_i xs hi
        split at e
        · rename_i hl
          obtain ⟨j', hj, hv⟩ := Option.bind_eq_some_iff.mp e
          obtain ⟨Xs, n, g1, g2⟩ := x'.list_at hi hp
          obtain ⟨W, w1, w2⟩ := vrs_get g1 hv
          have hlen := g1.length
          have hl' : s.heap.IsList p.1 Xs.toArray := ⟨_, (x'.N _ g2).1, rfl, _, rfl⟩
          rcases (idx_lt hj).2.2 with ⟨k1, rfl, k3⟩ | ⟨k1, rfl, k3⟩
          · exact wpAny_getItem_list hl' k1 (by omega) (by simpa using w1) (fin_same x w2)
          · refine wpAny_getItem_list_neg hl' k1 (by rw [List.size_toArray]; omega) (by omega) ?_ (fin_same x w2)
            rw [List.size_toArray, ← hlen]
            simpa using w1
        · cases e
      · rename_i xs hi
        split at e
        · rename_i hl
          obtain ⟨j', hj, hv⟩ := Option.bind_eq_some_iff.mp e
          obtain ⟨Xs, n, g1, g2⟩ := x'.tuple_at hi hp
          obtain ⟨W, w1, w2⟩ := vrs_get g1 hv
          have hlen := g1.length
          obtain ⟨i1, i2, i3⟩ := idx_lt hj
          refine PySem.P.getItem_tuple (k := j') (y := W) (x'.N _ g2).1 ?_ ?_ (by rw [List.size_toArray, ← hlen]; exact i2) (by simpa using w1) (fin_same x w2)
          · rcases i3 with h | h <;> omega
          · rcases i3 with h | h <;> omega
        · cases e
      · cases e
    · rename_i l k
      have hok := vr_ok ha
      obtain ⟨t, rfl⟩ := vr_str ha
      obtain ⟨u, rfl⟩ := vr_int hb
      split at e
      · rename_i hl
        obtain ⟨j', hj, hv⟩ := Option.bind_eq_some_iff.mp e
        obtain ⟨c, hc, rfl⟩ := Option.map_eq_some_iff.mp hv
        obtain ⟨i1, i2, i3⟩ := idx_lt hj
        have hoc : okS [c] := fun d hd => by rw [List.mem_singleton.mp hd]; exact hok c (List.mem_of_getElem? hc)
        refine PyProof.Rows.getItem_str (c := c) ?_ ?_ (fin_toks x (.str [c] _ hoc))
        · rcases i3 with h | h <;> simp <;> omega
        · rw [str_len, i2]; simpa using hc
      · cases e
    · cases e
  · cases h
/-- a built-in container's type, for a subscript -/
theorem plain_sub {ρ : Map} {hid : Hd} {st : St} {s : Shared} (x : Rel cx ρ hid st s) {o : V} {A : Value} (ha : VR ρ o A) (hk : (∃ j xs, o = .obj j ∧ (st.sto[j]? = some (.list xs) ∨ st.sto[j]? = some (.tuple xs))) ∨ ∃ l, o = .str l) :
    ∃ T bid, s.TypeIs A T ∧ typeLookup (.type T) "__getitem__" = pure (some (.builtin bid)) := by
  rcases hk with ⟨j, xs, rfl, h | h⟩ | ⟨l, rfl⟩
  · obtain ⟨p, hp, rfl⟩ := vr_obj ha
    obtain ⟨fz, led, m, mloc, x'⟩ := x
    obtain ⟨Xs, n, g1, g2⟩ := x'.list_at h hp
    exact ⟨_, _, ⟨_, (x'.N _ g2).1, rfl⟩, PySem.F.slot_list_getitem.lookup⟩
  · obtain ⟨p, hp, rfl⟩ := vr_obj ha
    obtain ⟨fz, led, m, mloc, x'⟩ := x
    obtain ⟨Xs, n, g1, g2⟩ := x'.tuple_at h hp
    exact ⟨_, _, ⟨_, (x'.N _ g2).1, rfl⟩, PySem.F.slot_tuple_getitem.lookup⟩
  · obtain ⟨t, rfl⟩ := vr_str ha
    exact ⟨_, _, typeIs_str _ _ _, PySem.F.slot_str_getitem.lookup⟩
theorem itemP_kind {st : St} {o i v : V} (h : itemP st o i = some v) : (∃ j xs, o = .obj j ∧ (st.sto[j]? = some (.list xs) ∨ st.sto[j]? = some (.tuple xs))) ∨ ∃ l, o = .str l := by
  unfold itemP at h
  split at h
  · split at h
    · exact .inl ⟨_, _, rfl, .inl (by assumption)⟩
    · exact .inl ⟨_, _, rfl, .inr (by assumption)⟩
    · cases h
  · exact .inr ⟨_, rfl⟩
  · cases h
theorem sim_Subscript (ok : cx.Ok) {value slice : Expr} {pos : Pos} {mo mi : PM V} (ho : SimV cx (eval value cx.env) mo) (hi : SimV cx (eval slice cx.env) mi) (hs : ∀ o i, subscripted slice false o i = operate [o, i] (getItem o i)) :
    SimV cx (eval (.Subscript value slice pos) cx.env) (PM.bind mo fun o => PM.bind mi fun i => pItem o i) := by
  intro ρ hid st s x v st' h
  obtain ⟨a, st1, e1, h1⟩ := bind_ok h
  obtain ⟨b, st2, e2, h2⟩ := bind_ok h1
  refine Subscript_ (wp_seq (ho ρ hid st s x a st1 e1) fun A s1 ρ1 p1 r1 v1 => wp_seq (hi ρ1 hid st1 s1 r1 b st2 e2) fun B s2 ρ2 p2 r2 v2 => ?_)
  have hk : itemP st2 a b = some v := by
    unfold pItem at h2
    split at h2
    · rename_i e; cases h2; exact e
    · cases h2
  obtain ⟨T, bid, hT, hl⟩ := plain_sub r2 (v1.mono p2) (itemP_kind hk)
  exact tail_any hT hl (wp_seq (p_item ok ρ2 hid st2 s2 r2 a A b B (v1.mono p2) v2 v st' h2) fun W s3 ρ3 p3 r3 v3 => ⟨ρ3, pre_trans p1 (pre_trans p2 p3), r3, v3⟩) (hs A B)
/-- an optional part of a slice -/
abbrev SimO (cx : Cx) (o : Option Expr) (m : PM V) : Prop := SimV cx (valueOrNone (evalOpt o cx.env)) m
theorem sim_part_none : SimO cx none (PM.pure .none) := by
  intro ρ hid st s x v st' h; cases h
  exact wpAny_pure ⟨ρ, pre_refl ρ, x, .none⟩
theorem sim_part_some {e : Expr} {m : PM V} (h : SimV cx (eval e cx.env) m) : SimO cx (some e) m := h
end
end Mine
namespace Mine
theorem Rel.grow {cx : Cx} {ρ : Map} {hid : Hd} {st : St} {s : Shared} {h' : Heap} {tk : Nat} (x : Rel cx ρ hid st s) (hk : ∀ b o, s.heap.get? b = some o → h'.get? b = some o) (htk : 0 < tk := by first | assumption | exact Nat.succ_pos _ | exact Rel.pos (by assumption) | exact RelD.tk (by assumption)) : Rel cx ρ hid st { s with heap := h', toks := tk } := by
  obtain ⟨fz, led, m, mloc, x⟩ := x
  exact ⟨fz, led, m, mloc, ⟨x.F.ns.keeps hk, fun b o e => hk b o (x.F.keep b o e), x.F.above⟩, fun q hq => ⟨hk _ _ (x.N q hq).1, (x.N q hq).2⟩, x.B, x.gens, x.os, htk⟩
/-- an item stored -/
def setItemP (v o i : V) : PM Unit := fun st => match o, i with
  | .obj j, .int k => (match st.sto[j]? with
    | some (.list xs) => if xs.length ≤ 1000000 then (match idx xs.length k with | some n => .ok () { st with sto := st.sto.set j (.list (xs.set n v)) } | none => .fail) else .fail
    | _ => .fail)
  | _, _ => .fail
section
variable {cx : Cx}
/-- a tuple taken apart -/
def asgAll : List (V → PM Unit) → List V → PM Unit
  | [], [] => PM.pure ()
  | g :: gs, v :: vs => PM.bind (g v) fun _ => asgAll gs vs
  | _, _ => PM.fail
def unpackP (gs : List (V → PM Unit)) : V → PM Unit
  | .obj j => fun st => match st.sto[j]? with
    | some (.tuple xs) => if xs.length = gs.length then asgAll gs xs st else .fail
    | _ => .fail
  | _ => PM.fail
structure SimGs (cx : Cx) (elts : List Expr) (gs : List (V → PM Unit)) : Prop where
  len : (assignEach elts cx.env).length = gs.length
  star : (assignEach elts cx.env).findIdx? (·.1) = none
  run : PL cx (fun Vs => assignInOrder ((assignEach elts cx.env).map (·.2)) Vs) (asgAll gs) UR
theorem sim_tgts_nil : SimGs cx [] [] := ⟨rfl, rfl, by
  intro ρ hid st s x vs Vs hv v st' h
  cases hv with
  | nil => cases h; exact wpAny_pure ⟨ρ, pre_refl ρ, x, trivial⟩
  | cons _ _ => cases h⟩
theorem sim_tgts_cons {e : Expr} {elts : List Expr} {g : V → PM Unit} {gs : List (V → PM Unit)} (h1 : SimG cx e g) (h2 : SimGs cx elts gs) (he : assignEach (e :: elts) cx.env = (false, assign e cx.env) :: assignEach elts cx.env) : SimGs cx (e :: elts) (g :: gs) := by
  refine ⟨by rw [he, List.length_cons, List.length_cons, h2.len], by rw [he, List.findIdx?_cons]; simp [h2.star], ?_⟩
  intro ρ hid st s x vs Vs hv v st' h
  cases hv with
  | nil => cases h
  | cons y t =>
    obtain ⟨_, st1, e1, h3⟩ := bind_ok h
    rw [he]
    show wpAny _ _ (assignInOrder (assign e cx.env :: (assignEach elts cx.env).map (·.2)) _) _ _ _
    unfold assignInOrder
    refine wpAny_bind (wpAny_holding (wp_seq (h1 ρ hid st s x _ _ y () st1 e1) fun _ s1 ρ1 p1 r1 _ => ?_))
    exact wp_seq (h2.run ρ1 hid st1 s1 r1 _ _ (VRs.mono p1 t) () st' h3) fun _ s2 ρ2 p2 r2 _ => ⟨ρ2, pre_trans p1 p2, r2, trivial⟩
theorem sim_unpack (ok : cx.Ok) {elts : List Expr} {k : Nat} {pos : Pos} {gs : List (V → PM Unit)} (h : SimGs cx elts gs) : SimG cx (.Tuple elts k pos) (unpackP gs) := by
  intro ρ hid st s x a A ha v st' e
  unfold unpackP at e
  split at e
  · rename_i j
    obtain ⟨p, hp, rfl⟩ := vr_obj ha
    split at e
    · rename_i xs hj
      split at e
      · rename_i hl
        obtain ⟨fz, led, m, mloc, x'⟩ := id x
        obtain ⟨Xs, n, g1, g2⟩ := x'.tuple_at hj hp
        show wpAny cx.M cx.A (assign (.Tuple elts k pos) cx.env (.ref p.1)) _ _ s
        rw [arm_assign_Tuple]
        refine wpAny_bind (wpAny_standAt (wpAny_unpack_tuple ok.handled ⟨_, (x'.N _ g2).1, rfl, _, rfl⟩ (by rw [h.len, List.size_toArray, ← g1.length, hl]) h.star fun h' he => ?_))
        exact h.run ρ hid st _ (x.grow (tk := s.toks) fun b o e => he b o (Nat.ne_of_lt (Heap.lt_size e)) e) xs _ g1 v st' e
      · cases e
    · cases e
  · cases e
end
end Mine
namespace Mine
section
variable {cx : Cx}
theorem str_toArr_nil {l : List Nat} (h : ((⟨l.toArray⟩ : Str).length == 0) = true) : l = [] := by
  rw [str_len] at h
  cases l with
  | nil => rfl
  | cons a r => simp at h
theorem str_made {x y : List Nat} {t u : Tok} {s : Shared} {Q : Value → Shared → Prop} (hl : x.length + y.length ≤ 1000000) (h : ∀ t' tk, Q (.str ⟨(x ++ y).toArray⟩ t') { s with toks := tk }) :
    (if (⟨x.toArray⟩ : Str).length == 0 then Made.val (.str ⟨y.toArray⟩ u) else if (⟨y.toArray⟩ : Str).length == 0 then Made.val (.str ⟨x.toArray⟩ t) else Made.str ((⟨x.toArray⟩ : Str) ++ (⟨y.toArray⟩ : Str))).post Q s := by
  split
  · rename_i e
    cases str_toArr_nil e
    exact h u s.toks
  · split
    · rename_i e
      cases str_toArr_nil e
      have := h t s.toks
      rw [List.append_nil] at this
      exact this
    · rw [str_app]
      refine ⟨?_, h s.toks _⟩
      rw [str_len, List.length_append]
      exact Nat.le_trans hl (by decide)
theorem p_add : P2 cx (binaryOp .Add) pAdd VR := by
  intro ρ hid st s x a A b B ha hb v st' h
  unfold pAdd at h
  split at h
  · obtain ⟨t, rfl⟩ := vr_int ha; obtain ⟨u, rfl⟩ := vr_int hb
    cases h
    exact PyProof.Rows.add_int (fin_toks x (.int _ _))
  · rename_i p q
    have hp := vr_ok ha; have hq := vr_ok hb
    obtain ⟨t, rfl⟩ := vr_str ha; obtain ⟨u, rfl⟩ := vr_str hb
    split at h
    · rename_i hl
      cases h
      exact lf x.pos (PySem.P.add_str (str_made hl fun t' tk htk => fin_toks x (.str _ t' (okS_append hp hq))))
    · cases h
  · rename_i i j
    obtain ⟨p, hp, rfl⟩ := vr_obj ha; obtain ⟨q, hq, rfl⟩ := vr_obj hb
    split at h
    · rename_i xs ys e1 e2
      obtain ⟨fz, led, m, mloc, r⟩ := id x
      obtain ⟨Xs, n1, v1, m1⟩ := r.list_at e1 hp
      obtain ⟨Ys, n2, v2, m2⟩ := r.list_at e2 hq
      unfold allocList at h
      split at h
      · rename_i hl
        cases h
        refine PyProof.Rows.add_lists r.F r.N (News.isList r.N m1) (News.isList r.N m2) (fun h' F' N' => ?_) ?_
        · refine ⟨ρ ++ [(s.heap.objs.size, s.heap.objs.size)], List.prefix_append _ _, RelD.rel (r.go (tk := s.toks) F' N' (r.B.alloc (news_fresh r.N) (o := .list (xs ++ ys)) ⟨Xs ++ Ys, 0, (vrs_append v1 v2).mono (List.prefix_append _ _), .head _⟩)), ?_⟩
          have := VR.obj (alloc_get ρ (s.heap.objs.size, s.heap.objs.size))
          rw [r.B.len] at this
          exact this
        · rw [← vrs_length v1, ← vrs_length v2, ← List.length_append]
          exact Nat.le_trans hl (by decide)
      · cases h
    · cases h
  · cases h
/-- += on names: ints and texts -/
def pIAdd : V → V → PM V
  | .int a, .int b => PM.pure (.int (a + b))
  | .str a, .str b => fun st => if a.length + b.length ≤ 1000000 then .ok (.str (a ++ b)) st else .fail
  | _, _ => PM.fail
/-- range of one, two, three ints -/
def cRange : List V → PM V
  | [.int n] => alloc (.range 0 n 1)
  | [.int a, .int b] => alloc (.range a b 1)
  | _ => PM.fail
theorem pc_range : PC cx (.type "range") cRange := by
  intro ρ hid st s x vs Vs hv v st' h
  unfold cRange at h
  split at h
  · obtain ⟨A, rfl, a1⟩ := vrs_one hv
    obtain ⟨t, rfl⟩ := vr_int a1
    cases h
    obtain ⟨r1, r2⟩ := rel_push (tk := s.toks + 1 + 1) x (ob := { cls := .type "range", data := .fields #[.int 0 s.toks, .int _ t, .int 1 (s.toks + 1)] }) (o := .range 0 _ 1) rfl fun fz led => ⟨_, _, _, .int _ _, .int _ _, .int _ _, .head _⟩
    exact call_range_1 ⟨_, List.prefix_append _ _, r1, r2⟩
  · obtain ⟨A, B, rfl, a1, a2⟩ := vrs_two hv
    obtain ⟨t, rfl⟩ := vr_int a1; obtain ⟨u, rfl⟩ := vr_int a2
    cases h
    obtain ⟨r1, r2⟩ := rel_push (tk := s.toks + 1) x (ob := { cls := .type "range", data := .fields #[.int _ t, .int _ u, .int 1 s.toks] }) (o := .range _ _ 1) rfl fun fz led => ⟨_, _, _, .int _ _, .int _ _, .int _ _, .head _⟩
    exact call_range_2 ⟨_, List.prefix_append _ _, r1, r2⟩
  · cases h
/-- the small forms of the signs that we know -/
def lowP (c : Nat) : Nat := if 65 ≤ c ∧ c ≤ 90 then c + 32 else if c = 201 then 233 else if c = 1046 then 1078 else if c = 7838 then 223 else if c = 8490 then 107 else c
def lowKnown (c : Nat) : Bool := decide (c < 128) || [201, 233, 1046, 1078, 7838, 223, 8490].contains c
theorem lowAscii : ∀ c, c < 128 → Unicode.lowerOf c = [lowP c] := by decide +kernel
theorem lowRest : ∀ c ∈ [201, 233, 1046, 1078, 7838, 223, 8490], Unicode.lowerOf c = [lowP c] := by decide +kernel
theorem lowKnown_of {c : Nat} (h : lowKnown c = true) : Unicode.lowerOf c = [lowP c] ∧ c ≠ 0x3A3 ∧ lowP c < 1114112 := by
  unfold lowKnown at h
  rw [Bool.or_eq_true] at h
  rcases h with h | h
  · have h' : c < 128 := by simpa using h
    refine ⟨lowAscii c h', by omega, ?_⟩
    unfold lowP; repeat' split
    all_goals omega
  · have h' : c ∈ [201, 233, 1046, 1078, 7838, 223, 8490] := by simpa using h
    refine ⟨lowRest c h', ?_, ?_⟩
    · rintro rfl; revert h'; decide
    · have : ∀ c ∈ [201, 233, 1046, 1078, 7838, 223, 8490], lowP c < 1114112 := by decide
      exact this c h'
theorem lower_known {l : List Nat} (h : l.all lowKnown = true) : Txt.lower ⟨l.toArray⟩ = ⟨(l.map lowP).toArray⟩ := by
  unfold Txt.lower
  rw [placed_single ⟨l.toArray⟩ _ lowP fun i c hc => by
    have hc' : l.toArray[i]? = some c := by simpa using hc
    have hm : lowKnown c = true := List.all_eq_true.mp h c (List.mem_of_getElem? hc)
    obtain ⟨h1, h2, _⟩ := lowKnown_of hm
    unfold Unicode.lowerAt
    rw [hc']
    have hne : (c == 0x3A3) = false := by rw [beq_eq_false_iff_ne]; exact h2
    simp only [hne, Bool.false_and, Bool.false_eq_true, if_false]
    exact h1]
  simp
def cLower : List V → PM V
  | [.str l] => fun st => if l.length ≤ 1000000 ∧ l.all lowKnown = true then .ok (.str (l.map lowP)) st else .fail
  | _ => PM.fail
theorem pc_lower : PC cx (.builtin "str.lower") cLower := by
  intro ρ hid st s x vs Vs hv v st' h
  unfold cLower at h
  split at h
  · rename_i l
    obtain ⟨A, rfl, a1⟩ := vrs_one hv
    obtain ⟨t, rfl⟩ := vr_str a1
    split at h
    · rename_i hl
      cases h
      have e := lower_known hl.2
      refine SC.lower ?_ ?_
      · rw [e, str_len, List.length_map]
        have := hl.1
        have h0 : (1000000 : Nat) ≤ sizeLine := by decide
        simp only [Builtin.Str.tooLong]
        simp
        omega
      · rw [e]
        refine fin_toks x (.str _ _ ?_)
        intro c hc
        obtain ⟨d, hd, rfl⟩ := List.mem_map.mp hc
        exact (lowKnown_of (List.all_eq_true.mp hl.2 d hd)).2.2
    · cases h
  · cases h
def splitL (c : Nat) : List Nat → List (List Nat)
  | [] => [[]]
  | x :: r => if x = c then [] :: splitL c r else match splitL c r with
    | [] => [[x]]
    | p :: ps => (x :: p) :: ps
theorem splitL_ne (c : Nat) (l : List Nat) : splitL c l ≠ [] := by
  cases l with
  | nil => simp [splitL]
  | cons a r =>
    unfold splitL
    split
    · simp
    · split <;> simp
theorem splitL_app (c : Nat) (rest : List Nat) : ∀ p : List Nat, c ∉ p → splitL c (p ++ c :: rest) = p :: splitL c rest
  | [], _ => by simp [splitL]
  | a :: r, h => by
    have h1 : a ≠ c := fun e => h (by rw [e]; exact .head _)
    rw [List.cons_append, splitL, if_neg h1, splitL_app c rest r fun e => h (.tail _ e)]
theorem splitL_free (c : Nat) : ∀ p : List Nat, c ∉ p → splitL c p = [p]
  | [], _ => rfl
  | a :: r, h => by
    have h1 : a ≠ c := fun e => h (by rw [e]; exact .head _)
    rw [splitL, if_neg h1, splitL_free c r fun e => h (.tail _ e)]
theorem split_unique (c : Nat) : ∀ (ps : List Str), ps ≠ [] → (∀ p ∈ ps, c ∉ p.cps.toList) → splitL c (Str.join ⟨#[c]⟩ ps).cps.toList = ps.map (·.cps.toList)
  | [], h, _ => absurd rfl h
  | [p], _, hf => by
    show splitL c p.cps.toList = _
    rw [splitL_free c _ (hf p (.head _))]
    rfl
  | p :: q :: r, _, hf => by
    have ih := split_unique c (q :: r) (by simp) fun z hz => hf z (.tail _ hz)
    show splitL c ((p ++ (⟨#[c]⟩ : Str)) ++ Str.join ⟨#[c]⟩ (q :: r)).cps.toList = _
    have e : ((p ++ (⟨#[c]⟩ : Str)) ++ Str.join ⟨#[c]⟩ (q :: r)).cps.toList = p.cps.toList ++ c :: (Str.join ⟨#[c]⟩ (q :: r)).cps.toList := by
      show ((p.cps ++ #[c]) ++ (Str.join ⟨#[c]⟩ (q :: r)).cps).toList = _
      simp
    rw [e, splitL_app c _ _ (hf p (.head _)), ih]
    rfl
theorem split_eq (l : List Nat) (c : Nat) : Txt.split ⟨l.toArray⟩ ⟨#[c]⟩ = (splitL c l).map fun p => ⟨p.toArray⟩ := by
  have h1 := StrLaws.join_split ⟨l.toArray⟩ ⟨#[c]⟩
  have h2 := StrLaws.split_free ⟨l.toArray⟩ c
  have h3 : Txt.split ⟨l.toArray⟩ ⟨#[c]⟩ ≠ [] := by
    have := PyProof.Rows.split_pos ⟨l.toArray⟩ ⟨#[c]⟩
    intro e; rw [e] at this; simp at this
  have h4 := split_unique c _ h3 h2
  rw [h1] at h4
  have h5 : splitL c l = (Txt.split ⟨l.toArray⟩ ⟨#[c]⟩).map (·.cps.toList) := by simpa using h4
  rw [h5, List.map_map]
  have : ((fun p : List Nat => (⟨p.toArray⟩ : Str)) ∘ fun x : Str => x.cps.toList) = id := by
    funext x; cases x; simp
  rw [this, List.map_id]
theorem splitL_mem (c : Nat) : ∀ (l p : List Nat), p ∈ splitL c l → ∀ a ∈ p, a ∈ l
  | [], p, h, a, ha => by
    simp only [splitL, List.mem_singleton] at h
    subst h; exact ha
  | x :: r, p, h, a, ha => by
    unfold splitL at h
    split at h
    · rcases List.mem_cons.mp h with rfl | h
      · cases ha
      · exact .tail _ (splitL_mem c r p h a ha)
    · split at h
      · rename_i e; exact absurd e (splitL_ne c r)
      · rename_i q qs e
        rcases List.mem_cons.mp h with rfl | h
        · rcases List.mem_cons.mp ha with rfl | ha
          · exact .head _
          · exact .tail _ (splitL_mem c r q (by rw [e]; exact .head _) a ha)
        · exact .tail _ (splitL_mem c r p (by rw [e]; exact .tail _ h) a ha)
theorem vrs_strs {ρ : Map} : ∀ {ps : List (List Nat)} {l : List (Str × Tok)}, (∀ p ∈ ps, okS p) → l.map (·.1) = ps.map (fun p => (⟨p.toArray⟩ : Str)) → VRs ρ (ps.map V.str) (strValues l)
  | [], [], _, _ => .nil
  | [], _ :: _, _, h => by cases h
  | _ :: _, [], _, h => by cases h
  | p :: ps, q :: l, ho, h => by
    simp only [List.map_cons, List.cons.injEq] at h
    refine .cons ?_ (vrs_strs (fun z hz => ho z (.tail _ hz)) h.2)
    show VR ρ (.str p) (.str q.1 q.2)
    rw [h.1]
    exact .str p q.2 (ho p (.head _))
def cSplit : List V → PM V
  | [.str l, .str [c]] => fun st => if l.length ≤ 1000000 then alloc (.list ((splitL c l).map V.str)) st else .fail
  | _ => PM.fail
theorem pc_split : PC cx (.builtin "str.split") cSplit := by
  intro ρ hid st s x vs Vs hv v st' h
  unfold cSplit at h
  split at h
  · rename_i l c
    obtain ⟨A, B, rfl, a1, a2⟩ := vrs_two hv
    have hl' := vr_ok a1
    obtain ⟨t, rfl⟩ := vr_str a1; obtain ⟨u, rfl⟩ := vr_str a2
    split at h
    · rename_i hl
      cases h
      obtain ⟨fz, led, m, mloc, r⟩ := id x
      refine lf x.pos (PyProof.Rows.splitN1 r.F r.N rfl (fun q h' k e F' N' htk => ?_) ?_)
      · have e' : q.map (·.1) = (splitL c l).map fun p => (⟨p.toArray⟩ : Str) := e.trans (split_eq l c)
        refine ⟨ρ ++ [(s.heap.objs.size, s.heap.objs.size)], List.prefix_append _ _, RelD.rel (r.go (tk := k) F' N' (r.B.alloc (news_fresh r.N) (o := .list ((splitL c l).map V.str)) ⟨strValues q, 0, vrs_strs (fun p hp a ha => hl' a (splitL_mem c l p hp a ha)) e', .head _⟩)), ?_⟩
        have := VR.obj (alloc_get ρ (s.heap.objs.size, s.heap.objs.size))
        rw [r.B.len] at this
        exact this
      · rw [str_len]
        exact Nat.le_trans (Nat.add_le_add_right hl 2) (by decide)
    · cases h
  · cases h
def strsOf : List V → Option (List (List Nat))
  | [] => some []
  | .str l :: r => (strsOf r).map (l :: ·)
  | _ => none
theorem strsOf_eq : ∀ {vs : List V} {ls : List (List Nat)}, strsOf vs = some ls → vs = ls.map V.str
  | [], ls, h => by cases h; rfl
  | .str l :: r, ls, h => by
    unfold strsOf at h
    obtain ⟨x, hx, rfl⟩ := Option.map_eq_some_iff.mp h
    rw [strsOf_eq hx]; rfl
  | .none :: _, _, h => by cases h
  | .bool _ :: _, _, h => by cases h
  | .int _ :: _, _, h => by cases h
  | .byt _ :: _, _, h => by cases h
  | .obj _ :: _, _, h => by cases h
  | .glob _ :: _, _, h => by cases h
theorem strsOf_map : ∀ ls : List (List Nat), strsOf (ls.map V.str) = some ls
  | [] => rfl
  | l :: r => by rw [List.map_cons, strsOf, strsOf_map r]; rfl
end
end Mine
namespace Mine
section
variable {cx : Cx}
/-- the law's own argument: a list of ints that stood before -/
def Old (cx : Cx) (a : Addr) (xs : List Int) : Prop := ∃ Vs : List Value, cx.h₀.IsList a Vs.toArray ∧ IntsAre Vs xs
theorem ints_vrs {ρ : Map} : ∀ {Vs : List Value} {xs : List Int}, IntsAre Vs xs → VRs ρ (xs.map V.int) Vs
  | _, _, .nil => .nil
  | _, _, .cons _ _ t => .cons (.int _ _) (ints_vrs t)
theorem isList_keep {h h' : Heap} {a : Addr} {vs : Array Value} (x : h.IsList a vs) (k : ∀ b o, h.get? b = some o → h'.get? b = some o) : h'.IsList a vs := by
  obtain ⟨o, ho, r⟩ := x
  exact ⟨o, k _ _ ho, r⟩
theorem envOfC_inj {qual : Str} {scope : Scope} {f : Addr} {cdv : Value} {L' : Addr} (x y : Str) (c : Addr) (hx : (envOfC qual scope L' f cdv).cells.lookup x = some c) (hy : (envOfC qual scope L' f cdv).cells.lookup y = some c) : x = y := by
  have h := (cellsFrom_addr scope.names (L' + 1) [] (fun _ h => nomatch h) .nil).1
  have h1 := lookup_mem (l := cellsFrom (L' + 1) scope.names []) hx
  have h2 := lookup_mem (l := cellsFrom (L' + 1) scope.names []) hy
  generalize cellsFrom (L' + 1) scope.names [] = l at h h1 h2
  induction l with
  | nil => cases h1
  | cons a r ih =>
    rw [List.map_cons, List.nodup_cons] at h
    rcases List.mem_cons.mp h1 with e | e <;> rcases List.mem_cons.mp h2 with e' | e'
    · exact (Prod.mk.inj (e.trans e'.symm)).1
    · exact absurd (List.mem_map_of_mem (f := (·.2)) e') (by rw [← e] at h; exact h.1)
    · exact absurd (List.mem_map_of_mem (f := (·.2)) e) (by rw [← e'] at h; exact h.1)
    · exact ih h.2 e e'
def iterG (a : Addr) (xs : List Int) : V → PM (Src × List V)
  | .glob (.ref b) => if b = a then PM.pure (none, xs.map V.int) else PM.fail
  | _ => PM.fail
/-- the first env of all: one parameter, no cell; the tokens that stand then are not none -/
theorem newEnv_one {M : Model} {A : Around} {E : Value → Shared → Prop} {s : Shared} {scope : Scope} {globals : Addr} {n : Str} {v : Value} {qual : Str} {func : Option Addr} {code : Value} {builtins : Addr} {Q : Env → Shared → Prop}
    (hk : scope.kind = .function) (hl : scope.names.lookup n = some .local)
    (hQ : ∀ env, env = newEnv scope s.heap.objs.size globals (cellsFrom (s.heap.objs.size + 1) scope.names []) qual func code none builtins →
      ∀ s', InCallC s env.locals (bindL env.kindOf [(n, v)] fun _ => none) env.cells (bindC env.kindOf [(n, v)] fun _ => none) s' → 0 < s'.toks → Q env s') :
    wpAny M A (newFunctionEnv scope globals [] [(n, v)] qual func code none builtins) Q E s := by
  simp only [newFunctionEnv, Option.isSome_none, Bool.false_eq_true, if_false]
  refine wpAny_bind (wpAny_alloc ?_)
  refine wpAny_bind (wpAny_layCells _ (fun name kind cells => by cases hkc : kind == NameKind.cell <;> simp [hkc]) _ _ _ _ ?_)
  have ok := cellsFrom_ok scope.names (s.heap.push { cls := .type "frame", data := .dict #[] }) (s.heap.objs.size + 1) [] ⟨fun _ _ hm => (nomatch hm), List.Pairwise.nil⟩ (by rw [Heap.size_push]; exact Nat.le_refl _)
  rw [Heap.size_push] at ok
  rw [show ({ s with heap := s.heap.push { cls := .type "frame", data := .dict #[] } } : Shared).heap.objs.size = s.heap.objs.size + 1 from Heap.size_push ..]
  have x : InCallC s (newEnv scope s.heap.objs.size globals (cellsFrom (s.heap.objs.size + 1) scope.names []) qual func code none builtins).locals (fun _ => none) (newEnv scope s.heap.objs.size globals (cellsFrom (s.heap.objs.size + 1) scope.names []) qual func code none builtins).cells (fun _ => none)
      { s with heap := pushCells (s.heap.push { cls := .type "frame", data := .dict #[] }) scope.names } :=
    ⟨⟨⟨_, _, rfl⟩, (Heap.Ns.new s.heap (.type "frame")).keeps (pushCells_keeps _ _), fun b o e => pushCells_keeps _ _ b o (Heap.get?_push_of_some _ e), Nat.le_refl _⟩,
      fun n c hc => (ok.empty n c (mem_of_lookup hc)).1, ok.apart, fun n c hm => (ok.empty n c hm).2⟩
  refine wpAny_bind ?_
  rw [List.forIn_cons]
  refine wpAny_bind (wpAny_bind (wpAny_storeName_local hl x.toInCall.ns (fun h' hn' hs' => wpAny_pure ?_) (by dsimp only; rw [hk]; rfl)))
  refine wpAny_pure (wpAny_pure (hQ _ rfl _ ⟨⟨⟨_, _, rfl⟩, ?_, fun b o e => ?_, x.toInCall.fresh⟩, fun k c hc => ?_, x.apart, x.above⟩ (Nat.succ_pos _)))
  · unfold bindL bindL
    rw [if_pos (show (newEnv scope s.heap.objs.size globals (cellsFrom (s.heap.objs.size + 1) scope.names []) qual func code none builtins).kindOf n = _ from hl)]
    exact hn'
  · exact hs'.extBut b o (Nat.ne_of_lt (Nat.lt_of_lt_of_le (Heap.lt_size e) x.toInCall.fresh)) (x.toInCall.keep b o e)
  · unfold bindC bindC
    rw [if_pos (show (newEnv scope s.heap.objs.size globals (cellsFrom (s.heap.objs.size + 1) scope.names []) qual func code none builtins).kindOf n = _ from hl)]
    exact (x.cell k c hc).sameBut hs' (Nat.ne_of_gt (x.above k c (mem_of_lookup hc)))
theorem call_first {prog : Program} {w : World} {A : Around} {R : Result → Shared → Prop} {s : Shared} {fd : FuncData} {body : List Stmt} {f : Addr} {fo : Obj} {args : Args} {n : Str} {v : Value}
    (hroom : A.depth < recursionLimit) (ho : s.heap.get? f = some fo) (hd : fo.data = .func fd) (hbd : fd.body = .stmts body) (hcl : fd.closure = []) (hgl : fd.globals = mainGlobals) (hbn : fd.builtins = builtinsNs) (hlim : s.heap.NoLimit) (hcd : s.heap.CodeRec fd.code fd.qualname)
    (hbind : bindArgs fd args = pure [(n, v)]) (hkind : fd.scope.names.lookup n = some .local)
    (hnd : ((cellsFrom 0 fd.scope.names []).map (·.1)).Nodup)
    (h : ∀ h₁ tk cells, 0 < tk → Fr s.heap s.heap.objs.size h₁ (bindL (envOfC fd.qualname fd.scope s.heap.objs.size f fd.code).kindOf [(n, v)] fun _ => none) → News s.heap s.heap.objs.size h₁ cells →
      CellsAre (bindC (envOfC fd.qualname fd.scope s.heap.objs.size f fd.code).kindOf [(n, v)] fun _ => none) (cellsFrom (s.heap.objs.size + 1) fd.scope.names []) cells →
      wpAny (model prog w) (A.deeper (envOfC fd.qualname fd.scope s.heap.objs.size f fd.code)) (execs body (envOfC fd.qualname fd.scope s.heap.objs.size f fd.code))
        (fun fl s' => R (.ok (.ret (match fl with | .ret v => v | _ => .none))) s') (fun _ _ => False) { s with heap := h₁, toks := tk })
    (hco : fd.scope.isCoroutine = false) (hgen : fd.scope.isGenerator = false) (hk : fd.scope.kind = .function) : codeAny (model prog w) A (.call (.ref f) args) R s := by
  obtain ⟨name, qualname, params, bd, scope, globals, closure, defaults, kwdefaults, doc, pyModule, annotations, code, closureTuple, builtins⟩ := fd
  dsimp only at *
  subst hbd hcl hgl hbn
  refine codeAny_call_function hroom ho hd hco hgen rfl hcd ?_
  rw [hbind]
  refine wpAny_pure (newEnv_one hk hkind fun env' he s' x htk => ?_)
  subst he
  refine ⟨hlim.keeps x.toInCall.keep, codeAny_func ?_⟩
  obtain ⟨h₁, tk, rfl, _⟩ := x.done
  obtain ⟨cells, NC, Y⟩ := Cl.news (h₀ := s.heap) (Nat.le_refl _) fun n c hm => ⟨x.cell n c (lookup_of_mem_nodup (cellsFrom_names scope.names 0 (s.heap.objs.size + 1) [] [] rfl ▸ hnd) hm), x.above n c hm⟩
  exact wpAny_mono (h h₁ tk cells htk ⟨x.toInCall.ns, x.toInCall.keep, Nat.le_refl _⟩ NC Y) (fun fl s' hl => hl) fun _ _ y => y.elim
/-- no function is made in the law's texts -/
def lam0 : FuncBody × Arguments × Scope × Str := ⟨.stmts [], ⟨[], [], none, [], [], none, []⟩, ⟨.function, [], false, false, []⟩, Str.ofString ""⟩
end
end Mine
namespace Mine
def isStarred : Expr → Bool
  | .Starred .. => true
  | _ => false
theorem star_plain {e : Expr} {es : List Expr} {env : Env} (h : isStarred e = false) : starEach (e :: es) env = (false, eval e env) :: starEach es env := by
  cases e <;> first | rfl | cases h
theorem plain_nil {pos : Pos} {env : Env} : (backTo pos (starEach [] env)).any (·.1) = false := rfl
theorem plain_cons {pos : Pos} {e : Expr} {es : List Expr} {env : Env} (h : isStarred e = false) (t : (backTo pos (starEach es env)).any (·.1) = false) : (backTo pos (starEach (e :: es) env)).any (·.1) = false := by
  rw [star_plain h]
  show (false || (backTo pos (starEach es env)).any (·.1)) = false
  rw [t]; rfl
theorem call_name {x : Str} {p pos : Pos} {es : List Expr} {env : Env} : eval (.Call (.Name x p) es [] pos) env = (eval (.Name x p) env >>= fun fv => callWith pos fv [] (backTo pos (starEach es env)) []) := rfl
def plainBase : Expr → Bool
  | .Call (.Name _ _) [] [] _ => false
  | _ => true
theorem base_plain {o : Expr} {name : Str} {env : Env} {t : Sem Value} (h : plainBase o = true) : attributeBase o name env t = t := by
  unfold attributeBase
  split
  · cases h
  · rfl
theorem form_few : ∀ {l : List (Bool × Sem Value)} {n : Nat}, l.any (·.1) = false → n < 30 → methodCallForm n l [] = true := by
  intro l n h1 h2
  unfold methodCallForm
  have : l.all (fun x => !x.1) = true := by
    rw [List.all_eq_true]
    intro x hx
    have := List.any_eq_false.mp h1 x hx
    simpa using this
  rw [this]
  simpa using h2
theorem meth_form {cx : Cx} {o : Expr} {name : Str} {apos pos : Pos} {es : List Expr} (hb : plainBase o = true) (hp : (backTo pos (starEach es cx.env)).any (·.1) = false) (hl : Nat.ble 30 es.length = false) (hline : (apos.endLine == pos.line) = true) :
    MethForm cx o name apos pos es (do return (← importBound o cx.env).getD true) := by
  unfold MethForm
  rw [arm_eval_Call, base_plain hb]
  have hl' : es.length + ([] : List Keyword).length < 30 := by
    have : ¬ 30 ≤ es.length := fun e => by rw [Nat.ble_eq_true_of_le e] at hl; cases hl
    simp; omega
  have hform : methodCallForm (es.length + ([] : List Keyword).length) (backTo pos (starEach es cx.env)) (backToKw pos (keywordEach [] cx.env)) = true := form_few hp hl'
  have hpos : methodCallPos true o cx.env apos pos = pure pos := by unfold methodCallPos; simp [hline]
  unfold methodCall
  rw [hform, hpos]
  rfl
section
variable {cx : Cx}
theorem sim_ML (ok : cx.Ok) {o : Expr} {name : Str} {bid : String} {apos pos : Pos} {es : List Expr} {mo : PM V} {ma : PM (List V)} {f : List V → PM V} (slot : Slot "list" name bid) (hty : typeOf (.builtin bid) = pure (.type "method_descriptor"))
    (hp : PC cx (.builtin bid) f) (ho : SimV cx (eval o cx.env) mo) (ha : SimL cx pos es ma) (hplain : (backTo pos (starEach es cx.env)).any (·.1) = false) (hb : plainBase o = true) (hl : Nat.ble 30 es.length = false) (hline : (apos.endLine == pos.line) = true) :
    SimV cx (eval (.Call (.Attribute o name apos) es [] pos) cx.env) (PM.bind mo fun v => PM.bind (isList v) fun _ => PM.bind ma fun vs => f (v :: vs)) :=
  sim_MethL ok slot hty hp ho ha hplain (meth_form hb hplain hl hline)
theorem sim_MS (ok : cx.Ok) {o : Expr} {name : Str} {bid : String} {apos pos : Pos} {es : List Expr} {mo : PM V} {ma : PM (List V)} {f : List V → PM V} (slot : Slot "str" name bid) (hty : typeOf (.builtin bid) = pure (.type "method_descriptor"))
    (hp : PC cx (.builtin bid) f) (ho : SimV cx (eval o cx.env) mo) (ha : SimL cx pos es ma) (hplain : (backTo pos (starEach es cx.env)).any (·.1) = false) (hb : plainBase o = true) (hl : Nat.ble 30 es.length = false) (hline : (apos.endLine == pos.line) = true) :
    SimV cx (eval (.Call (.Attribute o name apos) es [] pos) cx.env) (PM.bind mo fun v => PM.bind (isStr v) fun _ => PM.bind ma fun vs => f (v :: vs)) :=
  sim_MethS ok slot hty hp ho ha hplain (meth_form hb hplain hl hline)
theorem sim_MI (ok : cx.Ok) (g : Addr) {o : Expr} {n : String} {apos pos : Pos} {es : List Expr} {mo : PM V} {ma : PM (List V)} {f : List V → PM V} (hg : plainGet cx.K cx.C (Str.ofString n) = true)
    (hf : findIn cx.K (.ref cx.C) (Str.ofString n) = some (some (.ref g))) (ht : isFn cx.K (.ref g) = true) (hk : keepIn cx.K (.ref g) = true)
    (hp : PC cx (.ref g) f) (ho : SimV cx (eval o cx.env) mo) (ha : SimL cx pos es ma) (hplain : (backTo pos (starEach es cx.env)).any (·.1) = false) (hb : plainBase o = true) (hl : Nat.ble 30 es.length = false) (hline : (apos.endLine == pos.line) = true) :
    SimV cx (eval (.Call (.Attribute o (Str.ofString n) apos) es [] pos) cx.env) (PM.bind mo fun v => PM.bind (isInst n v) fun _ => PM.bind ma fun vs => f (v :: vs)) :=
  sim_MethI ok hg hf ht hk hp ho ha hplain (meth_form hb hplain hl hline)
end
end Mine
namespace Mine
section
variable {cx : Cx}
/-- the script: its length, an item, a cut, a copy -/
def cLenG (a : Addr) (xs : List Int) : List V → PM V
  | [.glob (.ref b)] => fun st => if b = a ∧ xs.length ≤ 1000000 then .ok (.int xs.length) st else .fail
  | _ => PM.fail
theorem old_list {a : Addr} {xs : List Int} (hO : Old cx a xs) {ρ : Map} {hid : Hd} {st : St} {s : Shared} (x : Rel cx ρ hid st s) : ∃ Vs : List Value, s.heap.IsList a Vs.toArray ∧ VRs ρ (xs.map V.int) Vs ∧ Vs.length = xs.length := by
  obtain ⟨Vs, h1, h2⟩ := hO
  obtain ⟨fz, led, m, mloc, r⟩ := x
  have := ints_vrs (ρ := ρ) h2
  exact ⟨Vs, isList_keep h1 r.F.keep, this, by rw [← this.length, List.length_map]⟩
def sliceG (a : Addr) (xs : List Int) (o l u : V) : PM V := fun st => match asPart l, asPart u with
  | some lo, some hi => (match o with
    | .glob (.ref b) => if b = a ∧ xs.length ≤ 1000000 then alloc (.list ((cut xs lo hi).map V.int)) st else .fail
    | _ => .fail)
  | _, _ => .fail
theorem cut_map {α β : Type} (f : α → β) (xs : List α) (lo hi : Option Int) : cut (xs.map f) lo hi = (cut xs lo hi).map f := by
  unfold cut
  rw [List.length_map, List.map_take, List.map_drop]
theorem sim_SliceG {a : Addr} {xs : List Int} (hO : Old cx a xs) {value : Expr} {lo up : Option Expr} {sp pos : Pos} {mo ml mu : PM V} (ho : SimV cx (eval value cx.env) mo) (hl : SimO cx lo ml) (hu : SimO cx up mu) :
    SimV cx (eval (.Subscript value (.Slice lo up none sp) pos) cx.env) (PM.bind mo fun o => PM.bind ml fun l => PM.bind mu fun u => sliceG a xs o l u) := by
  intro ρ hid st s x v st' h
  obtain ⟨o, st1, e1, h1⟩ := bind_ok h
  obtain ⟨b, st2, e2, h2⟩ := bind_ok h1
  obtain ⟨c, st3, e3, h3⟩ := bind_ok h2
  refine Subscript_ (wp_seq (ho ρ hid st s x o st1 e1) fun A s1 ρ1 p1 r1 v1 => ?_)
  rw [arm_eval_Slice]
  refine wpAny_bind (wp_seq (hl ρ1 hid st1 s1 r1 b st2 e2) fun B s2 ρ2 p2 r2 v2 => wpAny_bind (wpAny_holding (wp_seq (hu ρ2 hid st2 s2 r2 c st3 e3) fun C s3 ρ3 p3 r3 v3 => wpAny_bind (wpAny_holding (wpAny_pure ?_)))))
  refine wpAny_newObj_type ?_ (by size_fits)
  have pp := pre_trans p1 (pre_trans p2 p3)
  have vb := v2.mono p3
  unfold sliceG at h3
  split at h3
  · rename_i lo' hi' q1 q2
    have P1 := isPart vb q1
    have P2 := isPart v3 q2
    split at h3
    · rename_i d
      split at h3
      · rename_i hb
        obtain ⟨rfl, hlen⟩ := hb
        cases h3
        cases vr_glob v1
        have rg := rel_garbage r3 (ob := { cls := .type "slice", data := .fields #[B, C, .none] }) (tk := s3.toks) rfl
        obtain ⟨Vs, g1, g2, g3⟩ := old_list hO rg
        refine tail_any (T := "list") (by obtain ⟨o, ho, hc, _⟩ := g1; exact ⟨o, ho, hc⟩) PySem.F.slot_list_getitem.lookup ?_ (by with_unfolding_all rfl)
        refine wpAny_getItem_list_slice g1 (Heap.IsSliceOf.new ..) P1 P2 .none (by simp) ?_ (by rw [List.size_toArray, g3]; exact list_fits hlen)
        have e : slicePick Vs.toArray lo' hi' none = (cut Vs lo' hi').toArray := by
          rw [slicePick_plain]; unfold cut cutAt; simp
        rw [e]
        have hc := vrs_cut g2 lo' hi'
        rw [cut_map] at hc
        obtain ⟨r4, v4⟩ := rel_push rg (ob := listObj (cut Vs lo' hi') 0) (o := .list ((cut xs lo' hi').map V.int)) (tk := s3.toks) rfl fun fz led => ⟨_, 0, hc.mono (List.prefix_append _ _), .head _⟩
        exact ⟨_, pre_trans pp (List.prefix_append _ _), r4, v4⟩
      · cases h3
    · cases h3
  · cases h3
/-- a list made of a list, of a tuple, of the script -/
def cList : List V → PM V
  | [.obj i] => fun st => match st.sto[i]? with
    | some (.list xs) => if xs.length ≤ 1000000 then alloc (.list xs) st else .fail
    | some (.tuple xs) => if xs.length ≤ 1000000 then alloc (.list xs) st else .fail
    | _ => .fail
  | _ => PM.fail
/-- a list new in the heap enters the store -/
theorem rel_made {ρ : Map} {hid : Hd} {st : St} {s : Shared} (x : Rel cx ρ hid st s) {D : Addr} {c : Nat} {h' : Heap} {tk : Nat} {xs : List V} {Xs : List Value} (hk : ∀ b o, s.heap.get? b = some o → h'.get? b = some o) (hD : s.heap.objs.size ≤ D) (ho : h'.get? D = some (listObj Xs c)) (hv : VRs ρ xs Xs)
    (htk : 0 < tk := by first | assumption | exact Nat.succ_pos _ | exact Rel.pos (by assumption) | exact RelD.tk (by assumption)) :
    Rel cx (ρ ++ [(D, D)]) hid { st with sto := st.sto ++ [.list xs] } { s with heap := h', toks := tk } ∧ VR (ρ ++ [(D, D)]) (.obj st.sto.length) (.ref D) := by
  obtain ⟨fz, led, m, mloc, x⟩ := x
  have hfr : ∀ q ∈ led, q.1 ≠ D := fun q hq => Nat.ne_of_lt (Nat.lt_of_lt_of_le (Heap.lt_size (x.N q hq).1) hD)
  have F' : Fr cx.h₀ cx.L h' m := ⟨x.F.ns.keeps hk, fun b o e => hk b o (x.F.keep b o e), x.F.above⟩
  have N' : News cx.h₀ cx.L h' ((D, listObj Xs c) :: led) := fun q hq => by
    rcases List.mem_cons.mp hq with rfl | hq
    · refine ⟨ho, Nat.ne_of_gt (Nat.lt_of_lt_of_le x.F.ns.lt hD), ?_⟩
      cases e : cx.h₀.get? D with
      | none => rfl
      | some o' => exact absurd (Heap.lt_size (x.F.keep _ _ e)) (Nat.not_lt_of_le hD)
    · have := x.N q hq
      exact ⟨hk _ _ this.1, this.2⟩
  refine ⟨RelD.rel (x.go (tk := tk) F' N' (x.B.alloc hfr (o := .list xs) ⟨Xs, c, hv.mono (List.prefix_append _ _), .head _⟩)), ?_⟩
  have := VR.obj (alloc_get ρ (D, D))
  rw [x.B.len] at this
  exact this
theorem pc_list : PC cx (.type "list") cList := by
  intro ρ hid st s x vs Vs hv v st' h
  unfold cList at h
  split at h
  · rename_i i
    obtain ⟨A, rfl, ha⟩ := vrs_one hv
    obtain ⟨p, hp, rfl⟩ := vr_obj ha
    obtain ⟨fz, led, m, mloc, x'⟩ := id x
    split at h
    · rename_i xs hi
      split at h
      · rename_i hl
        cases h
        obtain ⟨Xs, n, g1, g2⟩ := x'.list_at hi hp
        refine call_list_seq (hsz := by rw [List.size_toArray, ← g1.length]; exact list_fits hl) p.1 (.inl rfl) (x'.N _ g2).1 rfl rfl fun h' c' hk hD => ?_
        obtain ⟨r1, r2⟩ := rel_made (tk := s.toks) x hk (Nat.le_refl _) hD g1
        exact ⟨_, List.prefix_append _ _, r1, r2⟩
      · cases h
    · rename_i xs hi
      split at h
      · rename_i hl
        cases h
        obtain ⟨Xs, n, g1, g2⟩ := x'.tuple_at hi hp
        refine call_list_seq (hsz := by rw [List.size_toArray, ← g1.length]; exact list_fits hl) p.1 (.inr rfl) (x'.N _ g2).1 rfl rfl fun h' c' hk hD => ?_
        obtain ⟨r1, r2⟩ := rel_made (tk := s.toks) x hk (Nat.le_refl _) hD g1
        exact ⟨_, List.prefix_append _ _, r1, r2⟩
      · cases h
    · cases h
  · cases h
/-- max, min of two ints; max of a list of ints -/
def intsOf : List V → Option (List Int)
  | [] => some []
  | .int i :: r => (intsOf r).map (i :: ·)
  | _ => none
def maxL : List Int → Int
  | [] => 0
  | [a] => a
  | a :: r => if maxL r > a then maxL r else a
def cMax : List V → PM V
  | [.int a, .int b] => PM.pure (.int (if b > a then b else a))
  | [.obj i] => fun st => match st.sto[i]? with
    | some (.list xs) => (match intsOf xs with | some l => if l ≠ [] then .ok (.int (maxL l)) st else .fail | none => .fail)
    | _ => .fail
  | _ => PM.fail
def cMin : List V → PM V
  | [.int a, .int b] => PM.pure (.int (if b < a then b else a))
  | _ => PM.fail
/-- products -/
theorem flat_reps (a : List Nat) : ∀ n : Nat, (List.replicate n (⟨a.toArray⟩ : Str).cps).foldl (· ++ ·) #[] = (List.flatten (List.replicate n a)).toArray := by
  have key : ∀ (n : Nat) (acc : List Nat), (List.replicate n (⟨a.toArray⟩ : Str).cps).foldl (· ++ ·) acc.toArray = (acc ++ List.flatten (List.replicate n a)).toArray := by
    intro n
    induction n with
    | zero => intro acc; simp
    | succ n ih =>
      intro acc
      rw [List.replicate_succ, List.foldl_cons, List.replicate_succ, List.flatten_cons]
      have : acc.toArray ++ (⟨a.toArray⟩ : Str).cps = (acc ++ a).toArray := by simp
      rw [this, ih]
      simp
  intro n
  have := key n []
  simpa using this
theorem okS_flat {a : List Nat} (h : okS a) (n : Nat) : okS (List.flatten (List.replicate n a)) := fun c hc => by
  obtain ⟨l, hl, hc⟩ := List.mem_flatten.mp hc
  rw [List.eq_of_mem_replicate hl] at hc
  exact h c hc
theorem p_mul : P2 cx (binaryOp .Mult) pMul VR := by
  intro ρ hid st s x a A b B ha hb v st' h
  unfold pMul at h
  split at h
  · obtain ⟨t, rfl⟩ := vr_int ha; obtain ⟨u, rfl⟩ := vr_int hb
    split at h
    · rename_i hs
      cases h
      exact p_mul_int x hs
    · cases h
  · rename_i a b
    have hok := vr_ok ha
    obtain ⟨t, rfl⟩ := vr_str ha; obtain ⟨u, rfl⟩ := vr_int hb
    split at h
    · rename_i hs
      cases h
      obtain ⟨h1, h2, h3⟩ := hs
      have hmul : a.length * b.toNat ≤ 1000 * 1000 := Nat.mul_le_mul h1 (by omega)
      refine lf x.pos (SB.mul ⟨?_, fun _ _ => ?_, fun _ _ => ?_⟩ fun t' k htk => ?_)
      · rw [decide_eq_false (by omega), decide_eq_false (by omega)]; rfl
      · rw [str_len]
        intro hgt
        by_cases hb0 : b = 0
        · subst hb0; omega
        · have hle : (1000 : Int) ≤ (2 ^ 63 - 1) / b := by
            rw [Int.le_ediv_iff_mul_le (by omega)]
            have : 1000 * b ≤ 1000 * 1000 := by omega
            omega
          omega
      · rw [str_len]
        unfold Builtin.Str.tooLong
        have : (1000000 : Nat) ≤ sizeLine := by decide
        exact decide_eq_false (by omega)
      · have e : Txt.mul ⟨a.toArray⟩ b = ⟨(List.flatten (List.replicate b.toNat a)).toArray⟩ := by
          unfold Txt.mul
          split
          · rename_i hlt
            have : b.toNat = 0 := by omega
            rw [this]; rfl
          · rw [flat_reps]
            split
            · rename_i hq
              rw [Bool.or_eq_true] at hq
              rcases hq with hq | hq
              · have : b.toNat = 1 := by have := eq_of_beq hq; omega
                rw [this]; simp
              · have : a = [] := str_toArr_nil hq
                subst this
                simp
            · rfl
        rw [e]
        exact fin_toks x (.str _ t' (okS_flat hok _))
    · cases h
  · cases h
theorem gives_gt_bi (p : Bool) (b : Int) (u : Tok) : Gives (Builtin.«int.__gt__» ⟨[.bool p, .int b u], []⟩) (.val (Value.bool ((fun x1 x2 => decide (x1 > x2)) (if p = true then (1 : Int) else 0) b))) :=
  .of_wp fun M A E s Q h => by obtain ⟨hp, g, d, tk, os⟩ := s; wp_walk; exact ⟨_, rfl, h⟩
theorem gives_lt_bi (p : Bool) (b : Int) (u : Tok) : Gives (Builtin.«int.__lt__» ⟨[.bool p, .int b u], []⟩) (.val (Value.bool ((fun x1 x2 => decide (x1 < x2)) (if p = true then (1 : Int) else 0) b))) :=
  .of_wp fun M A E s Q h => by obtain ⟨hp, g, d, tk, os⟩ := s; wp_walk; exact ⟨_, rfl, h⟩
theorem gt_bool_int {prog : Program} {w : World} {A : Around} {E : Value → Shared → Prop} {s : Shared} {Q : Value → Shared → Prop} {a : Bool} {b : Int} {u : Tok} (h : Q (.bool (decide (b < (if a then 1 else 0)))) s) : wpAny (model prog w) A (compareOp .Gt (.bool a) (.int b u)) Q E s := by
  show wpAny (model prog w) A (richCompare .Gt (.bool a) (.int b u)) Q E s
  refine SeqAt.rc_left_or (op := .Gt) (Ta := "bool") (Tb := "int") (id := "int.__gt__") (typeIs_bool' s a) (typeIs_int s b u) (by decide) F.sub_int_bool F.slot_bool_gt ?_ (.inl rfl)
  refine call_gives F.slot_bool_gt (typeIs_bool' s a) F.entry_int_gt (F.args_int_gt_2 _ _) (gives_gt_bi a b u) ?_
  exact ⟨nofun, h⟩
theorem gt_int_bool {prog : Program} {w : World} {A : Around} {E : Value → Shared → Prop} {s : Shared} {Q : Value → Shared → Prop} {a : Int} {t : Tok} {b : Bool} (h : Q (.bool (decide ((if b then 1 else 0) < a))) s) : wpAny (model prog w) A (compareOp .Gt (.int a t) (.bool b)) Q E s := by
  show wpAny (model prog w) A (richCompare .Gt (.int a t) (.bool b)) Q E s
  refine SeqAt.rc_sub_first_or (op := .Gt) (Ta := "int") (Tb := "bool") (id := "int.__lt__") (typeIs_int s a t) (typeIs_bool' s b) (by decide) F.sub_bool_int F.slot_bool_lt_refl ?_ (.inl rfl)
  refine call_gives F.slot_bool_lt_refl (typeIs_bool' s b) F.entry_int_lt (F.args_int_lt_2 _ _) (gives_lt_bi b a t) ?_
  exact ⟨nofun, h⟩
theorem p_gt : P2 cx (compareOp .Gt) pGt VR := by
  intro ρ hid st s x a A b B ha hb v st' h
  unfold pGt at h
  split at h
  · obtain ⟨t, rfl⟩ := vr_int ha; obtain ⟨u, rfl⟩ := vr_int hb
    cases h
    exact PyProof.Rows.gt_int (fin_same x (.bool _))
  · cases vr_bool ha; obtain ⟨u, rfl⟩ := vr_int hb
    cases h
    exact gt_bool_int (fin_same x (.bool _))
  · obtain ⟨t, rfl⟩ := vr_int ha; cases vr_bool hb
    cases h
    exact gt_int_bool (fin_same x (.bool _))
  · cases vr_bool ha; cases vr_bool hb
    cases h
    exact PyProof.Rows.gt_bool (fin_same x (.bool _))
  · cases h
/-- an assignment that takes a tuple apart -/
theorem sim_AssignTuple {elts : List Expr} {kk : Nat} {e : Expr} {tpos pos : Pos} {m : PM V} {g : V → PM Unit} (h : SimV cx (eval e cx.env) m) (hg : SimG cx (.Tuple elts kk tpos) g)
    (hs : swapsWithSole [.Tuple elts kk tpos] e pos.line cx.env = pure false) (hw : swappedStores [.Tuple elts kk tpos] e cx.env = pure none) :
    SimS cx (.Assign [.Tuple elts kk tpos] e pos) (PM.bind m fun v => PM.bind (g v) fun _ => PM.pure .next) := by
  intro ρ hid st s x v st' h0
  obtain ⟨a, st1, e1, h1⟩ := bind_ok h0
  obtain ⟨_, st2, e2, h2⟩ := bind_ok h1
  cases h2
  exact Assign_Tuple (wp_seq (h ρ hid st s x a st1 e1) fun A s1 ρ1 p1 r1 v1 => wp_seq (hg ρ1 hid st1 s1 r1 a A v1 () _ e2) fun _ s2 ρ2 p2 r2 _ => ⟨ρ2, pre_trans p1 p2, r2, .next⟩) hs hw
end
end Mine
namespace Mine
section
variable {cx : Cx}
theorem str_inj {a b : List Nat} (h : (⟨a.toArray⟩ : Str) = ⟨b.toArray⟩) : a = b := by
  have : a.toArray = b.toArray := congrArg Str.cps h
  simpa using this
end
end Mine
namespace Mine
section
variable {cx : Cx}
/-- objects of the ledger that do not change any more -/
theorem Bear.freeze {ρ : Map} {hid : Hd} {fz led : Led} {m mloc : Str → Option Value} {st : St} (B : Bear cx ρ hid fz led m mloc st) (hz : cx.fzn = true) (L : Led)
    (hL : ∀ q ∈ L, q ∈ led ∧ (∀ p ∈ ρ, q.1 ≠ p.1 ∧ q.1 ≠ p.2) ∧ (∀ r ∈ hid.h, r.1 ≠ q.1) ∧ (cx.env.locals ≠ cx.L → q.1 ≠ cx.env.locals)) : Bear cx ρ hid (L ++ fz) led m mloc st := by
  refine ⟨B.nd, B.cm, ?_, B.len, B.own, fun i o p h1 h2 => (B.obj i o p h1 h2).mono (pre_refl _) (fun _ h => List.mem_append_right _ h) fun _ _ h _ => h, B.sep, B.hin, B.hsep, B.cel, B.csep, fun q hq => ?_, fun q hq => List.mem_append_right _ (B.fz0 q hq), fun q hq r hr => ?_, fun q hq => ?_, (fun h => by rw [hz] at h; cases h), B.loc⟩
  · rcases B.ln with h | ⟨g1, o, es, ep, g2, g3, g4, g5, g6, g7, g8, g9⟩
    · exact .inl h
    · refine .inr ⟨g1, o, es, ep, g2, g3, g4, g5, g6, g7, fun q hq => ?_, g9⟩
      rcases List.mem_append.mp hq with hq | hq
      · exact (hL q hq).2.2.2 g1
      · exact g8 q hq
  · rcases List.mem_append.mp hq with hq | hq
    · exact (hL q hq).1
    · exact B.fin q hq
  · rcases List.mem_append.mp hr with hr | hr
    · exact fun e => (hL r hr).2.2.1 q hq e.symm
    · exact B.hfz q hq r hr
  · rcases List.mem_append.mp hq with hq | hq
    · exact (hL q hq).2.1
    · exact B.fsep q hq
/-- a function made: what it keeps -/
def valsOf (loc : String → Option V) : List String → Option (List V)
  | [] => some []
  | n :: r => match loc n, valsOf loc r with
    | some v, some vs => some (v :: vs)
    | _, _ => none
def mkClos (names : List String) : PM V := fun st => match st.sto[0]? with
  | some O.ctab => (match valsOf st.loc names with
    | some vs => alloc (.clos (names.zip vs)) st
    | none => .fail)
  | _ => .fail
theorem valsOf_get {loc : String → Option V} : ∀ {names : List String} {vs : List V}, valsOf loc names = some vs → ∀ {n : String} {v : V}, (names.zip vs).lookup n = some v → loc n = some v ∧ n ∈ names
  | [], vs, h, n, v, e => by cases h; simp at e
  | a :: r, vs, h, n, v, e => by
    unfold valsOf at h
    split at h
    · rename_i w ws h1 h2
      cases h
      rw [List.zip_cons_cons, List.lookup_cons] at e
      cases q : n == a with
      | true =>
        rw [q] at e
        cases e
        rw [beq_iff_eq] at q
        subst q
        exact ⟨h1, .head _⟩
      | false =>
        rw [q] at e
        have := valsOf_get h2 e
        exact ⟨this.1, .tail _ this.2⟩
    · cases h
structure LamOk (scope : Scope) (env : Env) (fr : List String) : Prop where
  free : (scope.names.all fun y => y.2 != .free || (env.cells.lookup y.1).isSome) = true
  frf : (fr.all fun n => scope.names.lookup (Str.ofString n) == some .free) = true
  frk : (fr.all fun n => env.kindOf (Str.ofString n) != some .local) = true
open Classical in
noncomputable def cellsIn (led : Led) (cl : List (Str × Addr)) : Led := led.filter fun q => decide (∃ x, (x, q.1) ∈ cl)
theorem mem_cellsIn {led : Led} {cl : List (Str × Addr)} {q : Addr × Obj} : q ∈ cellsIn led cl ↔ q ∈ led ∧ ∃ x, (x, q.1) ∈ cl := by
  unfold cellsIn
  simp only [List.mem_filter, decide_eq_true_eq]
/-- what the new function is -/
def MadeFd (cx : Cx) (scope : Scope) (cv : Value) (fd : FuncData) : Prop :=
  fd.body = cx.lam.1 ∧ fd.params = cx.lam.2.1 ∧ fd.scope = cx.lam.2.2.1 ∧ fd.qualname = cx.lam.2.2.2 ∧ fd.globals = mainGlobals ∧ fd.builtins = builtinsNs ∧ fd.defaults = .none ∧ fd.kwdefaults = .none ∧ fd.code = cv ∧ fd.closure = clOf scope cx.env
/-- the cells that a function made here keeps may be frozen -/
theorem cells_frozen {ρ : Map} {hid : Hd} {fz led : Led} {m mloc : Str → Option Value} {st : St} (B : Bear cx ρ hid fz led m mloc st) {scope : Scope} : ∀ q ∈ cellsIn led (clOf scope cx.env), q ∈ led ∧ (∀ p ∈ ρ, q.1 ≠ p.1 ∧ q.1 ≠ p.2) ∧ (∀ r ∈ hid.h, r.1 ≠ q.1) ∧ (cx.env.locals ≠ cx.L → q.1 ≠ cx.env.locals) := by
  intro q hq
  obtain ⟨h1, x, hx⟩ := mem_cellsIn.mp hq
  have hc := (clOf_mem hx).1
  refine ⟨h1, fun p hp => ⟨Ne.symm ((B.csep x _ hc).2 p hp).1, Ne.symm ((B.csep x _ hc).2 p hp).2⟩, (B.csep x _ hc).1, fun hl e => ?_⟩
  rcases B.ln with h | ⟨_, o, es, ep, g2, g3, g4, g5, g6, g7, g8, g9⟩
  · exact hl h.1
  · exact g9 x (by rw [hc, e])
theorem lam_of (ok : cx.Ok) {ρ : Map} {hid : Hd} {fz led : Led} {m mloc : Str → Option Value} {st : St} (B : Bear cx ρ hid fz led m mloc st) {scope : Scope} {fr : List String} {vs : List V} (hl : LamOk scope cx.env fr) (hsc : cx.lam.2.2.1 = scope) (hvs : valsOf st.loc fr = some vs) {fd : FuncData} {c' : Addr} {oc : Obj} (hfd : MadeFd cx scope (.ref c') fd)
    (hcm : ∃ t vs, oc.data = .fields vs ∧ vs[1]? = some (.str cx.lam.2.2.2 t)) {fz' : Led} (h1 : (c', oc) ∈ fz') (h2 : ∀ q ∈ cellsIn led (clOf scope cx.env), q ∈ fz') {ρ' : Map} (hρ : ρ <+: ρ') : Lam ρ' fz' cx.lam (fr.zip vs) fd := by
  obtain ⟨f1, f2, f3, f4, f5, f6, f7, f8, f9, f10⟩ := hfd
  refine ⟨f1, f2, f3, f4, f5, f6, f7, f8, ⟨c', oc, f9, h1, by rw [f4]; exact hcm⟩, fun n v e => ?_, fun n v e => ?_, fun x c e => ?_, fun x y c hx hy => ?_⟩
  · rw [hsc]
    exact beq_iff_eq.mp (List.all_eq_true.mp hl.frf n (valsOf_get hvs e).2)
  · obtain ⟨e1, e2⟩ := valsOf_get hvs e
    obtain ⟨W, w1, w2⟩ := B.loc n v e1
    have hk := List.all_eq_true.mp hl.frk n e2
    have hfree := beq_iff_eq.mp (List.all_eq_true.mp hl.frf n e2)
    rcases w2 with ⟨q, _⟩ | ⟨_, c, o, g1, g2, g3⟩
    · rw [q] at hk; simp at hk
    · have hcl := clOf_get (mem_lookup hfree) g1
      exact ⟨c, o, W, by rw [f10]; exact hcl, h2 _ (mem_cellsIn.mpr ⟨g2, _, lookup_mem hcl⟩), g3, w1.mono hρ⟩
  · rw [f10] at e
    obtain ⟨o, v, g1, g2⟩ := B.cel x c (clOf_lookup e)
    exact ⟨o, v, h2 _ (mem_cellsIn.mpr ⟨g1, x, lookup_mem e⟩), g2⟩
  · rw [f10] at hx hy
    exact ok.cinj x y c (clOf_lookup hx) (clOf_lookup hy)
theorem set_self {α : Type} {l : List α} {i : Nat} {o : α} (h : l[i]? = some o) : l.set i o = l := by
  apply List.ext_getElem?
  intro j
  by_cases q : i = j
  · subst q
    have hlt : i < l.length := by
      rcases Nat.lt_or_ge i l.length with z | z
      · exact z
      · rw [List.getElem?_eq_none z] at h; cases h
    rw [List.getElem?_set_self hlt, h]
  · rw [List.getElem?_set_ne q]
/-- the function enters the store: its code is known already -/
theorem made_hit (ok : cx.Ok) (hz : cx.fzn = true) {ρ : Map} {hid : Hd} {fz led : Led} {m mloc : Str → Option Value} {st : St} {s : Shared} (x : RelD cx ρ hid fz led m mloc st s) {scope : Scope} {fr : List String} {vs : List V} (hl : LamOk scope cx.env fr) (hsc : cx.lam.2.2.1 = scope) (hvs : valsOf st.loc fr = some vs)
    {fd : FuncData} {c' : Addr} {oc : Obj} (hfd : MadeFd cx scope (.ref c') fd) (hcm : ∃ t vs, oc.data = .fields vs ∧ vs[1]? = some (.str cx.lam.2.2.2 t)) (hcf : (c', oc) ∈ fz) {h' : Heap} {tk : Nat} (htk : 0 < tk) (hk : ∀ b o, s.heap.get? b = some o → h'.get? b = some o) (hsz : s.heap.objs.size ≤ h'.objs.size) :
    Rel cx (ρ ++ [(h'.objs.size, h'.objs.size)]) hid { st with sto := st.sto ++ [.clos (fr.zip vs)] } { s with heap := h'.push { cls := .type "function", data := .func fd }, toks := tk } ∧ VR (ρ ++ [(h'.objs.size, h'.objs.size)]) (.obj st.sto.length) (.ref h'.objs.size) := by
  have B1 := x.B.freeze hz _ (cells_frozen x.B (scope := scope))
  have hlt : ∀ q ∈ led, q.1 < h'.objs.size := fun q hq => Nat.lt_of_lt_of_le (Heap.lt_size (x.N q hq).1) hsz
  have B2 := B1.alloc (a := h'.objs.size) (ob := { cls := .type "function", data := .func fd }) (o := .clos (fr.zip vs)) (fun q hq => Nat.ne_of_lt (hlt q hq))
    ⟨fd, .head _, lam_of ok x.B hl hsc hvs hfd hcm (List.mem_append_right _ hcf) (fun q hq => List.mem_append_left _ hq) (List.prefix_append _ _)⟩
  have hLs : cx.L < h'.objs.size := Nat.lt_of_lt_of_le x.F.ns.lt hsz
  have fresh : ∀ b, cx.L < b → cx.h₀.get? b = none := fun b hb => Heap.get?_none_of_le (Nat.le_trans x.F.above (Nat.le_of_lt hb))
  refine ⟨⟨_, _, m, mloc, ⟨(x.F.ns.keeps hk).push _, fun b o e => Heap.get?_push_of_some _ (hk b o (x.F.keep b o e)), x.F.above⟩, fun q hq => ?_, B2, x.gens, x.os, htk⟩, ?_⟩
  · rcases List.mem_cons.mp hq with rfl | hq
    · exact ⟨Heap.get?_push_size _ rfl, Nat.ne_of_gt hLs, fresh _ hLs⟩
    · exact ⟨Heap.get?_push_of_some _ (hk _ _ (x.N q hq).1), (x.N q hq).2⟩
  · have := VR.obj (alloc_get ρ (h'.objs.size, h'.objs.size))
    rw [x.B.len] at this
    exact this
/-- the function enters the store: its code is made with it -/
theorem made_miss (ok : cx.Ok) (hz : cx.fzn = true) {ρ : Map} {hid : Hd} {fz led : Led} {m mloc : Str → Option Value} {st : St} {s : Shared} (x : RelD cx ρ hid fz led m mloc st s) {scope : Scope} {fr : List String} {vs : List V} (hl : LamOk scope cx.env fr) (hsc : cx.lam.2.2.1 = scope) (hvs : valsOf st.loc fr = some vs)
    {p : Addr × Addr} {ps more : Array Value} (hp : ρ[0]? = some p) (h0 : st.sto[0]? = some .ctab) (hP : p.1 = cx.tab.1) (hps : ps = cx.tab.2.1 ++ more) (htr : TriplesOk ps.toList) (hm : (p.1, tabObj ps) ∈ led) (hnone : codeAmong cx.tab.2.2 ps.toList = none)
    {fd : FuncData} {c' : Addr} (hfd : MadeFd cx scope (.ref c') fd) {h' : Heap} {tk : Nat} (htk : 0 < tk) (hx : Heap.ExtBut p.1 s.heap h') (hge : s.heap.objs.size ≤ c') (hlt : c' < h'.objs.size) (hrec : h'.CodeRec (.ref c') cx.lam.2.2.2)
    (htb : h'.get? p.1 = some (tabObj (ps ++ #[rawInt cx.tab.2.2.line, rawInt cx.tab.2.2.col, .ref c']))) :
    Rel cx (ρ ++ [(h'.objs.size, h'.objs.size)]) hid { st with sto := st.sto ++ [.clos (fr.zip vs)] } { s with heap := h'.push { cls := .type "function", data := .func fd }, toks := tk } ∧ VR (ρ ++ [(h'.objs.size, h'.objs.size)]) (.obj st.sto.length) (.ref h'.objs.size) := by
  obtain ⟨c2, oc, vs2, t2, e2, hoc, hd, hv⟩ := hrec
  cases e2
  have hcm : ∃ t vs, oc.data = .fields vs ∧ vs[1]? = some (.str cx.lam.2.2.2 t) := ⟨t2, vs2, hd, hv⟩
  have hltl : ∀ q ∈ led, q.1 < c' := fun q hq => Nat.lt_of_lt_of_le (Heap.lt_size (x.N q hq).1) hge
  have inl : ∀ b, b ∈ led.map (·.1) → b < c' := fun b hb => by
    obtain ⟨q, hq, rfl⟩ := List.mem_map.mp hb
    exact hltl q hq
  have hmP := x.N _ hm
  have B1 := x.B.more (a := c') (ob := oc) fun q hq => Nat.ne_of_lt (hltl q hq)
  have B2 := B1.freeze hz [(c', oc)] (fun q hq => by
    rw [List.mem_singleton] at hq
    subst hq
    refine ⟨.head _, fun p hp => ?_, fun r hr => Nat.ne_of_lt (hltl r (x.B.hin r hr)), fun hl => ?_⟩
    · have := x.B.own p hp
      exact ⟨Nat.ne_of_gt (inl _ this.1), Nat.ne_of_gt (inl _ this.2)⟩
    · rcases x.B.ln with h | ⟨_, o, es, ep, g2, _⟩
      · exact absurd h.1 hl
      · exact Nat.ne_of_gt (hltl _ g2))
  have B3 := B2.freeze hz (cellsIn led (clOf scope cx.env)) (fun q hq => by
    have := cells_frozen x.B (scope := scope) q hq
    exact ⟨.tail _ this.1, this.2⟩)
  have hnew : TriplesOk (ps ++ #[rawInt cx.tab.2.2.line, rawInt cx.tab.2.2.col, Value.ref c']).toList := by
    have : (ps ++ #[rawInt cx.tab.2.2.line, rawInt cx.tab.2.2.col, Value.ref c']).toList = ps.toList ++ [rawInt cx.tab.2.2.line, rawInt cx.tab.2.2.col, .ref c'] := by simp
    rw [this]
    exact TriplesOk_snoc _ _ _ _ htr
  have hfound : codeAmong cx.tab.2.2 (ps ++ #[rawInt cx.tab.2.2.line, rawInt cx.tab.2.2.col, Value.ref c']).toList = some (.ref c') := by
    have : (ps ++ #[rawInt cx.tab.2.2.line, rawInt cx.tab.2.2.col, Value.ref c']).toList = ps.toList ++ [rawInt cx.tab.2.2.line, rawInt cx.tab.2.2.col, .ref c'] := by simp
    rw [this]
    exact codeAmong_snoc _ htr hnone
  have B4 := B3.upd (i := 0) (p := p) (d := p.1) (ob := tabObj (ps ++ #[rawInt cx.tab.2.2.line, rawInt cx.tab.2.2.col, .ref c'])) (o := .ctab) hp (.inl rfl)
    ⟨hP, _, more ++ #[rawInt cx.tab.2.2.line, rawInt cx.tab.2.2.col, .ref c'], by rw [hps, Array.append_assoc], hnew, mem_updL_self (.tail _ hm), .inr ⟨c', oc, hfound, List.mem_append_right _ (.head _), hcm⟩⟩
  rw [set_self h0] at B4
  have hPc : p.1 < c' := hltl _ hm
  have B5 := B4.alloc (a := h'.objs.size) (ob := { cls := .type "function", data := .func fd }) (o := .clos (fr.zip vs)) (fun q hq => by
      have hq1 : q.1 ∈ (updL p.1 (tabObj (ps ++ #[rawInt cx.tab.2.2.line, rawInt cx.tab.2.2.col, .ref c'])) ((c', oc) :: led)).map (·.1) := List.mem_map_of_mem hq
      rw [updL_fst] at hq1
      rcases List.mem_cons.mp hq1 with e | e
      · rw [e]; exact Nat.ne_of_lt hlt
      · exact Nat.ne_of_lt (Nat.lt_trans (inl _ e) hlt))
    ⟨fd, .head _, lam_of ok x.B hl hsc hvs hfd hcm (List.mem_append_right _ (.head _)) (fun q hq => List.mem_append_left _ hq) (List.prefix_append _ _)⟩
  have hLc : cx.L < c' := Nat.lt_of_lt_of_le x.F.ns.lt hge
  have fresh : ∀ b, cx.L < b → cx.h₀.get? b = none := fun b hb => Heap.get?_none_of_le (Nat.le_trans x.F.above (Nat.le_of_lt hb))
  have old : ∀ b o, cx.h₀.get? b = some o → h'.get? b = some o := fun b o e => hx b o (fun q => by rw [q, hmP.2.2] at e; cases e) (x.F.keep b o e)
  refine ⟨⟨_, _, m, mloc, ⟨(x.F.ns.extBut hx hmP.2.1.symm).push _, fun b o e => Heap.get?_push_of_some _ (old b o e), x.F.above⟩, fun q hq => ?_, B5, x.gens, x.os, htk⟩, ?_⟩
  · rcases List.mem_cons.mp hq with rfl | hq
    · exact ⟨Heap.get?_push_size _ rfl, Nat.ne_of_gt (Nat.lt_trans hLc hlt), fresh _ (Nat.lt_trans hLc hlt)⟩
    · obtain ⟨r, hr, e⟩ := List.mem_map.mp hq
      by_cases hd : r.1 = p.1
      · rw [if_pos hd] at e
        subst e
        exact ⟨Heap.get?_push_of_some _ htb, hmP.2⟩
      · rw [if_neg hd] at e
        subst e
        rcases List.mem_cons.mp hr with rfl | hr
        · exact ⟨Heap.get?_push_of_some _ hoc, Nat.ne_of_gt hLc, fresh _ hLc⟩
        · exact ⟨Heap.get?_push_of_some _ (hx _ _ hd (x.N _ hr).1), (x.N _ hr).2⟩
  · have := VR.obj (alloc_get ρ (h'.objs.size, h'.objs.size))
    rw [x.B.len] at this
    exact this
theorem builtins_at (ok : cx.Ok) {ρ : Map} {hid : Hd} {fz led : Led} {m mloc : Str → Option Value} {st : St} {s : Shared} (x : RelD cx ρ hid fz led m mloc st s) {P : Addr} {ps : Array Value} (hm : (P, tabObj ps) ∈ led) : mainGlobals ≠ P ∧ s.heap.BuiltinsAt cx.mg P := by
  have hmP := x.N _ hm
  have hgs := ok.top.g.keeps x.F.keep
  obtain ⟨bm, ob, b1, b2, b3, b4, b5, b6⟩ := ok.bmain
  have hgP : mainGlobals ≠ P := fun q => by
    obtain ⟨o, es, ep, e, hd, _⟩ := hgs
    rw [q, hmP.1] at e; cases e; cases hd
  have hbP : bm ≠ P := fun q => by
    have e := x.F.keep _ _ b3
    rw [q, hmP.1] at e; cases e; cases b4
  have hbG : bm ≠ mainGlobals := fun q => by
    obtain ⟨o, es, ep, e, hd, _⟩ := ok.top.g
    rw [q, e] at b3; cases b3; rw [hd] at b6; cases b6
  exact ⟨hgP, bm, ob, b1, b2, hbG, hbP, x.F.keep _ _ b3, b4, b5, b6⟩
/-- a def made in a body -/
theorem sim_Def (ok : cx.Ok) (hz : cx.fzn = true) {name : String} {params : Arguments} {body : List Stmt} {scope : Scope} {pos : Pos} {fr : List String} {c P : Addr} (hlam : cx.lam = (.stmts body, params, scope, qualnameIn cx.env (Str.ofString name) (Str.ofString name))) (htab : cx.tab = (P, #[], pos))
    (hd0 : params.defaults = []) (hk0 : params.kw_defaults = []) (ha : annTrees params none cx.env = []) (hcode : cx.env.code = .ref c) (hC : ∀ h, cx.K.In h → CodeHd h c P) (hl : LamOk scope cx.env fr) (hk : Asg cx name) :
    SimS cx (.FunctionDef (Str.ofString name) params body [] none [] scope none (Str.ofString name) pos) (PM.bind (mkClos fr) fun v => PM.bind (setL name v) fun _ => PM.pure .next) := by
  intro ρ hid st s x v st' h
  obtain ⟨w, st1, e1, h1⟩ := bind_ok h
  cases h1
  unfold mkClos at e1
  split at e1
  · rename_i h0
    split at e1
    · rename_i vs hvs
      cases e1
      obtain ⟨fz, led, m, mloc, x'⟩ := id x
      obtain ⟨p, hp⟩ : ∃ p, ρ[0]? = some p := by
        have hlt : 0 < ρ.length := by rw [x'.B.len]; exact Nat.lt_of_not_le fun e => by rw [List.getElem?_eq_none e] at h0; cases h0
        exact ⟨_, List.getElem?_eq_getElem hlt⟩
      obtain ⟨q0, ps, more, q1, q2, q3, q4⟩ := x'.B.obj 0 _ p h0 hp
      have hpP : p.1 = P := by rw [q0, htab]
      have hpos : cx.tab.2.2 = pos := by rw [htab]
      obtain ⟨hgP, hBA⟩ := builtins_at ok x' q3
      have hgs := ok.top.g.keeps x'.F.keep
      have hCd : CodeHd s.heap c p.1 := by rw [hpP]; exact hC _ (ok.kin.keeps x'.F.keep)
      have hsc : cx.lam.2.2.1 = scope := by rw [hlam]
      refine nestDef_K hd0 hk0 ha ?_
      rcases q4 with q4 | ⟨c', oc, y1, y2, y3⟩
      · refine lf x.pos (makeFunction_K (mg := cx.mg) (closureFor_eq hl.free) ok.globals hgs hcode hCd (x'.N _ q3).1 q2 (by rw [← hpos]; exact q4) hgP hBA fun c' ctv doc h' tk hx hge hlt hrec htb htk => ?_)
        rw [← hpos] at htb
        obtain ⟨r1, r2⟩ := made_miss ok hz x' hl hsc hvs hp h0 q0 q1 q2 q3 q4 (fd := fnX (Str.ofString name) (qualnameIn cx.env (Str.ofString name) (Str.ofString name)) params body scope (clOf scope cx.env) .none .none doc ((cx.mg "__name__").getD .none) none (.ref c') ctv)
          ⟨by rw [hlam], by rw [hlam], by rw [hlam], by rw [hlam], rfl, rfl, rfl, rfl, rfl, rfl⟩ htk hx hge hlt (by rw [hlam]; exact hrec) htb
        exact store_name ok r1 r2 hk fun s' r' => ⟨_, List.prefix_append _ _, r', .next⟩
      · refine lf x.pos (makeFunction_hit (mg := cx.mg) (closureFor_eq hl.free) ok.globals hgs hcode hCd (x'.N _ q3).1 q2 (by rw [← hpos]; exact y1) hBA fun ctv doc h' tk hk' hsz htk => ?_)
        obtain ⟨r1, r2⟩ := made_hit ok hz x' hl hsc hvs (fd := fnX (Str.ofString name) (qualnameIn cx.env (Str.ofString name) (Str.ofString name)) params body scope (clOf scope cx.env) .none .none doc ((cx.mg "__name__").getD .none) none (.ref c') ctv)
          ⟨by rw [hlam], by rw [hlam], by rw [hlam], by rw [hlam], rfl, rfl, rfl, rfl, rfl, rfl⟩ y3 y2 htk hk' hsz
        exact store_name ok r1 r2 hk fun s' r' => ⟨_, List.prefix_append _ _, r', .next⟩
    · cases e1
  · cases e1
end
end Mine
namespace Mine
/-- a function made in a body, called: one parameter, what it keeps, its body -/
def callC (p : String) (mb : PM Fl) (cs : List (String × V)) : List V → PM V
  | [v] => fun st => (match mb ⟨fun n => if n = p then some v else cs.lookup n, st.sto⟩ with
      | .ok fl st' => .ok (match fl with | .ret v => v | _ => .none) ⟨st.loc, st'.sto⟩
      | .exc e st' => .exc e ⟨st.loc, st'.sto⟩
      | .fail => .fail)
  | _ => PM.fail
def flV : Fl → V
  | .ret v => v
  | _ => .none
theorem flV_eq (f : Fl) : (match f with | .ret v => v | _ => .none) = flV f := by cases f <;> rfl
/-- the closure's body is its program -/
def BodyC (cx : Cx) (fb : FuncBody) (mb : PM Fl) : Prop := match fb with
  | .stmts ss => SimBd cx ss mb
  | .expr e => ∃ me, mb = PM.bind me (fun v => PM.pure (.ret v)) ∧ SimV cx (eval e cx.env) me
section
variable {cx : Cx}
theorem innX_ok (ok : cx.Ok) {k : Nat} (hd : cx.A.depth + 4 * k + 5 < recursionLimit) (hu : cx.A.units + 40 * k + 203 < cLine) {qual : Str} {scope : Scope} {f : Addr} {cdv : Value} {cl : List (Str × Addr)} {g : Heap} {L' : Addr} (hk : scope.kind = .function) (st : cx.h₀.StaysIn g) (B : Below cx.A cx.base (cx.fenv :: cx.outer) g)
    (hci : ∀ x y c, cl.lookup x = some c → cl.lookup y = some c → x = y) : (cx.inn g L' (envX qual scope L' f cdv cl) k).Ok where
  bmain := ok.bmain.keeps st
  kin := ok.kin.keeps st
  top := ok.top.keeps st
  below := ⟨cx.A, B⟩
  frames := Around.frames_deeper ok.frames
  fframe := rfl
  fkind := hk
  kind := hk
  globals := rfl
  builtins := rfl
  handled := ok.handled
  depth := by show cx.A.depth + 1 + 4 * k + 4 < recursionLimit; omega
  units := by show cx.A.units + 3 + 40 * k + 200 < cLine; omega
  cinj := hci
theorem bear_innX {ρ : Map} {hid : Hd} {fz led : Led} {m mloc : Str → Option Value} {st : St} (B : Bear cx ρ hid fz led m mloc st) {k : Nat} {qual : Str} {scope : Scope} {f : Addr} {cdv : Value} {cl : List (Str × Addr)} {g : Heap} {L' : Addr} {p : String} {v : V} {W : Value} {cs : List (String × V)}
    (hlt : ∀ q ∈ led, q.1 < L') (hv : VR ρ v W) (hp : scope.names.lookup (Str.ofString p) = some .local) (hcell : ∀ x ∈ scope.names, x.2 ≠ .cell) (hfree : ∀ n v, cs.lookup n = some v → scope.names.lookup (Str.ofString n) = some .free)
    (hcs : ∀ n v, cs.lookup n = some v → ∃ c o V, cl.lookup (Str.ofString n) = some c ∧ (c, o) ∈ fz ∧ o.data = .cell (some V) ∧ VR ρ v V) (hcl : ∀ x c, cl.lookup x = some c → ∃ o V, (c, o) ∈ fz ∧ o.data = .cell V) :
    Bear (cx.inn g L' (envX qual scope L' f cdv cl) k) ρ (hidOf ρ fz led) fz led (fun y => [(Str.ofString p, W)].reverse.lookup y) (fun y => [(Str.ofString p, W)].reverse.lookup y) ⟨fun n => if n = p then some v else cs.lookup n, st.sto⟩ := by
  refine ⟨B.nd, fun h => absurd rfl h, .inl ⟨rfl, rfl⟩, B.len, B.own, fun i o q h1 h2 => ?_, B.sep, fun q hq => (mem_hidOf.mp hq).1, fun q hq => (mem_hidOf.mp hq).2.1, fun x c hc => ?_, fun x c hc => ⟨fun q hq => ?_, fun q hq => ?_⟩, B.fin, fun q hq => hq, fun q hq => (mem_hidOf.mp hq).2.2, B.fsep, fun _ q hq x hx hc => ?_, fun n w hn => ?_⟩
  · have := B.obj i o q h1 h2
    cases o <;> exact this
  · obtain ⟨o, V, h1, h2⟩ := hcl x c hc
    exact ⟨o, V, B.fin _ h1, h2⟩
  · obtain ⟨o, V, h1, h2⟩ := hcl x c hc
    exact fun e => (mem_hidOf.mp hq).2.2 _ h1 e.symm
  · obtain ⟨o, V, h1, h2⟩ := hcl x c hc
    have := B.fsep _ h1 q hq
    exact ⟨Ne.symm this.1, Ne.symm this.2⟩
  · exact absurd rfl (hcell _ (mem_lookup (show scope.names.lookup x = some .cell from hx)))
  · dsimp only at hn
    by_cases q : n = p
    · subst q
      rw [if_pos rfl] at hn
      cases hn
      exact ⟨W, hv, .inl ⟨hp, by simp⟩⟩
    · rw [if_neg q] at hn
      obtain ⟨c, o, V, h1, h2, h3, h4⟩ := hcs n w hn
      exact ⟨V, h4, .inr ⟨.inr (hfree n w hn), c, o, h1, B.fin _ h2, h3⟩⟩
/-- the closure's call up to its body -/
theorem code_clos (ok : cx.Ok) {k : Nat} (hdp : cx.A.depth + 4 * k + 5 < recursionLimit) (hun : cx.A.units + 40 * k + 203 < cLine) {p : String} {mb : PM Fl} {fb : FuncBody} {params : Arguments} {scope : Scope} {qual : Str} (hlam : cx.lam = (fb, params, scope, qual))
    (hb : ∀ (fd : FuncData) (W : Value), fd.params = params → fd.defaults = .none → fd.kwdefaults = .none → bindArgs fd ⟨[W], []⟩ = pure [(Str.ofString p, W)]) (hp : scope.names.lookup (Str.ofString p) = some .local) (hcell : ∀ x ∈ scope.names, x.2 ≠ .cell)
    (hco : scope.isCoroutine = false) (hgen : scope.isGenerator = false) (hk : scope.kind = .function)
    (hbody : ∀ g L' f c cl, (cx.inn g L' (envX qual scope L' f (.ref c) cl) k).Ok → BodyC (cx.inn g L' (envX qual scope L' f (.ref c) cl) k) fb mb)
    {ρ : Map} {hid : Hd} {st st' : St} {s : Shared} (x : Rel cx ρ hid st s) {j : Nat} {cs : List (String × V)} {q : Addr × Addr} (hj : st.sto[j]? = some (.clos cs)) (hq : ρ[j]? = some q) {vs : List V} {Vs : List Value} (hv : VRs ρ vs Vs) {v : V} (h : callC p mb cs vs st = .ok v st') {R : Result → Shared → Prop}
    (hR : ∀ ρ' W s', ρ <+: ρ' → Rel cx ρ' hid st' s' → VR ρ' v W → R (.ok (.ret W)) s') : codeAny cx.M cx.A (.call (.ref q.1) ⟨Vs, []⟩) R s := by
  unfold callC at h
  split at h
  · rename_i a
    split at h
    · rename_i fl st1 e1
      rw [flV_eq] at h
      cases h
      obtain ⟨W, rfl, hW⟩ := vrs_one hv
      obtain ⟨fz, led, m, mloc, x⟩ := x
      obtain ⟨fd, g1, a1, a2, a3, a4, a5, a6, a7, a8, ⟨c, o, b1, b2, b3⟩, k1, k2, k3, k4⟩ := x.B.obj j _ q hj hq
      rw [hlam] at a1 a2 a3 a4 k1
      dsimp only at a1 a2 a3 a4 k1
      obtain ⟨A₀, hB⟩ := ok.below
      obtain ⟨FG, B', stays, lv⟩ := groundX (A := cx.A) (R := R) hB x.F x.N ok.frames ok.fframe ok.fkind
      have hcd : s.heap.CodeRec fd.code fd.qualname := by
        obtain ⟨t, ws, d1, d2⟩ := b3
        exact ⟨c, o, ws, t, b1, (x.N _ (x.B.fin _ b2)).1, d1, d2⟩
      have hlt : ∀ r ∈ led, r.1 < s.heap.objs.size := fun r hr => Heap.lt_size (x.N r hr).1
      obtain ⟨name, qualname, prms, bd, scp, globals, closure, defaults, kwdefaults, doc, pyModule, annotations, code, closureTuple, builtins⟩ := fd
      dsimp only at a1 a2 a3 a4 a5 a6 a7 a8 b1 k1 k2 k3 k4
      subst a1 a2 a3 a4 a5 a6 a7 a8 b1
      have ok' := innX_ok (qual := qualname) (scope := scp) (f := q.1) (cdv := .ref c) (cl := closure) (L' := s.heap.objs.size) ok hdp hun hk stays B' k4
      have Br := bear_innX (k := k) (g := hideAll s.heap (led.map (·.1))) (qual := qualname) (scope := scp) (f := q.1) (cdv := .ref c) (cl := closure) (cs := cs) x.B hlt hW hp hcell k1 k2 k3
      have start : ∀ h₁ : Heap, h₁.Ns s.heap.objs.size (fun y => [(Str.ofString p, W)].reverse.lookup y) → Heap.SameBut s.heap.objs.size (s.heap.push { cls := .type "frame", data := .dict #[] }) h₁ →
          Rel (cx.inn (hideAll s.heap (led.map (·.1))) s.heap.objs.size (envX qualname scp s.heap.objs.size q.1 (.ref c) closure) k) ρ (hidOf ρ fz led) ⟨fun n => if n = p then some a else cs.lookup n, st.sto⟩ { s with heap := h₁, toks := s.toks + [(Str.ofString p, W)].length } := by
        intro h₁ hns hsb
        have hk₁ : ∀ b o, s.heap.get? b = some o → h₁.get? b = some o := fun b o e => hsb.extBut b o (Nat.ne_of_lt (Heap.lt_size e)) (Heap.get?_push_of_some _ e)
        exact ⟨fz, led, _, _, ⟨hns, fun b o e => hk₁ b o (of_hideAll _ e), Nat.le_of_eq (hideAll_size _ _)⟩, fun r hr => ⟨hk₁ _ _ (x.N r hr).1, Nat.ne_of_lt (hlt r hr), hideAll_none _ (List.mem_map_of_mem hr)⟩, Br, x.gens, x.os, Nat.lt_of_lt_of_le x.tk (Nat.le_add_right _ _)⟩
      have back : ∀ (ρ' : Map) (st2 : St) (s' : Shared) (W' : Value), ρ <+: ρ' → Rel (cx.inn (hideAll s.heap (led.map (·.1))) s.heap.objs.size (envX qualname scp s.heap.objs.size q.1 (.ref c) closure) k).frz ρ' (hidOf ρ fz led) st1 s' →
          VR ρ' (flV fl) W' → LeaveK cx.h₀ cx.L m (hideAll s.heap (led.map (·.1))) R W' s' := by
        intro ρ' st2 s' W' hρ hr hv'
        obtain ⟨fz', led', m', mloc', r'⟩ := hr
        refine leaveK_ r'.F r'.N fun F'' N'' => ?_
        exact hR ρ' W' s' hρ ⟨fz', led', m, mloc, F'', N'', bear_back (cx' := (cx.inn (hideAll s.heap (led.map (·.1))) s.heap.objs.size (envX qualname scp s.heap.objs.size q.1 (.ref c) closure) k).frz) rfl rfl rfl rfl rfl x.B hρ r'.B, r'.gens, r'.os, r'.tk⟩ hv'
      have hlim : ∀ h₁ : Heap, Heap.SameBut s.heap.objs.size (s.heap.push { cls := .type "frame", data := .dict #[] }) h₁ → h₁.NoLimit := fun h₁ hsb => ((ok.top.nolimit).keeps x.F.keep).fresh _ hsb
      have hbd := hbody (hideAll s.heap (led.map (·.1))) s.heap.objs.size q.1 c closure ok'
      unfold BodyC at hbd
      cases bd with
      | expr e =>
        dsimp only at hbd
        obtain ⟨me, rfl, hsim⟩ := hbd
        refine kla_callFunE (by have := ok.depth; omega) (x.N _ g1).1 rfl hco hgen rfl hcd ?_
        rw [hb _ W rfl rfl rfl]
        refine wpAny_pure (wpAny_newFunctionEnv hcell (fun y hy => by rw [List.mem_singleton] at hy; subst hy; exact hp) (fun h₁ hns hsb => ⟨hlim h₁ hsb, ?_⟩) hk)
        obtain ⟨w, st2, e2, e3⟩ := bind_ok e1
        cases e3
        refine kla_codeExpr (wpAny_mono (hsim ρ _ _ _ (start h₁ hns hsb) w _ e2) (fun W' s' hqq => ?_) fun _ _ z => z.elim)
        obtain ⟨ρ', hρ, hr, hv'⟩ := hqq
        exact lv _ _ (back ρ' st1 s' W' hρ hr.frz hv')
      | stmts ss =>
        dsimp only at hbd
        refine codeAny_call_function (by have := ok.depth; omega) (x.N _ g1).1 rfl hco hgen rfl hcd ?_
        rw [hb _ W rfl rfl rfl]
        refine wpAny_pure (wpAny_newFunctionEnv hcell (fun y hy => by rw [List.mem_singleton] at hy; subst hy; exact hp) (fun h₁ hns hsb => ⟨hlim h₁ hsb, codeAny_func ?_⟩) hk)
        refine wpAny_mono (hbd ρ _ _ _ (start h₁ hns hsb) fl _ e1) (fun fw s' hqq => ?_) fun _ _ z => z.elim
        obtain ⟨ρ', hρ, hr, hfl⟩ := hqq
        refine lv _ _ (back ρ' st1 s' _ hρ hr ?_)
        cases hfl with
        | ret hv => exact hv
        | _ => exact .none
    · cases h
    · cases h
  · cases h
/-- the law's closure as a primitive -/
structure FnC (cx : Cx) (k : Nat) (p : String) (mb : PM Fl) : Prop where
  run : ∀ A', (cx.at A').Ok → A'.depth + 4 * k + 5 < recursionLimit → A'.units + 40 * k + 203 < cLine → ∀ {ρ : Map} {hid : Hd} {st st' : St} {s : Shared}, Rel cx ρ hid st s → ∀ {j : Nat} {cs : List (String × V)} {q : Addr × Addr}, st.sto[j]? = some (.clos cs) → ρ[j]? = some q →
    ∀ {vs : List V} {Vs : List Value}, VRs ρ vs Vs → ∀ {v : V}, callC p mb cs vs st = .ok v st' → ∀ {R : Result → Shared → Prop}, (∀ ρ' W s', ρ <+: ρ' → Rel cx ρ' hid st' s' → VR ρ' v W → R (.ok (.ret W)) s') → codeAny cx.M A' (.call (.ref q.1) ⟨Vs, []⟩) R s
theorem fnC_user {k : Nat} {p : String} {mb : PM Fl} {fb : FuncBody} {params : Arguments} {scope : Scope} {qual : Str} (hlam : cx.lam = (fb, params, scope, qual))
    (hb : ∀ (fd : FuncData) (W : Value), fd.params = params → fd.defaults = .none → fd.kwdefaults = .none → bindArgs fd ⟨[W], []⟩ = pure [(Str.ofString p, W)]) (hp : scope.names.lookup (Str.ofString p) = some .local) (hcell : ∀ x ∈ scope.names, x.2 ≠ .cell)
    (hco : scope.isCoroutine = false) (hgen : scope.isGenerator = false) (hk : scope.kind = .function)
    (hbody : ∀ A' g L' f c cl, ((cx.at A').inn g L' (envX qual scope L' f (.ref c) cl) k).Ok → BodyC ((cx.at A').inn g L' (envX qual scope L' f (.ref c) cl) k) fb mb) : FnC cx k p mb :=
  ⟨fun A' ok hd hu _ _ _ _ _ x _ _ _ hj hq _ _ hv _ h _ hR => code_clos (cx := cx.at A') ok hd hu hlam hb hp hcell hco hgen hk (hbody A') x.chA hj hq hv h fun ρ' W s' a b c => hR ρ' W s' a b.unA c⟩
/-- a method that the instance may hide by a function of its own -/
def lookA (n : String) : V → PM (Option Nat)
  | .obj i => fun st => match st.sto[i]? with
    | some (.inst as) => (match as.lookup n with
      | none => .ok none st
      | some (.obj j) => (match st.sto[j]? with
        | some (.clos _) => .ok (some j) st
        | _ => .fail)
      | some _ => .fail)
    | _ => .fail
  | _ => PM.fail
def callA (f : List V → PM V) (p : String) (mb : PM Fl) : Option Nat → V → List V → PM V
  | none, o, vs => f (o :: vs)
  | some j, _, vs => fun st => match st.sto[j]? with
    | some (.clos cs) => callC p mb cs vs st
    | _ => .fail
theorem method_own {x : Addr} {ox od : Obj} {name : Str} {pl : Sem Bool} {Q : Value × List Value → Shared → Prop} {E : Value → Shared → Prop} {A : Around} {s : Shared} {f : Addr} (X : cx.K.In s.heap) (I : InstAt s.heap x ox cx.C (some od)) (hga : findIn cx.K (.ref cx.C) "__getattribute__" = some (some (.builtin "object.__getattribute__"))) (hk : findIn cx.K (.ref cx.C) "__getattr__" = some none)
    (hf : findIn cx.K (.ref cx.C) name = some (some (.ref f))) (ht : typeIn cx.K (.ref f) = some (.type "function")) {v : Value} (hs : lookIn name od = some (some v)) (h : wpAny cx.M A (getAttr (.ref x) name) (fun v => Q (v, [])) E s) :
    wpAny cx.M A (getMethod (.ref x) name pl) Q E s := by
  have hcan := PySem.F.canon_object_ga
  have u : wpAny cx.M A (do return (← getAttr (.ref x) name, ([] : List Value))) Q E s := wpAny_bind (wpAny_mono h (fun _ _ z => wpAny_pure z) fun _ _ z => z)
  unfold getMethod specialOf
  refine wpAny_bind (wpAny_bind (I.type.here ((looks_findIn X hga).here ?_)))
  dsimp only
  rw [hcan, if_neg (by decide)]
  refine wpAny_bind (wpAny_bind (I.type.here ((looks_findIn X hk).here ?_)))
  refine wpAny_bind (wpAny_bind (I.type.here ((looks_findIn X hf).here (wpAny_bind ((looks_typeIn X ht).here ?_)))))
  rw [if_neg (by decide +kernel)]
  refine wpAny_bind (wpAny_loadPart I.at_ ?_)
  have hd := I.dict
  cases e : ox.dict with
  | none => rw [e] at hd; exact hd.elim
  | some dx =>
    rw [e] at hd
    refine wpAny_bind (wpAny_bind (wpAny_loadPart hd ?_))
    rw [nsLook_of hs]
    refine wpAny_pure ?_
    exact u
theorem sim_MA (ok : cx.Ok) (g : Addr) {k : Nat} (hkn : k + 1 ≤ cx.n) {o : Expr} {n p : String} {mb : PM Fl} {apos pos : Pos} {es : List Expr} {mo : PM V} {ma : PM (List V)} {f : List V → PM V} (hg : plainGet cx.K cx.C (Str.ofString n) = true) (hc : okAttr cx.K cx.C (Str.ofString n) = true)
    (hf : findIn cx.K (.ref cx.C) (Str.ofString n) = some (some (.ref g))) (ht : isFn cx.K (.ref g) = true) (hk : keepIn cx.K (.ref g) = true)
    (hp : PC cx (.ref g) f) (hF : FnC cx k p mb) (ho : SimV cx (eval o cx.env) mo) (ha : SimL cx pos es ma) (hplain : (backTo pos (starEach es cx.env)).any (·.1) = false) (hb : plainBase o = true) (hl : Nat.ble 30 es.length = false) (hline : (apos.endLine == pos.line) = true) :
    SimV cx (eval (.Call (.Attribute o (Str.ofString n) apos) es [] pos) cx.env) (PM.bind mo fun v => PM.bind (lookA n v) fun c => PM.bind ma fun vs => callA f p mb c v vs) := by
  intro ρ hid st s x v st' h
  obtain ⟨a, st1, e1, h1⟩ := bind_ok h
  obtain ⟨c, st2, e2, h2⟩ := bind_ok h1
  obtain ⟨vs, st3, e3, h3⟩ := bind_ok h2
  clear h h1 h2
  refine MethodCall_ (wp_seq (ho ρ hid st s x a st1 e1) fun A s1 ρ1 p1 r1 v1 => ?_) (meth_form (cx := cx) hb hplain hl hline)
  unfold lookA at e2
  split at e2
  · rename_i i
    obtain ⟨q, hq, rfl⟩ := vr_obj v1
    split at e2
    · rename_i as hi
      obtain ⟨fz, led, m, mloc, r'⟩ := id r1
      obtain ⟨Es, n', j1, j2, j3, j4, I⟩ := inst_at r' hi hq
      split at e2
      · rename_i hlk
        cases e2
        refine method_inst r'.F ok.kin I hg hf ht ?_ (wp_seq (call_with ok ha (keep_K hk) hp hplain r1 (first := [_]) (.cons v1 .nil) e3 h3) fun W s2 ρ2 p2 r2 v2 => ⟨ρ2, pre_trans p1 p2, r2, v2⟩)
        unfold PySem.W.getL
        rw [ar_none j1 hlk, ar_noref j1]
        rfl
      · rename_i j hlk
        split at e2
        · rename_i cs hj
          cases e2
          obtain ⟨ee, _, d1, d2⟩ := ar_get j1 hlk
          have hlook : lookIn (Str.ofString n) (dictOf Es n') = some (some ee.val) := by
            rw [lookIn_dict]
            show (match Es.find? (·.key.isStr (Str.ofString n)) with | some e => some (some e.val) | none => _) = _
            rw [d1]
          refine method_own (ok.kin.keeps r'.F.keep) I (plainGet_of hg).1 (plainGet_of hg).2 hf (beq_iff_eq.mp ht) hlook ?_
          have hga : gAttr n (.obj i) st1 = .ok (.obj j) st1 := by
            unfold gAttr
            simp only [hi, hlk]
          refine get_attr ok hc r1 v1 hga fun W s2 hW r2 => ?_
          obtain ⟨qj, hqj, rfl⟩ := vr_obj hW
          unfold callA at h3
          dsimp only at h3
          split at h3
          · rename_i cs' hj'
            refine callWith_of (P := FnAt qj.1) (by rw [hplain]; rfl) keeps_F (evalArgs_of hplain (wp_seq (ha ρ1 hid st1 s2 r2 vs st3 e3) fun Vs s3 ρ3 p3 r3 v3 => ⟨?_, ?_⟩))
            · obtain ⟨fz3, led3, m3, mloc3, r3'⟩ := id r3
              obtain ⟨fd, y1, _⟩ := r3'.B.obj j _ qj hj' (get_mono p3 hqj)
              exact ⟨_, _, _, _, (r3'.N _ y1).1⟩
            · exact wpAny_call (hF.run cx.A (at_ok ok) (by have := ok.depth; omega) (by have := ok.units; omega) r3 hj' (get_mono p3 hqj) v3 h3 fun ρ' W' s' a' b' c' => ⟨ρ', pre_trans p1 (pre_trans p3 a'), b', c'⟩)
          · cases h3
        · cases e2
      · cases e2
    · cases e2
  · cases e2
end
end Mine
namespace Mine
section
variable {cx : Cx}
/-- the first place of a law that makes functions: the code's table is among the objects -/
abbrev cxOfC (prog : Program) (w : World) (K : Frag) (C : Addr) (p : Program) (loose : List Str) (mg mb : Str → Option Value) (s : Shared) (env : Env) (n : Nat) (tabs : List (Addr × Addr)) (lam : FuncBody × Arguments × Scope × Str) (tab : Addr × Array Value × Pos) : Cx :=
  { prog, w, K, C, p, loose, mg, mb, h₀ := ghostOf s.heap tabs, L := s.heap.objs.size, A := callerA.deeper env, fenv := env, env, base := ghostOf s.heap tabs, outer := [], os := s.os, n, fm := fun _ => none, fzn := false, lam, tab }
theorem enter_lawC {prog : Program} {w : World} {K : Frag} {C : Addr} {p : Program} {loose : List Str} {mg mb : Str → Option Value} {s : Shared} {name : Str} {params : Arguments} {body : List Stmt} {scope : Scope} {pm cd doc : Value} {fa a : Addr} {o : Obj} {n : Nat}
    {mbody : PM Fl} {R : Result → Shared → Prop} {Vs : List Value} {xs : List Int} {c P : Addr} {pos : Pos} {lam : FuncBody × Arguments × Scope × Str}
    (hn : n ≤ 100) (hT : TabsAt [(c, P)] s.heap) (hlim : s.heap.NoLimit) (T : TopRead p loose mg mb (ghostOf s.heap [(c, P)])) (hBM : BM mg (ghostOf s.heap [(c, P)])) (kin : K.In (ghostOf s.heap [(c, P)])) (ho : s.heap.get? fa = some o) (hd : o.data = .func (Calls.docDef name params body scope pm cd doc)) (hcd : s.heap.CodeRec cd name) (hg : s.gens = #[])
    (hl : s.heap.IsList a Vs.toArray) (hI : IntsAre Vs xs)
    (hbind : bindArgs (Calls.docDef name params body scope pm cd doc) ⟨[.ref a], []⟩ = pure [(Str.ofString "script", .ref a)])
    (hkind : scope.names.lookup (Str.ofString "script") = some .local) (hnd : ((cellsFrom 0 scope.names []).map (·.1)).Nodup)
    (hco : scope.isCoroutine = false) (hgen : scope.isGenerator = false) (hk : scope.kind = .function)
    (hbody : (cxOfC prog w K C p loose mg mb s (envOfC name scope s.heap.objs.size fa cd) n [(c, P)] lam (P, #[], pos)).Ok → Old (cxOfC prog w K C p loose mg mb s (envOfC name scope s.heap.objs.size fa cd) n [(c, P)] lam (P, #[], pos)) a xs →
      SimSs (cxOfC prog w K C p loose mg mb s (envOfC name scope s.heap.objs.size fa cd) n [(c, P)] lam (P, #[], pos)) body mbody)
    (hrun : ∃ st', mbody ⟨fun k => if k = "script" then some (.glob (.ref a)) else none, [.ctab]⟩ = .ok (.ret (.bool true)) st' ∧ st'.sto[0]? = some .ctab)
    (hR : ∀ s', (∃ L m, Fr (ghostOf s.heap [(c, P)]) L s'.heap m) → s'.gens = #[] → s'.os = s.os → GrownAll [(c, P)] s'.heap → R (.ok (.ret (.bool true))) s') : codeAny (model prog w) callerA (.call (.ref fa) ⟨[.ref a], []⟩) R s := by
  obtain ⟨st', hrun, hct⟩ := hrun
  refine call_first (by decide) ho hd rfl rfl rfl rfl hlim hcd hbind hkind hnd (fun h₁ tk cells htk F' N' C' => ?_) hco hgen hk
  have hO : Old (cxOfC prog w K C p loose mg mb s (envOfC name scope s.heap.objs.size fa cd) n [(c, P)] lam (P, #[], pos)) a xs := ⟨Vs, ghost_list hT hl, hI⟩
  have ok : (cxOfC prog w K C p loose mg mb s (envOfC name scope s.heap.objs.size fa cd) n [(c, P)] lam (P, #[], pos)).Ok :=
    { bmain := hBM, kin := kin, top := T, below := ⟨callerA, below_caller _⟩, frames := rfl, fframe := rfl, fkind := hk, kind := hk, globals := rfl, builtins := rfl, handled := rfl
      depth := by
        show callerA.depth + 1 + 4 * n + 4 < recursionLimit
        have : callerA.depth = 301 := by decide
        have : recursionLimit = 1000 := rfl
        omega
      units := by
        show callerA.units + 3 + 40 * n + 200 < cLine
        have : callerA.units = 4 := rfl
        have : cLine = 9900 := rfl
        omega
      cinj := envOfC_inj }
  have hPt := (hT (c, P) (.head _)).2
  have hPlt : P < s.heap.objs.size := Heap.lt_size hPt
  let cx0 : Cx := { (cxOfC prog w K C p loose mg mb s (envOfC name scope s.heap.objs.size fa cd) n [(c, P)] lam (P, #[], pos)) with env := { envOfC name scope s.heap.objs.size fa cd with cells := [] } }
  have B0 : Bear cx0 [(P, P)] ⟨[], []⟩ [] [(P, tabObj #[])] (fun _ => none) (fun _ => none) ⟨fun _ => none, [.ctab]⟩ := by
    refine ⟨by simp, fun _ => rfl, .inl ⟨rfl, rfl⟩, rfl, fun q hq => ?_, fun i o q h1 h2 => ?_, fun i j q r h1 h2 hij => ?_, fun _ h => (nomatch h), fun _ h => (nomatch h), fun x c h => (nomatch h), fun x c h => (nomatch h), fun _ h => (nomatch h), fun _ h => (nomatch h), fun _ h => (nomatch h), fun _ h => (nomatch h), fun _ _ h => (nomatch h), fun n v h => (nomatch h)⟩
    · rw [List.mem_singleton] at hq; subst hq; exact ⟨.head _, .head _⟩
    · cases i with
      | zero =>
        cases h1; cases h2
        exact ⟨rfl, #[], #[], (by show (#[] : Array Value) = #[] ++ #[]; simp), trivial, .head _, .inl rfl⟩
      | succ i => simp at h1
    · cases i with
      | zero => cases j with
        | zero => exact absurd rfl hij
        | succ j => simp at h2
      | succ i => simp at h1
  have Br := bear_inn (cx := cx0) (k := n) (qual := name) (scope := scope) (f := fa) (cdv := cd) (g := ghostOf s.heap [(c, P)]) (L' := s.heap.objs.size) (ps := ["script"]) (vs := [.glob (.ref a)]) (Vs := [.ref a]) B0 (fun q hq => by rw [List.mem_singleton] at hq; subst hq; exact hPlt) (.cons (.glob _) .nil) (by simp) (fun q hq => by
    rw [List.mem_singleton] at hq; subst hq; exact .inl hkind) C'
  have R' : Rel (cxOfC prog w K C p loose mg mb s (envOfC name scope s.heap.objs.size fa cd) n [(c, P)] lam (P, #[], pos)) [(P, P)] (hidOf [(P, P)] [] [(P, tabObj #[])]) ⟨fun k => if k = "script" then some (.glob (.ref a)) else none, [.ctab]⟩ { s with heap := h₁, toks := tk } := by
    refine ⟨[], cells ++ [(P, tabObj #[])], _, bindL (envOfC name scope s.heap.objs.size fa cd).kindOf [(Str.ofString "script", .ref a)] fun _ => none, ghost_fr hT F', ghost_news hT F' N', ?_, hg, rfl, htk⟩
    have e : (⟨fun n => ([("script" : String)].zip [V.glob (.ref a)]).lookup n, [.ctab]⟩ : St) = ⟨fun k => if k = "script" then some (.glob (.ref a)) else none, [.ctab]⟩ := by
      congr 1
      funext k
      simp only [List.zip_cons_cons, List.zip_nil_left, List.lookup_cons, List.lookup_nil]
      by_cases hk : k = "script"
      · subst hk; simp
      · have : (k == "script") = false := by simpa using hk
        simp [hk, this]
    rw [← e]
    refine ⟨Br.nd, fun h => absurd rfl h, Br.ln, Br.len, Br.own, fun i o q h1 h2 => ?_, Br.sep, Br.hin, Br.hsep, Br.cel, Br.csep, Br.fin, Br.fz0, Br.hfz, Br.fsep, Br.fcel, Br.loc⟩
    have := Br.obj i o q h1 h2
    cases o <;> exact this
  refine wpAny_mono (hbody ok hO _ _ _ _ R' _ _ hrun) (fun fw s' hq => ?_) fun _ _ z => z.elim
  obtain ⟨ρ', hρ, ⟨fz', led', m', mloc', r'⟩, hfl⟩ := hq
  cases hfl with
  | ret hv =>
    cases vr_bool hv
    obtain ⟨_, ps, more, _, _, g, _⟩ := r'.B.obj 0 _ (P, P) hct (get_mono hρ rfl)
    exact hR s' ⟨_, _, r'.F⟩ r'.gens r'.os ⟨⟨ps, (r'.N _ g).1⟩, trivial⟩
end
end Mine
namespace Mine
section
variable {cx : Cx}
end
end Mine
namespace Mine
/-- what holds when a PM program has run -/
def wp {α : Type} (m : PM α) (st : St) (Q : α → St → Prop) : Prop := match m st with
  | .ok a st' => Q a st'
  | _ => False
theorem wp_run {α : Type} {m : PM α} {st : St} {Q : α → St → Prop} (h : wp m st Q) : ∃ a st', m st = .ok a st' ∧ Q a st' := by
  unfold wp at h
  cases e : m st with
  | ok a st' => rw [e] at h; exact ⟨a, st', rfl, h⟩
  | exc _ _ => rw [e] at h; exact h.elim
  | fail => rw [e] at h; exact h.elim
theorem wp_of {α : Type} {m : PM α} {st st' : St} {a : α} {Q : α → St → Prop} (e : m st = .ok a st') (h : Q a st') : wp m st Q := by
  unfold wp; rw [e]; exact h
theorem wp_mono {α : Type} {m : PM α} {st : St} {Q Q' : α → St → Prop} (h : wp m st Q) (k : ∀ a st', Q a st' → Q' a st') : wp m st Q' := by
  obtain ⟨a, st', e, q⟩ := wp_run h
  exact wp_of e (k a st' q)
theorem wp_bind {α β : Type} {m : PM α} {f : α → PM β} {st : St} {Q : β → St → Prop} : wp (PM.bind m f) st Q = wp m st (fun a st' => wp (f a) st' Q) := by
  unfold wp PM.bind
  cases m st <;> rfl
theorem wp_pure {α : Type} {a : α} {st : St} {Q : α → St → Prop} : wp (PM.pure a) st Q = Q a st := rfl
theorem wp_getL {n : String} {st : St} {Q : V → St → Prop} : wp (getL n) st Q = ∃ v, st.loc n = some v ∧ Q v st := by
  unfold wp getL
  cases e : st.loc n with
  | some v => simp
  | none => simp
theorem wp_setL {n : String} {v : V} {st : St} {Q : Unit → St → Prop} : wp (setL n v) st Q = Q () { st with loc := fun k => if k = n then some v else st.loc k } := rfl
theorem wp_alloc {o : O} {st : St} {Q : V → St → Prop} : wp (alloc o) st Q = Q (.obj st.sto.length) { st with sto := st.sto ++ [o] } := rfl
theorem wp_allocList {vs : List V} {st : St} {Q : V → St → Prop} : wp (allocList vs) st Q = (vs.length ≤ 1000000 ∧ Q (.obj st.sto.length) { st with sto := st.sto ++ [.list vs] }) := by
  unfold wp allocList alloc
  by_cases h : vs.length ≤ 1000000
  · simp [h]
  · simp [h]
theorem wp_allocTuple {vs : List V} {st : St} {Q : V → St → Prop} : wp (allocTuple vs) st Q = (vs.length ≤ 1000000 ∧ Q (.obj st.sto.length) { st with sto := st.sto ++ [.tuple vs] }) := by
  unfold wp allocTuple alloc
  by_cases h : vs.length ≤ 1000000
  · simp [h]
  · simp [h]
theorem wp_ite {α : Type} {m : PM Bool} {a b : PM α} {st : St} {Q : α → St → Prop} : wp (iteP m a b) st Q = wp m st (fun c st' => if c = true then wp a st' Q else wp b st' Q) := by
  unfold iteP
  rw [wp_bind]
  congr 1
  funext c st'
  cases c <;> simp
theorem wp_and {m k : PM Bool} {st : St} {Q : Bool → St → Prop} : wp (andP m k) st Q = wp m st (fun c st' => if c = true then wp k st' Q else Q false st') := by
  unfold andP
  rw [wp_bind]
  congr 1
  funext c st'
  cases c <;> simp [wp_pure]
theorem wp_or {m k : PM Bool} {st : St} {Q : Bool → St → Prop} : wp (orP m k) st Q = wp m st (fun c st' => if c = true then Q true st' else wp k st' Q) := by
  unfold orP
  rw [wp_bind]
  congr 1
  funext c st'
  cases c <;> simp [wp_pure]
theorem wp_seq' {m k : PM Fl} {st : St} {Q : Fl → St → Prop} : wp (seqF m k) st Q = wp m st (fun f st' => match f with | .next => wp k st' Q | .brk => Q .brk st' | .cont => Q .cont st' | .ret v => Q (.ret v) st') := by
  unfold seqF
  rw [wp_bind]
  congr 1
  funext f st'
  cases f <;> rfl
theorem wp_add {a b : Int} {st : St} {Q : V → St → Prop} : wp (pAdd (.int a) (.int b)) st Q = Q (.int (a + b)) st := rfl
theorem wp_sub {a b : Int} {st : St} {Q : V → St → Prop} : wp (pSub (.int a) (.int b)) st Q = Q (.int (a - b)) st := rfl
theorem wp_neg {a : Int} {st : St} {Q : V → St → Prop} : wp (pNeg (.int a)) st Q = Q (.int (-a)) st := rfl
theorem eqP_int (st : St) (a b : Int) : eqP st (.int a) (.int b) = some (decide (a = b)) := by
  show some (PyData.eqv (.int a) (.int b)) = _
  congr 1
theorem wp_truthyB {b : Bool} {st : St} {Q : Bool → St → Prop} : wp (pTruthy (.bool b)) st Q = Q b st := rfl
theorem wp_item {o i v : V} {st : St} {Q : V → St → Prop} (h : itemP st o i = some v) : wp (pItem o i) st Q = Q v st := by
  simp [wp, pItem, h]
theorem wp_isStr {l : List Nat} {st : St} {Q : Unit → St → Prop} : wp (isStr (.str l)) st Q = Q () st := rfl
theorem wp_isList {i : Nat} {xs : List V} {st : St} {Q : Unit → St → Prop} (h : st.sto[i]? = some (.list xs)) : wp (isList (.obj i)) st Q = Q () st := by
  simp [wp, isList, h]
theorem wp_isInst {n : String} {i : Nat} {as : List (String × V)} {st : St} {Q : Unit → St → Prop} (h : st.sto[i]? = some (.inst as)) (hn : as.lookup n = none) : wp (isInst n (.obj i)) st Q = Q () st := by
  simp [wp, isInst, h, hn]
theorem wp_append {i : Nat} {xs : List V} {v : V} {st : St} {Q : V → St → Prop} (h : st.sto[i]? = some (.list xs)) (hl : xs.length ≤ 1000000) : wp (cAppend [.obj i, v]) st Q = Q .none { st with sto := st.sto.set i (.list (xs ++ [v])) } := by
  simp [wp, cAppend, h, hl]
theorem wp_lenL {i : Nat} {xs : List V} {st : St} {Q : V → St → Prop} (h : st.sto[i]? = some (.list xs)) (hl : xs.length ≤ 1000000) : wp (cLen [.obj i]) st Q = Q (.int xs.length) st := by
  simp [wp, cLen, h, hl]
theorem wp_gAttr {n : String} {i : Nat} {as : List (String × V)} {v : V} {st : St} {Q : V → St → Prop} (h : st.sto[i]? = some (.inst as)) (hn : as.lookup n = some v) (hg : ∀ u, v ≠ .glob u) : wp (gAttr n (.obj i)) st Q = Q v st := by
  unfold wp gAttr
  dsimp only
  rw [h]
  dsimp only
  rw [hn]
  cases v <;> first | rfl | exact absurd rfl (hg _)
theorem wp_sAttr {n : String} {i : Nat} {as : List (String × V)} {v : V} {st : St} {Q : Unit → St → Prop} (h : st.sto[i]? = some (.inst as)) (hl : as.length ≤ 90) : wp (sAttr n v (.obj i)) st Q = Q () { st with sto := st.sto.set i (.inst (putA n v as)) } := by
  simp [wp, sAttr, h, hl]
/-- loops -/
theorem wp_loop {src : Src} {body : V → PM Fl} {Q : Fl → St → Prop} (I : List V → St → Prop) (hc : ∀ r st, I r st → ∀ p, src = some p → st.sto[p.1]? = some p.2)
    (step : ∀ x r st, I (x :: r) st → wp (body x) st (fun f st' => match f with | .next => I r st' | .cont => I r st' | .brk => Q .next st' | .ret v => Q (.ret v) st')) (done : ∀ st, I [] st → Q .next st) :
    ∀ (xs : List V) (st : St), I xs st → wp (loopF src body xs) st Q
  | [], st, h => by
    have : chk src st = .ok () st := by
      cases src with
      | none => rfl
      | some p => exact chk_some (hc _ _ h p rfl)
    unfold loopF
    rw [wp_bind]
    exact wp_of this (done st h)
  | x :: r, st, h => by
    have : chk src st = .ok () st := by
      cases src with
      | none => rfl
      | some p => exact chk_some (hc _ _ h p rfl)
    unfold loopF
    rw [wp_bind]
    refine wp_of this ?_
    rw [wp_bind]
    refine wp_mono (step x r st h) fun f st' q => ?_
    cases f with
    | next => exact wp_loop I hc step done r st' q
    | cont => exact wp_loop I hc step done r st' q
    | brk => exact q
    | ret v => exact q
end Mine
namespace Mine
noncomputable def initE : PM Fl := (seqF (PM.bind (PM.bind (PM.pure []) allocList) fun v => PM.bind (getL "self") fun a => PM.bind (sAttr "useragents" v a) fun _ => PM.pure .next) (seqF (PM.bind (PM.bind (PM.pure []) allocList) fun v => PM.bind (getL "self") fun a => PM.bind (sAttr "rulelines" v a) fun _ => PM.pure .next) (seqF (PM.bind (PM.pure .none) fun v => PM.bind (getL "self") fun a => PM.bind (sAttr "delay" v a) fun _ => PM.pure .next) (PM.bind (PM.pure .none) fun v => PM.bind (getL "self") fun a => PM.bind (sAttr "req_rate" v a) fun _ => PM.pure .next))))
noncomputable def applEf1 : PM Fl := (iteP (PM.bind (getL "agent") fun a => PM.bind (PM.pure (.str (cps "*"))) fun b => PM.bind (pNe a b) pTruthy) (seqF (PM.bind (PM.bind (getL "agent") fun v => PM.bind (isStr v) fun _ => PM.bind (PM.pure []) fun vs => cLower (v :: vs)) fun v => PM.bind (setL "agent" v) fun _ => PM.pure .next) (iteP (PM.bind (getL "agent") fun a => PM.bind (getL "useragent") fun b => PM.bind (pIn a b) pTruthy) (PM.bind (PM.pure (.bool true)) fun v => PM.pure (.ret v)) (PM.pure .next))) (PM.pure .next))
noncomputable def applE : PM Fl := (seqF (iteP (PM.bind (getL "useragent") fun a => PM.bind (PM.pure .none) fun b => PM.bind (pIs a b) pTruthy) (PM.bind (PM.bind (PM.pure (.str (cps "*"))) fun a => PM.bind (PM.bind (getL "self") (gAttr "useragents")) fun b => pIn a b) fun v => PM.pure (.ret v)) (PM.pure .next)) (seqF (PM.bind (PM.bind (PM.bind (PM.bind (getL "useragent") fun v => PM.bind (isStr v) fun _ => PM.bind (PM.bind (PM.pure (.str (cps "/"))) fun v => PM.bind (PM.pure []) fun vs => PM.pure (v :: vs)) fun vs => cSplit (v :: vs)) fun o => PM.bind (PM.pure (.int 0)) fun i => pItem o i) fun v => PM.bind (isStr v) fun _ => PM.bind (PM.pure []) fun vs => cLower (v :: vs)) fun v => PM.bind (setL "useragent" v) fun _ => PM.pure .next) (seqF (PM.bind (PM.bind (getL "self") (gAttr "useragents")) fun v => PM.bind (iterOf v) fun p => loopF p.1 (fun x => PM.bind ((setL "agent") x) fun _ => applEf1) p.2) (PM.bind (PM.pure (.bool false)) fun v => PM.pure (.ret v)))))
theorem idx_nat {n k : Nat} (h : k < n) : idx n (k : Int) = some k := by
  unfold idx
  rw [if_pos (by omega), if_pos (by omega)]
  simp
theorem get_app_len (l : List O) (o : O) (r : List O) : (l ++ o :: r)[l.length]? = some o := by
  rw [List.getElem?_append_right (Nat.le_refl _)]; simp
theorem get_pre {l l' : List O} (h : l <+: l') {i : Nat} {o : O} (e : l[i]? = some o) : l'[i]? = some o := by
  obtain ⟨t, rfl⟩ := h
  rw [List.getElem?_append_left]
  · exact e
  · rcases Nat.lt_or_ge i l.length with q | q
    · exact q
    · rw [List.getElem?_eq_none q] at e; cases e
theorem get_lt {l : List O} {i : Nat} {o : O} (e : l[i]? = some o) : i < l.length := by
  rcases Nat.lt_or_ge i l.length with q | q
  · exact q
  · rw [List.getElem?_eq_none q] at e; cases e
theorem set_app_len (l : List O) (o o' : O) (r : List O) : (l ++ o :: r).set l.length o' = l ++ o' :: r := by
  rw [List.set_append_right _ _ (Nat.le_refl _)]; simp
theorem wp_call {ps : List String} {mb : PM Fl} {vs : List V} {st : St} {Q : V → St → Prop} (hl : vs.length = ps.length) :
    wp (callP ps mb vs) st Q = wp mb ⟨fun n => (ps.zip vs).lookup n, st.sto⟩ (fun fl st' => Q (match fl with | .ret v => v | _ => .none) ⟨st.loc, st'.sto⟩) := by
  unfold wp callP
  rw [if_pos hl]
  cases mb ⟨fun n => (ps.zip vs).lookup n, st.sto⟩ <;> rfl
theorem wp_entry {st : St} {Q : V → St → Prop} (h : Q (.obj st.sto.length) ⟨st.loc, st.sto ++ [.inst [("useragents", .obj (st.sto.length + 1)), ("rulelines", .obj (st.sto.length + 2)), ("delay", .none), ("req_rate", .none)], .list [], .list []]⟩) :
    wp (newInst initE ["self"] []) st Q := by
  unfold newInst
  rw [wp_bind, wp_alloc, wp_bind, wp_call rfl]
  unfold initE
  have g0 : ∀ (as : List (String × V)) (r : List O), (st.sto ++ O.inst as :: r)[st.sto.length]? = some (.inst as) := fun as r => get_app_len _ _ _
  simp only [wp_seq', wp_bind, wp_pure, wp_allocList, wp_getL, List.length_nil, Nat.zero_le, true_and, List.zip_cons_cons, List.zip_nil_left, List.lookup_cons, List.lookup_nil, beq_self_eq_true, Option.some.injEq, exists_eq_left', List.append_assoc, List.cons_append, List.nil_append, List.length_append, List.length_cons]
  rw [wp_sAttr (as := []) (g0 _ _) (by decide)]
  simp only [set_app_len, List.append_assoc, List.cons_append, List.nil_append, List.length_append, List.length_cons, List.length_nil]
  refine ⟨_, rfl, ?_⟩
  rw [wp_sAttr (g0 _ _) (by simp [putA])]
  simp only [set_app_len]
  refine ⟨_, rfl, ?_⟩
  rw [wp_sAttr (g0 _ _) (by simp [putA])]
  simp only [set_app_len]
  refine ⟨_, rfl, ?_⟩
  rw [wp_sAttr (g0 _ _) (by simp [putA])]
  simp only [set_app_len]
  simpa [putA] using h
theorem eqv_str (a b : List Nat) : PyData.eqv (.str ⟨a.toArray⟩) (.str ⟨b.toArray⟩) = decide (a = b) := by
  show ((⟨a.toArray⟩ : Str) == ⟨b.toArray⟩) = _
  by_cases h : a = b
  · subst h; simp
  · rw [decide_eq_false h, beq_eq_false_iff_ne]
    intro e
    have : a.toArray = b.toArray := congrArg Str.cps e
    exact h (by simpa using this)
theorem eqP_str (st : St) (a b : List Nat) : eqP st (.str a) (.str b) = some (decide (a = b)) := by
  show some (PyData.eqv (.str ⟨a.toArray⟩) (.str ⟨b.toArray⟩)) = _
  rw [eqv_str]
/-- the part of a name that counts -/
def part (name : List Nat) : List Nat := (name.takeWhile (fun x => decide (x ≠ 47))).map lowP
end Mine
namespace Mine
/-- steps as equations: what must hold, told by cases on the store -/
theorem wp_if {α : Type} {c : Prop} [Decidable c] {m : PM α} {st : St} {Q : α → St → Prop} : wp (fun st => if c then m st else .fail) st Q = (c ∧ wp m st Q) := by
  unfold wp
  by_cases h : c <;> simp [h]
theorem wpE_get {n : String} {st : St} {Q : V → St → Prop} : wp (getL n) st Q = (match st.loc n with | some v => Q v st | none => False) := by
  unfold wp getL
  cases st.loc n <;> rfl
theorem wpE_mod {a b : Int} {st : St} {Q : V → St → Prop} : wp (pMod (.int a) (.int b)) st Q = (0 < b ∧ Q (.int (a % b)) st) := by
  by_cases h : 0 < b <;> simp [wp, pMod, h]
theorem wpE_div {a b : Int} {st : St} {Q : V → St → Prop} : wp (pDiv (.int a) (.int b)) st Q = ((0 < b ∧ b < 1000000000) ∧ Q (.int (a / b)) st) := by
  by_cases h : 0 < b ∧ b < 1000000000 <;> simp [wp, pDiv, h]
theorem wpE_pow {a b : Int} {st : St} {Q : V → St → Prop} : wp (pPow (.int a) (.int b)) st Q = ((small a && (decide (0 ≤ b) && decide (b ≤ 1000))) = true ∧ Q (.int (a ^ b.toNat)) st) := wp_if
theorem wpE_mulS {a : List Nat} {b : Int} {st : St} {Q : V → St → Prop} : wp (pMul (.str a) (.int b)) st Q = ((a.length ≤ 1000 ∧ 0 ≤ b ∧ b ≤ 1000) ∧ Q (.str (List.flatten (List.replicate b.toNat a))) st) := wp_if
theorem wpE_addS {a b : List Nat} {st : St} {Q : V → St → Prop} : wp (pAdd (.str a) (.str b)) st Q = (a.length + b.length ≤ 1000000 ∧ Q (.str (a ++ b)) st) := by
  by_cases h : a.length + b.length ≤ 1000000 <;> simp [wp, pAdd, h]
theorem wpE_iaddS {a b : List Nat} {st : St} {Q : V → St → Prop} : wp (pIAdd (.str a) (.str b)) st Q = (a.length + b.length ≤ 1000000 ∧ Q (.str (a ++ b)) st) := by
  by_cases h : a.length + b.length ≤ 1000000 <;> simp [wp, pIAdd, h]
theorem wpE_iaddI {a b : Int} {st : St} {Q : V → St → Prop} : wp (pIAdd (.int a) (.int b)) st Q = Q (.int (a + b)) st := rfl
theorem wpE_lt {a b : Int} {st : St} {Q : V → St → Prop} : wp (pLt (.int a) (.int b)) st Q = Q (.bool (decide (a < b))) st := rfl
theorem wpE_le {a b : Int} {st : St} {Q : V → St → Prop} : wp (pLe (.int a) (.int b)) st Q = Q (.bool (decide (a ≤ b))) st := rfl
theorem wpE_ge {a b : Int} {st : St} {Q : V → St → Prop} : wp (pGe (.int a) (.int b)) st Q = Q (.bool (decide (b ≤ a))) st := rfl
theorem wpE_gt {a b : Int} {st : St} {Q : V → St → Prop} : wp (pGt (.int a) (.int b)) st Q = Q (.bool (decide (b < a))) st := rfl
theorem wpE_eq {a b : V} {st : St} {Q : V → St → Prop} : wp (pEq a b) st Q = (match eqP st a b with | some c => Q (.bool c) st | none => False) := by
  unfold wp pEq
  cases eqP st a b <;> rfl
theorem wpE_ne {a b : V} {st : St} {Q : V → St → Prop} : wp (pNe a b) st Q = (match eqP st a b with | some c => Q (.bool (!c)) st | none => False) := by
  unfold wp pNe
  cases eqP st a b <;> rfl
theorem wpE_is {a b : V} {st : St} {Q : V → St → Prop} : wp (pIs a b) st Q = (match isP a b with | some c => Q (.bool c) st | none => False) := by
  unfold wp pIs
  cases isP a b <;> rfl
theorem wpE_isnot {a b : V} {st : St} {Q : V → St → Prop} : wp (pIsNot a b) st Q = (match isP a b with | some c => Q (.bool (!c)) st | none => False) := by
  unfold wp pIsNot
  cases isP a b <;> rfl
theorem isP_bool (a b : Bool) : isP (.bool a) (.bool b) = some (a == b) := rfl
theorem isP_obj (i : Nat) : isP (.obj i) (.obj i) = some true := by simp [isP]
theorem wpE_in {a b : V} {st : St} {Q : V → St → Prop} : wp (pIn a b) st Q = (match inP st a b with | some c => Q (.bool c) st | none => False) := by
  unfold wp pIn
  cases inP st a b <;> rfl
theorem wpE_notin {a b : V} {st : St} {Q : V → St → Prop} : wp (pNotIn a b) st Q = (match inP st a b with | some c => Q (.bool (!c)) st | none => False) := by
  unfold wp pNotIn
  cases inP st a b <;> rfl
theorem wpE_truthyI {i : Int} {st : St} {Q : Bool → St → Prop} : wp (pTruthy (.int i)) st Q = Q (i != 0) st := rfl
theorem wpE_truthyN {st : St} {Q : Bool → St → Prop} : wp (pTruthy .none) st Q = Q false st := rfl
theorem wpE_truthyS {l : List Nat} {st : St} {Q : Bool → St → Prop} : wp (pTruthy (.str l)) st Q = (l.length ≤ 1000000 ∧ Q (!l.isEmpty) st) := by
  by_cases h : l.length ≤ 1000000 <;> simp [wp, pTruthy, h]
theorem itemL {st : St} {j k : Nat} {xs : List V} {v : V} (h : st.sto[j]? = some (.list xs)) (hl : xs.length ≤ 1000000) (hk : xs[k]? = some v) : itemP st (.obj j) (.int (k : Int)) = some v := by
  have hlt : k < xs.length := by
    rcases Nat.lt_or_ge k xs.length with q | q
    · exact q
    · rw [List.getElem?_eq_none q] at hk; cases hk
  unfold itemP
  dsimp only
  rw [h]
  dsimp only
  rw [if_pos hl, idx_nat hlt]
  exact hk
theorem itemT {st : St} {j k : Nat} {xs : List V} {v : V} (h : st.sto[j]? = some (.tuple xs)) (hl : xs.length ≤ 1000000) (hk : xs[k]? = some v) : itemP st (.obj j) (.int (k : Int)) = some v := by
  have hlt : k < xs.length := by
    rcases Nat.lt_or_ge k xs.length with q | q
    · exact q
    · rw [List.getElem?_eq_none q] at hk; cases hk
  unfold itemP
  dsimp only
  rw [h]
  dsimp only
  rw [if_pos hl, idx_nat hlt]
  exact hk
theorem wpE_lenS {l : List Nat} {st : St} {Q : V → St → Prop} : wp (cLen [.str l]) st Q = (l.length ≤ 1000000 ∧ Q (.int l.length) st) := by
  by_cases h : l.length ≤ 1000000 <;> simp [wp, cLen, h]
theorem wpE_lenG {a : Addr} {xs : List Int} {st : St} {Q : V → St → Prop} : wp (cLenG a xs [.glob (.ref a)]) st Q = (xs.length ≤ 1000000 ∧ Q (.int xs.length) st) := by
  by_cases h : xs.length ≤ 1000000 <;> simp [wp, cLenG, h]
theorem wpE_sliceG {a : Addr} {xs : List Int} {l u : V} {lo hi : Option Int} {st : St} {Q : V → St → Prop} (h1 : asPart l = some lo) (h2 : asPart u = some hi) :
    wp (sliceG a xs (.glob (.ref a)) l u) st Q = (xs.length ≤ 1000000 ∧ Q (.obj st.sto.length) { st with sto := st.sto ++ [.list ((cut xs lo hi).map V.int)] }) := by
  unfold wp sliceG
  rw [h1, h2]
  by_cases h : xs.length ≤ 1000000 <;> simp [h, alloc]
theorem wpE_list {i : Nat} {xs : List V} {st : St} {Q : V → St → Prop} (h : st.sto[i]? = some (.list xs)) : wp (cList [.obj i]) st Q = (xs.length ≤ 1000000 ∧ Q (.obj st.sto.length) { st with sto := st.sto ++ [.list xs] }) := by
  by_cases hl : xs.length ≤ 1000000 <;> simp [wp, cList, h, hl, alloc]
theorem wpE_iterL {i : Nat} {xs : List V} {st : St} {Q : Src × List V → St → Prop} (h : st.sto[i]? = some (.list xs)) : wp (iterOf (.obj i)) st Q = Q (some (i, .list xs), xs) st := by
  simp [wp, iterOf, h]
theorem wpE_iterS {l : List Nat} {st : St} {Q : Src × List V → St → Prop} : wp (iterOf (.str l)) st Q = Q (none, l.map fun c => .str [c]) st := rfl
def vnat (n : Nat) : V := .int (n : Int)
theorem wpE_iterR {i n : Nat} {st : St} {Q : Src × List V → St → Prop} (h : st.sto[i]? = some (.range 0 (n : Int) 1)) (hn : n ≤ 1000000) : wp (iterOf (.obj i)) st Q = Q (none, (List.range n).map vnat) st := by
  have : iterOf (.obj i) st = .ok (none, (List.range n).map vnat) st := by
    unfold iterOf
    dsimp only
    rw [h]
    dsimp only
    rw [if_pos (by omega)]
    congr 2
    unfold rangeInts
    have e : (if (0 : Int) < (n : Int) then (((n : Int) - 0 - 1) / 1 + 1).toNat else 0) = n := by
      split
      · rw [Int.ediv_one]; omega
      · omega
    rw [e, List.map_map]
    refine List.map_congr_left fun i _ => ?_
    simp [vnat]
  unfold wp
  rw [this]
theorem wpE_iterR2 {i a b : Nat} {st : St} {Q : Src × List V → St → Prop} (h : st.sto[i]? = some (.range (a : Int) (b : Int) 1)) (hb : b ≤ 1000000) (hab : a ≤ b) : wp (iterOf (.obj i)) st Q = Q (none, ((List.range (b - a)).map (a + ·)).map vnat) st := by
  have : iterOf (.obj i) st = .ok (none, ((List.range (b - a)).map (a + ·)).map vnat) st := by
    unfold iterOf
    dsimp only
    rw [h]
    dsimp only
    rw [if_pos (by omega)]
    congr 2
    unfold rangeInts
    have e : (if (a : Int) < (b : Int) then (((b : Int) - a - 1) / 1 + 1).toNat else 0) = b - a := by
      split
      · rw [Int.ediv_one]; omega
      · omega
    rw [e, List.map_map, List.map_map]
    refine List.map_congr_left fun i _ => ?_
    simp [vnat]
  unfold wp
  rw [this]
theorem wpE_iterG {a : Addr} {xs : List Int} {st : St} {Q : Src × List V → St → Prop} : wp (iterG a xs (.glob (.ref a))) st Q = Q (none, xs.map V.int) st := by
  simp [wp, iterG, PM.pure]
theorem wpE_max2 {a b : Int} {st : St} {Q : V → St → Prop} : wp (cMax [.int a, .int b]) st Q = Q (.int (if b > a then b else a)) st := rfl
theorem wpE_min2 {a b : Int} {st : St} {Q : V → St → Prop} : wp (cMin [.int a, .int b]) st Q = Q (.int (if b < a then b else a)) st := rfl
theorem wpE_range1 {n : Int} {st : St} {Q : V → St → Prop} : wp (cRange [.int n]) st Q = Q (.obj st.sto.length) { st with sto := st.sto ++ [.range 0 n 1] } := rfl
theorem wpE_range2 {a b : Int} {st : St} {Q : V → St → Prop} : wp (cRange [.int a, .int b]) st Q = Q (.obj st.sto.length) { st with sto := st.sto ++ [.range a b 1] } := rfl
/-- loops over a told list -/
theorem wp_for {α : Type} {f : α → V} {src : Src} {body : V → PM Fl} {Q : Fl → St → Prop} {st : St} (xs : List α) (I : List α → (String → Option V) → List O → Prop) (hsrc : ∀ d loc sto, I d loc sto → ∀ p, src = some p → sto[p.1]? = some p.2)
    (step : ∀ d x r loc sto, xs = d ++ x :: r → I d loc sto → wp (body (f x)) ⟨loc, sto⟩ (fun fl s' => match fl with | .next => I (d ++ [x]) s'.loc s'.sto | .cont => I (d ++ [x]) s'.loc s'.sto | .brk => Q .next s' | .ret v => Q (.ret v) s'))
    (fin : ∀ loc sto, I xs loc sto → Q .next ⟨loc, sto⟩) (h0 : I [] st.loc st.sto) : wp (loopF src body (xs.map f)) st Q := by
  refine wp_loop (fun r s => ∃ d rs, xs = d ++ rs ∧ r = rs.map f ∧ I d s.loc s.sto) (fun r s hs p hp => ?_) (fun x r s hs => ?_) (fun s hs => ?_) _ _ ⟨[], xs, rfl, rfl, h0⟩
  · obtain ⟨d, rs, _, _, hI⟩ := hs
    exact hsrc d s.loc s.sto hI p hp
  · obtain ⟨d, rs, e1, e2, hI⟩ := hs
    cases rs with
    | nil => cases e2
    | cons y rs =>
      rw [List.map_cons, List.cons.injEq] at e2
      obtain ⟨rfl, rfl⟩ := e2
      refine wp_mono (step d y rs s.loc s.sto e1 hI) fun fl s' q => ?_
      cases fl with
      | next => exact ⟨d ++ [y], rs, by rw [e1]; simp, rfl, q⟩
      | cont => exact ⟨d ++ [y], rs, by rw [e1]; simp, rfl, q⟩
      | brk => exact q
      | ret v => exact q
  · obtain ⟨d, rs, e1, e2, hI⟩ := hs
    cases rs with
    | nil =>
      rw [List.append_nil] at e1
      subst e1
      exact fin s.loc s.sto hI
    | cons y rs => cases e2
/-- comprehensions over a told list -/
theorem wp_comp {α : Type} {f : α → V} {fr : List String} {n : String} {mi : PM V} {mc : PM Bool} {me : PM V} {st : St} {Q : V → St → Prop} {src : Src} {a : V} {st1 : St} (xs : List α) (keep : α → Bool) (val : α → V)
    (hmi : wp mi st (fun v s => v = a ∧ s = st1)) (hit : wp (iterOf a) st1 (fun v s => v = (src, xs.map f) ∧ s = st1)) (hn : n ∉ fr) (hsrc : ∀ p, src = some p → st1.sto[p.1]? = some p.2) (hl : xs.length ≤ 1000000)
    (step : ∀ x ∈ xs, ∀ loc sto, (∀ m ∈ fr, loc m = st1.loc m) → st1.sto <+: sto → loc n = some (f x) →
      wp mc ⟨loc, sto⟩ (fun b s2 => b = keep x ∧ (s2.loc = loc ∧ st1.sto <+: s2.sto) ∧ (keep x = true → wp me s2 (fun v s3 => v = val x ∧ s3.loc = loc ∧ st1.sto <+: s3.sto))))
    (hQ : ∀ sto', st1.sto <+: sto' → Q (.obj sto'.length) ⟨st1.loc, sto' ++ [.list ((xs.filter keep).map val)]⟩) : wp (compV fr n mi mc me) st Q := by
  obtain ⟨_, _, e1, rfl, rfl⟩ := wp_run hmi
  obtain ⟨_, _, e2, rfl, rfl⟩ := wp_run hit
  unfold compV
  rw [wp_bind]
  refine wp_of e1 ?_
  rw [wp_bind]
  refine wp_of e2 ?_
  rw [wp_bind]
  rename_i st1
  have key : ∀ (ys : List α) (acc : List V) (s : St), (∀ y ∈ ys, y ∈ xs) → acc.length + ys.length ≤ 1000000 → (∀ m ∈ fr, s.loc m = st1.loc m) ∧ st1.sto <+: s.sto →
      wp (compM src (setL n) mc me acc (ys.map f)) s (fun vs s' => vs = acc ++ (ys.filter keep).map val ∧ (∀ m ∈ fr, s'.loc m = st1.loc m) ∧ st1.sto <+: s'.sto) := by
    intro ys
    have hchk : ∀ s : St, st1.sto <+: s.sto → chk src s = .ok () s := fun s hs => by
      cases src with
      | none => rfl
      | some p => exact chk_some (get_pre hs (hsrc p rfl))
    induction ys with
    | nil =>
      intro acc s _ _ h
      rw [List.map_nil]
      unfold compM
      rw [wp_bind]
      exact wp_of (hchk s h.2) ⟨by simp, h⟩
    | cons y r ih =>
      intro acc s hm hl h
      rw [List.map_cons]
      unfold compM
      rw [wp_bind]
      refine wp_of (hchk s h.2) ?_
      rw [wp_bind, wp_setL, wp_bind]
      have hs' : ∀ m ∈ fr, (if m = n then some (f y) else s.loc m) = st1.loc m := fun m hm => by
        have hne : ¬ m = n := fun (e : m = n) => hn (e ▸ hm)
        rw [if_neg hne]; exact h.1 m hm
      simp only [List.length_cons] at hl
      refine wp_mono (step y (hm y (.head _)) (fun k => if k = n then some (f y) else s.loc k) s.sto hs' h.2 (by simp)) fun b s2 q => ?_
      obtain ⟨rfl, q2, q3⟩ := q
      cases hk : keep y with
      | true =>
        dsimp only
        rw [wp_bind]
        refine wp_mono (q3 hk) fun v s3 q4 => ?_
        obtain ⟨rfl, q5, q6⟩ := q4
        have hle : acc.length ≤ 1000000 := by omega
        have e0 : (fun st => if acc.length ≤ 1000000 then compM src (setL n) mc me (acc ++ [val y]) (r.map f) st else .fail : PM (List V)) = compM src (setL n) mc me (acc ++ [val y]) (r.map f) := by
          funext s'; rw [if_pos hle]
        rw [e0]
        refine wp_mono (ih (acc ++ [val y]) s3 (fun z hz => hm z (.tail _ hz)) (by simp; omega) ⟨fun m hm => by rw [q5]; exact hs' m hm, q6⟩) fun vs s' q7 => ⟨?_, q7.2⟩
        rw [q7.1, List.filter_cons, hk]
        simp
      | false =>
        dsimp only
        refine wp_mono (ih acc s2 (fun z hz => hm z (.tail _ hz)) (by omega) ⟨fun m hm => by rw [q2.1]; exact hs' m hm, q2.2⟩) fun vs s' q7 => ⟨?_, q7.2⟩
        rw [q7.1, List.filter_cons, hk]
        simp
  obtain ⟨vs, s', e, q⟩ := wp_run (key xs [] ⟨fun m => if m ∈ fr then st1.loc m else none, st1.sto⟩ (fun _ h => h) (by simpa using hl) ⟨fun m hm => by simp [hm], List.prefix_refl _⟩)
  unfold wp inScope
  dsimp only at e ⊢
  rw [e]
  dsimp only
  rw [if_pos q.2.1]
  dsimp only
  rw [q.1]
  exact hQ s'.sto q.2.2
theorem get_set_other {l : List O} {i j : Nat} {o o' : O} (h : l[i]? = some o) (hne : j ≠ i) : (l.set j o')[i]? = some o := by
  rw [List.getElem?_set_ne hne]; exact h
theorem get_set_here {l : List O} {i : Nat} {o o' : O} (h : l[i]? = some o) : (l.set i o')[i]? = some o' := List.getElem?_set_self (get_lt h)
-- the same with the state told as names and store
section
variable {loc : String → Option V} {sto : List O}
theorem wL_isList {i : Nat} {xs : List V} {Q : Unit → St → Prop} (h : sto[i]? = some (.list xs)) : wp (isList (.obj i)) ⟨loc, sto⟩ Q = Q () ⟨loc, sto⟩ := wp_isList h
theorem wL_isInst {n : String} {i : Nat} {as : List (String × V)} {Q : Unit → St → Prop} (h : sto[i]? = some (.inst as)) (hn : as.lookup n = none) : wp (isInst n (.obj i)) ⟨loc, sto⟩ Q = Q () ⟨loc, sto⟩ := wp_isInst h hn
theorem wL_append {i : Nat} {xs : List V} {v : V} {Q : V → St → Prop} (h : sto[i]? = some (.list xs)) (hl : xs.length ≤ 1000000) : wp (cAppend [.obj i, v]) ⟨loc, sto⟩ Q = Q .none ⟨loc, sto.set i (.list (xs ++ [v]))⟩ := wp_append h hl
theorem wL_len {i : Nat} {xs : List V} {Q : V → St → Prop} (h : sto[i]? = some (.list xs)) (hl : xs.length ≤ 1000000) : wp (cLen [.obj i]) ⟨loc, sto⟩ Q = Q (.int xs.length) ⟨loc, sto⟩ := wp_lenL h hl
theorem wL_gAttr {n : String} {i : Nat} {as : List (String × V)} {v : V} {Q : V → St → Prop} (h : sto[i]? = some (.inst as)) (hn : as.lookup n = some v) (hg : ∀ u, v ≠ .glob u) : wp (gAttr n (.obj i)) ⟨loc, sto⟩ Q = Q v ⟨loc, sto⟩ := wp_gAttr h hn hg
theorem wL_sAttr {n : String} {i : Nat} {as : List (String × V)} {v : V} {Q : Unit → St → Prop} (h : sto[i]? = some (.inst as)) (hl : as.length ≤ 90) : wp (sAttr n v (.obj i)) ⟨loc, sto⟩ Q = Q () ⟨loc, sto.set i (.inst (putA n v as))⟩ := wp_sAttr h hl
theorem wL_item {j k : Nat} {xs : List V} {v : V} {Q : V → St → Prop} (h : sto[j]? = some (.list xs)) (hl : xs.length ≤ 1000000) (hk : xs[k]? = some v) : wp (pItem (.obj j) (.int (k : Int))) ⟨loc, sto⟩ Q = Q v ⟨loc, sto⟩ := wp_item (itemL h hl hk)
theorem wL_itemT {j k : Nat} {xs : List V} {v : V} {Q : V → St → Prop} (h : sto[j]? = some (.tuple xs)) (hl : xs.length ≤ 1000000) (hk : xs[k]? = some v) : wp (pItem (.obj j) (.int (k : Int))) ⟨loc, sto⟩ Q = Q v ⟨loc, sto⟩ := wp_item (itemT h hl hk)
theorem wL_list {i : Nat} {xs : List V} {Q : V → St → Prop} (h : sto[i]? = some (.list xs)) : wp (cList [.obj i]) ⟨loc, sto⟩ Q = (xs.length ≤ 1000000 ∧ Q (.obj sto.length) ⟨loc, sto ++ [.list xs]⟩) := wpE_list h
theorem wL_iter {i : Nat} {xs : List V} {Q : Src × List V → St → Prop} (h : sto[i]? = some (.list xs)) : wp (iterOf (.obj i)) ⟨loc, sto⟩ Q = Q (some (i, .list xs), xs) ⟨loc, sto⟩ := wpE_iterL h
theorem wL_iterR {i n : Nat} {Q : Src × List V → St → Prop} (h : sto[i]? = some (.range 0 (n : Int) 1)) (hn : n ≤ 1000000) : wp (iterOf (.obj i)) ⟨loc, sto⟩ Q = Q (none, (List.range n).map vnat) ⟨loc, sto⟩ := wpE_iterR h hn
theorem wL_iterR2 {i a b : Nat} {Q : Src × List V → St → Prop} (h : sto[i]? = some (.range (a : Int) (b : Int) 1)) (hb : b ≤ 1000000) (hab : a ≤ b) : wp (iterOf (.obj i)) ⟨loc, sto⟩ Q = Q (none, ((List.range (b - a)).map (a + ·)).map vnat) ⟨loc, sto⟩ := wpE_iterR2 h hb hab
theorem wL_unpack2 {j : Nat} {v w : V} {g1 g2 : V → PM Unit} {Q : Unit → St → Prop} (h : sto[j]? = some (.tuple [v, w])) : wp (unpackP [g1, g2] (.obj j)) ⟨loc, sto⟩ Q = wp (g1 v) ⟨loc, sto⟩ (fun _ s => wp (g2 w) s Q) := by
  have e : unpackP [g1, g2] (.obj j) ⟨loc, sto⟩ = PM.bind (g1 v) (fun _ => PM.bind (g2 w) fun _ => PM.pure ()) ⟨loc, sto⟩ := by
    unfold unpackP
    simp only [h, List.length_cons, List.length_nil, if_true, asgAll]
  have e2 : wp (unpackP [g1, g2] (.obj j)) ⟨loc, sto⟩ Q = wp (PM.bind (g1 v) (fun _ => PM.bind (g2 w) fun _ => PM.pure ())) ⟨loc, sto⟩ Q := by
    unfold wp; rw [e]
  rw [e2]
  simp only [wp_bind, wp_pure]
theorem eqL_nats {i j : Nat} {l : List Nat} (h1 : sto[i]? = some (.list (l.map vnat))) (h2 : sto[j]? = some (.list [])) : eqP ⟨loc, sto⟩ (.obj i) (.obj j) = some l.isEmpty := by
  unfold eqP toD
  simp only [h1, h2]
  have e : ∀ a : List Nat, toDs (toD 3 sto) (a.map vnat) = some (a.map fun n : Nat => PyData.int (n : Int)) := by
    intro a
    induction a with
    | nil => rfl
    | cons x r ih => rw [List.map_cons, toDs, ih]; rfl
  rw [e]
  simp only [toDs, Option.map_some]
  congr 1
  cases l <;> simp [PyData.eqv, PyData.eqvAll]
theorem wL_entry {Q : V → St → Prop} (h : Q (.obj sto.length) ⟨loc, sto ++ [.inst [("useragents", .obj (sto.length + 1)), ("rulelines", .obj (sto.length + 2)), ("delay", .none), ("req_rate", .none)], .list [], .list []]⟩) :
    wp (newInst initE ["self"] []) ⟨loc, sto⟩ Q := wp_entry h
end
theorem filt_true {α : Type} (l : List α) : l.filter (fun _ => true) = l := List.filter_eq_self.mpr fun _ _ => rfl
theorem cps_e : cps "" = [] := by kernel_rfl
theorem loc2 (p q : String) (v w : V) : (fun n => ([p, q].zip [v, w]).lookup n) = fun n => if n = p then some v else if n = q then some w else none := by
  funext n
  simp only [List.zip_cons_cons, List.zip_nil_left, List.lookup_cons, List.lookup_nil]
  by_cases h1 : n = p
  · subst h1; simp
  · have : (n == p) = false := by simpa using h1
    rw [this, if_neg h1]
    by_cases h2 : n = q
    · subst h2; simp
    · have : (n == q) = false := by simpa using h2
      simp [this, if_neg h2]
end Mine
namespace Mine
/-- equality of lists that may hold instances: the same one is equal -/
def eqE (st : St) (v w : V) : Option Bool := match v, w with
  | .obj i, .obj j => if i = j then some true else eqP st (.obj i) (.obj j)
  | v, w => eqP st v w
def eqsE (st : St) : List V → List V → Option Bool
  | [], [] => some true
  | v :: r, w :: q => match eqE st v w, eqsE st r q with
    | some a, some b => some (a && b)
    | _, _ => none
  | _, _ => none
def eqX (st : St) : V → V → Option Bool
  | .obj i, .obj j => match st.sto[i]?, st.sto[j]? with
    | some (.list xs), some (.list ys) => if xs.length = ys.length then eqsE st xs ys else some false
    | _, _ => none
  | _, _ => none
def pEqX (a b : V) : PM V := fun st => match eqX st a b with | some c => .ok (.bool c) st | none => .fail
def pNeX (a b : V) : PM V := fun st => match eqX st a b with | some c => .ok (.bool (!c)) st | none => .fail
section
variable {cx : Cx}
theorem eqE_at {ρ : Map} {hid : Hd} {st : St} {s : Shared} {A₀ : Around} (hu : A₀.units + 10 < cLine) (x : Rel cx ρ hid st s) {v w : V} {A B : Value} {c : Bool} (ha : VR ρ v A) (hb : VR ρ w B) (h : eqE st v w = some c) : SeqAt.EqAt A₀ s A B c := by
  have key : ∀ {v w : V} {A B : Value}, VR ρ v A → VR ρ w B → eqP st v w = some c → SeqAt.EqAt A₀ s A B c := by
    intro v w A B ha hb h
    unfold eqP at h
    split at h
    · rename_i d d' h1 h2
      cases h
      obtain ⟨fz, led, m, mloc, x'⟩ := id x
      obtain ⟨as, a1, a2, a3⟩ := toD_reads x' 4 _ A d ha h1
      obtain ⟨bs, b1, b2, b3⟩ := toD_reads x' 4 _ B d' hb h2
      exact SeqAt.eqAt_reads _ _ _ _ _ _ _ _ a1 b1 a2 b2 (by omega)
    · cases h
  unfold eqE at h
  split at h
  · split at h
    · rename_i i j e
      cases h
      subst e
      obtain ⟨p, e1, rfl⟩ := vr_obj ha; obtain ⟨q, e2, rfl⟩ := vr_obj hb
      have : p = q := Option.some.inj (e1.symm.trans e2)
      subst this
      exact SeqAt.EqAt.same _
    · exact key ha hb h
  · exact key ha hb h
theorem range_all_succ (n : Nat) (e : Nat → Bool) : (List.range (n + 1)).all e = (e 0 && (List.range n).all fun j => e (j + 1)) := by
  rw [List.range_succ_eq_map, List.all_cons, List.all_map]; rfl
theorem eqsE_at {ρ : Map} {hid : Hd} {st : St} {s : Shared} {A₀ : Around} (hu : A₀.units + 10 < cLine) (x : Rel cx ρ hid st s) : ∀ {vs ws : List V} {As Bs : List Value} {c : Bool}, VRs ρ vs As → VRs ρ ws Bs → eqsE st vs ws = some c →
    ∃ e : Nat → Bool, (∀ j A B, As[j]? = some A → Bs[j]? = some B → SeqAt.EqAt A₀ s A B (e j)) ∧ (List.range As.length).all e = c
  | _, _, _, _, c, .nil, .nil, h => by
    cases h
    exact ⟨fun _ => true, fun j A B h => by simp at h, rfl⟩
  | _, _, _, _, c, .cons x1 t1, .cons x2 t2, h => by
    unfold eqsE at h
    split at h
    · rename_i a b h1 h2
      cases h
      obtain ⟨e, e1, e2⟩ := eqsE_at hu x t1 t2 h2
      refine ⟨fun j => match j with | 0 => a | j + 1 => e j, fun j A B hA hB => ?_, ?_⟩
      · cases j with
        | zero => simp at hA hB; subst hA hB; exact eqE_at hu x x1 x2 h1
        | succ j => simp at hA hB; exact e1 j A B hA hB
      · rw [List.length_cons, range_all_succ]
        dsimp only
        rw [e2]
    · cases h
  | _, _, _, _, c, .nil, .cons _ _, h => by cases h
  | _, _, _, _, c, .cons _ _, .nil, h => by cases h
theorem eqX_at (ok : cx.Ok) {ρ : Map} {hid : Hd} {st : St} {s : Shared} (x : Rel cx ρ hid st s) {v w : V} {A B : Value} {c : Bool} (ha : VR ρ v A) (hb : VR ρ w B) (h : eqX st v w = some c) : SeqAt.RcAt cx.A s A B c ∧ SeqAt.RcNeAt cx.A s A B (!c) := by
  have hu := ok.units
  unfold eqX at h
  split at h
  · rename_i i j
    obtain ⟨p, hp, rfl⟩ := vr_obj ha
    obtain ⟨q, hq, rfl⟩ := vr_obj hb
    obtain ⟨fz, led, m, mloc, x'⟩ := id x
    split at h
    · rename_i xs ys hi hj
      obtain ⟨Xs, n1, g1, g2⟩ := x'.list_at hi hp
      obtain ⟨Ys, n2, k1, k2⟩ := x'.list_at hj hq
      have l1 : s.heap.IsList p.1 Xs.toArray := ⟨_, (x'.N _ g2).1, rfl, _, rfl⟩
      have l2 : s.heap.IsList q.1 Ys.toArray := ⟨_, (x'.N _ k2).1, rfl, _, rfl⟩
      have len1 := g1.length
      have len2 := k1.length
      split at h
      · rename_i hl
        obtain ⟨e, e1, e2⟩ := eqsE_at (A₀ := cx.A.in1) (by show cx.A.units + 1 + 10 < _; omega) x g1 k1 h
        have hsz : Xs.toArray.size = Ys.toArray.size := by simp; omega
        have he : ∀ j (h1 : j < Xs.toArray.size) (h2 : j < Ys.toArray.size), SeqAt.EqAt cx.A.in1 s Xs.toArray[j] Ys.toArray[j] (e j) := fun j h1 h2 => e1 j _ _ (by simp) (by simp)
        have r1 := SeqAt.RcAt.lists l1 l2 hsz (by omega) he
        have r2 := SeqAt.RcNeAt.lists l1 l2 hsz (by omega) he
        rw [List.size_toArray, e2] at r1 r2
        exact ⟨r1, r2⟩
      · rename_i hl
        cases h
        have hsz : (Xs.toArray.size != Ys.toArray.size) = true := by simp; omega
        exact ⟨SeqAt.RcAt.lists_lengths l1 l2 hsz (by omega), SeqAt.RcNeAt.lists_lengths l1 l2 hsz (by omega)⟩
    · cases h
  · cases h
theorem p_neX (ok : cx.Ok) : P2 cx (compareOp .NotEq) pNeX VR := by
  intro ρ hid st s x a A b B ha hb v st' h
  unfold pNeX at h
  split at h
  · rename_i c e
    cases h
    exact (eqX_at ok x ha hb e).2 _ _ _ _ (fin_same x (.bool _))
  · cases h
/-- type() -/
def typeV : V → Option String
  | .none => some "NoneType"
  | .bool _ => some "bool"
  | .int _ => some "int"
  | .str _ => some "str"
  | _ => none
def cType : List V → PM V
  | [v] => fun st => match typeV v with | some T => .ok (.glob (.type T)) st | none => .fail
  | _ => PM.fail
theorem pc_type : PC cx (.type "type") cType := by
  intro ρ hid st s x vs Vs hv v st' h
  unfold cType at h
  split at h
  · rename_i w
    obtain ⟨A, rfl, ha⟩ := vrs_one hv
    split at h
    · rename_i T hT
      cases h
      cases w <;> simp only [typeV, Option.some.injEq, reduceCtorEq] at hT
      · cases vr_none ha; subst hT
        exact call_type_of (typeIs_none _) (by decide) (fin_same x (.glob _))
      · cases vr_bool ha; subst hT
        exact call_type_of (typeIs_bool' _ _) (by decide) (fin_same x (.glob _))
      · obtain ⟨t, rfl⟩ := vr_int ha; subst hT
        exact call_type_of (typeIs_int _ _ _) (by decide) (fin_same x (.glob _))
      · obtain ⟨t, rfl⟩ := vr_str ha; subst hT
        exact call_type_of (typeIs_str _ _ _) (by decide) (fin_same x (.glob _))
    · cases h
  · cases h
/-- list.index of a text among texts -/
def cIndex : List V → PM V
  | [.obj i, .str w] => fun st => match st.sto[i]? with
    | some (.list xs) => (match strsOf xs with
      | some ls => if ls.length ≤ 1000000 ∧ w ∈ ls then .ok (.int (ls.idxOf w : Nat)) st else .fail
      | none => .fail)
    | _ => .fail
  | _ => PM.fail
theorem eqAt_strs {A₀ : Around} {s : Shared} (a b : List Nat) (t u : Tok) : SeqAt.EqAt A₀ s (.str ⟨a.toArray⟩ t) (.str ⟨b.toArray⟩ u) (decide (a = b)) := by
  have h := SeqAt.EqAt.str_str (A := A₀) (s := s) ⟨a.toArray⟩ t ⟨b.toArray⟩ u
  have e : ((⟨a.toArray⟩ : Str) == ⟨b.toArray⟩) = decide (a = b) := by
    by_cases q : a = b
    · subst q; simp
    · rw [decide_eq_false q, beq_eq_false_iff_ne]
      exact fun e => q (str_inj e)
  rw [e] at h
  exact h
theorem pc_index : PC cx (.builtin "list.index") cIndex := by
  intro ρ hid st s x vs Vs hv v st' h
  unfold cIndex at h
  split at h
  · rename_i i w
    obtain ⟨A, B, rfl, ha, hb⟩ := vrs_two hv
    obtain ⟨p, hp, rfl⟩ := vr_obj ha
    obtain ⟨tw, rfl⟩ := vr_str hb
    split at h
    · rename_i xs hi
      split at h
      · rename_i ls hls
        split at h
        · rename_i hl
          cases h
          cases strsOf_eq hls
          obtain ⟨fz, led, m, mloc, x'⟩ := id x
          obtain ⟨Xs, n, g1, g2⟩ := x'.list_at hi hp
          have hlen := g1.length
          rw [List.length_map] at hlen
          have hj : ls.idxOf w < ls.length := List.idxOf_lt_length_iff.mpr hl.2
          have hX : ∀ (k : Nat) (hk : k < ls.length), ∃ t, Xs[k]? = some (.str ⟨ls[k].toArray⟩ t) := fun k hk => by
            obtain ⟨W, h1, h2⟩ := vrs_get g1 (k := k) (v := .str ls[k]) (by rw [List.getElem?_map, List.getElem?_eq_getElem hk]; rfl)
            obtain ⟨t, rfl⟩ := vr_str h2
            exact ⟨t, h1⟩
          let e : Value → Bool := fun V => match V with | .str y _ => decide (y = ⟨w.toArray⟩) | _ => false
          have he : ∀ (k : Nat) (hk : k < ls.length) (hk' : k < Xs.toArray.size), e Xs.toArray[k] = decide (ls[k] = w) := fun k hk hk' => by
            obtain ⟨t, h1⟩ := hX k hk
            rw [List.getElem?_eq_getElem (by simpa using hk')] at h1
            have h2 : Xs.toArray[k] = .str ⟨ls[k].toArray⟩ t := by simpa using h1
            rw [h2]
            show decide ((⟨ls[k].toArray⟩ : Str) = ⟨w.toArray⟩) = _
            by_cases q : ls[k] = w
            · rw [decide_eq_true q, decide_eq_true (by rw [q])]
            · rw [decide_eq_false q, decide_eq_false (fun z => q (str_inj z))]
          refine call_meets PySem.F.slot_list_index ⟨_, (x'.N _ g2).1, rfl⟩ PySem.F.entry_list_index (PySem.F.args_list_index_2 _ _)
            (SeqAt.list_indexAt p.1 Xs.toArray n none #[] (.str ⟨w.toArray⟩ tw) e (ls.idxOf w) (by rw [List.size_toArray]; omega) (by omega) ?_ ?_) ⟨(x'.N _ g2).1, ?_, ?_⟩
          · rw [he _ hj]
            simp
          · intro k hk hlt
            rw [he k (by omega)]
            rw [decide_eq_false_iff_not]
            intro q
            have h3 := List.not_of_lt_findIdx (p := (· == w)) (xs := ls) (i := k) hlt
            rw [beq_eq_false_iff_ne] at h3
            exact h3 q
          · intro y hy
            obtain ⟨k, hk, rfl⟩ := Array.getElem_of_mem hy
            have hk2 : k < ls.length := by rw [List.size_toArray] at hk; omega
            rw [he k hk2]
            obtain ⟨t, h1⟩ := hX k hk2
            have h2 : Xs.toArray[k] = .str ⟨ls[k].toArray⟩ t := by
              rw [List.getElem?_eq_getElem (by simpa using hk)] at h1
              simpa using h1
            rw [h2]
            exact eqAt_strs _ _ _ _
          · exact ⟨ρ, pre_refl ρ, x.toks _, .int _ _⟩
        · cases h
      · cases h
    · cases h
  · cases h
/-- del xs[:] -/
def delAllP : V → PM Unit
  | .obj j => fun st => match st.sto[j]? with
    | some (.list xs) => if xs.length ≤ 1000000 then .ok () { st with sto := st.sto.set j (.list []) } else .fail
    | _ => .fail
  | _ => PM.fail
theorem delItem_all {prog : Program} {w : World} {A : Around} {E : Value → Shared → Prop} {s : Shared} {D sl : Addr} {its : Array Value} {n : Nat} {Q : Unit → Shared → Prop} (ho : s.heap.get? D = some { cls := .type "list", data := .seq its n }) (hs : s.heap.IsSliceOf sl .none .none .none)
    (h : ∀ h' n', Heap.SameBut D s.heap h' → h'.get? D = some { cls := .type "list", data := .seq #[] n' } → Q () { s with heap := h' }) (hsz : its.size ≤ sizeLine) : wpAny (model prog w) A (delItem (.ref D) (.ref sl)) Q E s := by
  obtain ⟨os, hos, hcs, hds⟩ := id hs
  have hTs : s.TypeIs (.ref sl) "slice" := ⟨os, hos, hcs⟩
  refine wpAny_delItem_slot (T := "list") ⟨_, ho, rfl⟩ (by decide) PySem.F.slot_list_delitem ?_
  refine wpAny_call_entry PySem.F.slot_list_delitem ⟨_, ho, rfl⟩ PySem.F.entry_list_delitem ?_ (PySem.F.args_list_delitem_2 _ _)
  show wpAny _ _ (Builtin.List.listSubscript? (.ref sl) >>= _) _ _ s
  refine wpAny_bind ?_
  unfold Builtin.List.listSubscript?
  refine wpAny_bind (wpAny_specialOf hTs slice_no_index ?_)
  simp only [Option.isNone_none, if_true]
  refine wpAny_pure ?_
  show wpAny _ _ (typeOf (.ref sl) >>= _) _ _ s
  refine wpAny_bind (wpAny_typeOf hTs ?_)
  rw [if_neg (by decide)]
  rw [listSliceParts_eq]
  refine wpAny_bind (wpAny_bind (wpAny_field hos hds (x := .none) rfl (wpAny_bind (wpAny_listPart .none ?_))))
  rw [if_neg (by exact Bool.false_ne_true)]
  refine wpAny_bind (wpAny_field hos hds (x := .none) rfl (wpAny_bind (wpAny_listPart .none ?_)))
  refine wpAny_bind (wpAny_field hos hds (x := .none) rfl (wpAny_bind (wpAny_listPart .none (wpAny_pure ?_))))
  refine wpAny_bind (m := Builtin.List.listItems (.ref D)) ?_
  unfold Builtin.List.listItems
  refine wpAny_bind (wpAny_seqItems ho rfl (wpAny_pure ?_))
  refine wpAny_bind (wpAny_of_eq (sliceIndices_raw none none none its.size (by simp)) ?_)
  refine wpAny_bind (wpAny_rule ?_)
  have hsel : ∀ (f : Array Value → Array Value), (∀ xs, f xs = (List.filterMap (fun x : Value × Nat => if (if (1 : Int) > 0 then decide ((0 : Int) ≤ x.2) && decide ((x.2 : Int) < (its.size : Int)) && ((x.2 : Int) - 0) % 1 == 0 else decide ((its.size : Int) < x.2) && decide ((x.2 : Int) ≤ 0) && ((0 : Int) - x.2) % (-1) == 0) = true then none else some x.1) xs.toList.zipIdx).toArray) → f its = #[] := by
    intro f hf
    rw [hf]
    have : List.filterMap (fun x : Value × Nat => if (if (1 : Int) > 0 then decide ((0 : Int) ≤ x.2) && decide ((x.2 : Int) < (its.size : Int)) && ((x.2 : Int) - 0) % 1 == 0 else decide ((its.size : Int) < x.2) && decide ((x.2 : Int) ≤ 0) && ((0 : Int) - x.2) % (-1) == 0) = true then none else some x.1) its.toList.zipIdx = [] := by
      rw [List.filterMap_eq_nil_iff]
      intro x hx
      have hlt : x.2 < its.size := by
        have := List.snd_lt_of_mem_zipIdx hx
        simpa using this
      rw [if_pos]
      rw [if_pos (by decide)]
      simp [hlt, Int.emod_one]
    rw [this]
  refine wpAny_bind (m := updateSeq D _) ?_
  have fin : ∀ (f : Array Value → Array Value), f its = #[] → ∀ (g : List Value) {P : Fin → Shared → Prop}, (∀ h' n', Heap.SameBut D s.heap h' → h'.get? D = some { cls := .type "list", data := .seq #[] n' } → P (.done (.ret .none)) { s with heap := h' }) → wpAny (model prog w) A.in1 (updateSeq D f) (fun _ s' => wpAny (model prog w) A.in1 (letGo g >>= fun _ => ret .none) P E s') E s := by
    intro f hf g P hP
    have hm : ∃ n', Obj.mapSeq f { cls := .type "list", data := .seq its n } = { cls := .type "list", data := .seq #[] n' } := by
      unfold Obj.mapSeq
      dsimp only
      rw [hf]
      exact ⟨_, rfl⟩
    obtain ⟨n', hm⟩ := hm
    refine wpAny_updateSeq ho rfl ?_ hsz (by rw [hf]; exact Nat.zero_le _)
    refine wpAny_bind (wpAny_letGo (wpAny_pure (hP _ n' (Heap.SameBut.update ..) ?_)))
    rw [Heap.get?_update_self _ ho (by rw [hm]; rfl), hm]
  exact fin _ (hsel _ fun _ => rfl) _ fun h' n' h1 h2 => ⟨_, rfl, h h' n' h1 h2⟩
theorem del_all (ok : cx.Ok) {o : Expr} {sp pos' pos : Pos} {mo : PM V} (ho : SimV cx (eval o cx.env) mo) :
    SimS cx (.Delete [.Subscript o (.Slice none none none sp) pos'] pos) (PM.bind mo fun a => PM.bind (delAllP a) fun _ => PM.pure .next) := by
  intro ρ hid st s x v st' h
  obtain ⟨a, st1, e1, h1⟩ := bind_ok h
  obtain ⟨_, st3, e3, h3⟩ := bind_ok h1
  cases h3
  refine wpAny_Delete ?_
  rw [arm_deleteEach_cons, arm_delete_Subscript]
  refine wpAny_bind (wpAny_bind (wp_seq (ho ρ hid st s x a st1 e1) fun A s1 ρ1 p1 r1 v1 => wpAny_bind (wpAny_holding ?_)))
  rw [arm_eval_Slice]
  refine wpAny_bind (wpAny_pure (wpAny_bind (wpAny_holding (wpAny_pure (wpAny_bind (wpAny_holding (wpAny_pure ?_)))))))
  refine wpAny_newObj_type ?_ (by size_fits)
  refine wpAny_bind (wpAny_standAt (wpAny_bind (wpAny_holding ?_)))
  unfold delAllP at e3
  split at e3
  · rename_i j
    obtain ⟨p, hp, rfl⟩ := vr_obj v1
    split at e3
    · rename_i xs hj
      split at e3
      · rename_i hl
        cases e3
        have rg := rel_garbage r1 (ob := { cls := .type "slice", data := .fields #[.none, .none, .none] }) (tk := s1.toks) rfl
        obtain ⟨fz, led, m, mloc, x'⟩ := id rg
        obtain ⟨Xs, n, g1, g2⟩ := x'.list_at hj hp
        have hg := x'.N _ g2
        refine delItem_all hg.1 (Heap.IsSliceOf.new ..) (fun h' n' hs q => ?_) (by rw [List.size_toArray, ← g1.length]; exact list_fits hl)
        refine wpAny_release (wpAny_pure ⟨ρ1, p1, ?_, .next⟩)
        exact x'.put_list (Ys := []) (tk := s1.toks) hp g2 .nil (Fr.sameBut x'.F hs hg.2.1 hg.2.2) (News.updL x'.N g2 hs q)
      · cases e3
    · cases e3
  · cases e3
end
end Mine
namespace Mine
noncomputable def clos_10_s1 : PM Fl := (PM.bind (PM.bind (getL "log") fun v => PM.bind (isList v) fun _ => PM.bind (PM.bind (PM.bind (PM.bind (getL "place") fun v => PM.bind (PM.bind (getL "name") fun v => PM.bind (PM.pure []) fun vs => PM.pure (v :: vs)) fun vs => PM.pure (v :: vs)) allocTuple) fun v => PM.bind (PM.pure []) fun vs => PM.pure (v :: vs)) fun vs => cAppend (v :: vs)) fun v => match v with | .obj _ => PM.fail | .glob _ => PM.fail | _ => PM.pure .next)
noncomputable def clos_10_s2 : PM Fl := (PM.bind (PM.bind (getL "reaches") fun o => PM.bind (PM.bind (getL "names") fun v => PM.bind (isList v) fun _ => PM.bind (PM.bind (getL "name") fun v => PM.bind (PM.pure []) fun vs => PM.pure (v :: vs)) fun vs => cIndex (v :: vs)) fun i => pItem o i) fun v => PM.pure (.ret v))
noncomputable def clos10 : PM Fl := (seqF clos_10_s1 clos_10_s2)
noncomputable def allow_10_s1 : PM Fl := (PM.bind (getL "m") fun v => PM.bind (setL "best_match" v) fun _ => PM.pure .next)
noncomputable def allow_10_s2 : PM Fl := (PM.bind (PM.bind (getL "line") (gAttr "allowance")) fun v => PM.bind (setL "allowance" v) fun _ => PM.pure .next)
noncomputable def allow_10_s3 : PM Fl := (PM.bind (PM.bind (getL "line") fun v => PM.bind (lookA "applies_to" v) fun c => PM.bind (PM.bind (getL "filename") fun v => PM.bind (PM.pure []) fun vs => PM.pure (v :: vs)) fun vs => callA (callP ["self", "useragent"] applE) "name" clos10 c v vs) fun v => PM.bind (setL "m" v) fun _ => PM.pure .next)
noncomputable def allow_10_s4 : PM Fl := (iteP (PM.bind (getL "m") pTruthy) (iteP (PM.bind (getL "m") fun a => PM.bind (getL "best_match") fun b => PM.bind (pGt a b) pTruthy) (seqF allow_10_s1 allow_10_s2) (iteP (andP (PM.bind (getL "m") fun a => PM.bind (getL "best_match") fun b => PM.bind (pEq a b) pTruthy) (andP (PM.bind (PM.bind (getL "allowance") pTruthy) fun b => PM.pure (!b)) (PM.pure true))) (PM.bind (PM.bind (getL "line") (gAttr "allowance")) fun v => PM.bind (setL "allowance" v) fun _ => PM.pure .next) (PM.pure .next))) (PM.pure .next))
noncomputable def allow_10_f5 : PM Fl := (seqF allow_10_s3 allow_10_s4)
noncomputable def allow_10_s6 : PM Fl := (PM.bind (PM.bind (PM.pure (.int 1)) pNeg) fun v => PM.bind (setL "best_match" v) fun _ => PM.pure .next)
noncomputable def allow_10_s7 : PM Fl := (PM.bind (PM.pure (.bool true)) fun v => PM.bind (setL "allowance" v) fun _ => PM.pure .next)
noncomputable def allow_10_s8 : PM Fl := (PM.bind (PM.bind (getL "self") (gAttr "rulelines")) fun v => PM.bind (iterOf v) fun p => loopF p.1 (fun x => PM.bind ((setL "line") x) fun _ => allow_10_f5) p.2)
noncomputable def allow_10_s9 : PM Fl := (PM.bind (getL "allowance") fun v => PM.pure (.ret v))
noncomputable def allow10 : PM Fl := (seqF allow_10_s6 (seqF allow_10_s7 (seqF allow_10_s8 allow_10_s9)))
noncomputable def rule_10_c1 : PM V := compV ["number"] "j" (PM.bind (PM.bind (PM.pure (.int 4)) fun v => PM.bind (PM.pure []) fun vs => PM.pure (v :: vs)) cRange) (PM.pure true) (PM.bind (PM.bind (PM.bind (getL "number") fun a => PM.bind (PM.pure (.int 2)) fun b => pDiv a b) fun a => PM.bind (PM.bind (PM.pure (.int 5)) fun a => PM.bind (getL "j") fun b => pPow a b) fun b => pDiv a b) fun a => PM.bind (PM.pure (.int 5)) fun b => pMod a b)
noncomputable def rule_10_s2 : PM Fl := (PM.bind (mkClos ["log", "place", "reaches", "names"]) fun v => PM.bind (setL "_law_reach" v) fun _ => PM.pure .next)
noncomputable def rule_10_s3 : PM Fl := (PM.bind (getL "_law_reach") fun v => PM.bind (getL "rule") fun a => PM.bind (sAttr "applies_to" v a) fun _ => PM.pure .next)
noncomputable def rule_10_s4 : PM Fl := (PM.bind (PM.bind (PM.bind (getL "rule") fun v => PM.bind (PM.bind (getL "reaches") fun v => PM.bind (PM.pure []) fun vs => PM.pure (v :: vs)) fun vs => PM.pure (v :: vs)) allocTuple) fun v => PM.pure (.ret v))
noncomputable def rule10 : PM Fl := (seqF (PM.bind (PM.bind (PM.pure []) (newInst initE ["self"])) fun v => PM.bind (setL "rule" v) fun _ => PM.pure .next) (seqF (PM.bind (iteP (PM.bind (PM.bind (getL "number") fun a => PM.bind (PM.pure (.int 2)) fun b => pMod a b) fun a => PM.bind (PM.pure (.int 1)) fun b => PM.bind (pEq a b) pTruthy) (PM.bind (PM.pure (.str (cps "x"))) fun a => PM.bind (PM.bind (getL "place") fun a => PM.bind (PM.pure (.int 1)) fun b => pAdd a b) fun b => pMul a b) (PM.pure (.str (cps "")))) fun v => PM.bind (getL "rule") fun a => PM.bind (sAttr "allowance" v a) fun _ => PM.pure .next) (seqF (PM.bind rule_10_c1 fun v => PM.bind (setL "reaches" v) fun _ => PM.pure .next) (seqF rule_10_s2 (seqF rule_10_s3 rule_10_s4)))))
noncomputable def l10s1 : PM Fl := (PM.bind (PM.bind (PM.bind (getL "place") fun v => PM.bind (PM.bind (PM.bind (getL "script") fun o => PM.bind (getL "place") fun i => pItem o i) fun v => PM.bind (PM.bind (getL "names") fun v => PM.bind (PM.bind (getL "log") fun v => PM.bind (PM.pure []) fun vs => PM.pure (v :: vs)) fun vs => PM.pure (v :: vs)) fun vs => PM.pure (v :: vs)) fun vs => PM.pure (v :: vs)) (callP ["place", "number", "names", "log"] rule10)) fun v => PM.bind ((unpackP [(setL "rule"), (setL "reaches")]) v) fun _ => PM.pure .next)
noncomputable def l10s2 : PM Fl := (PM.bind (PM.bind (getL "given") fun v => PM.bind (isList v) fun _ => PM.bind (PM.bind (getL "rule") fun v => PM.bind (PM.pure []) fun vs => PM.pure (v :: vs)) fun vs => cAppend (v :: vs)) fun v => match v with | .obj _ => PM.fail | .glob _ => PM.fail | _ => PM.pure .next)
noncomputable def l10s3 : PM Fl := (PM.bind (PM.bind (getL "table") fun v => PM.bind (isList v) fun _ => PM.bind (PM.bind (PM.bind (PM.bind (getL "reaches") fun v => PM.bind (PM.bind (PM.bind (PM.bind (PM.bind (getL "script") fun o => PM.bind (getL "place") fun i => pItem o i) fun a => PM.bind (PM.pure (.int 2)) fun b => pMod a b) fun a => PM.bind (PM.pure (.int 1)) fun b => pEq a b) fun v => PM.bind (PM.pure []) fun vs => PM.pure (v :: vs)) fun vs => PM.pure (v :: vs)) allocTuple) fun v => PM.bind (PM.pure []) fun vs => PM.pure (v :: vs)) fun vs => cAppend (v :: vs)) fun v => match v with | .obj _ => PM.fail | .glob _ => PM.fail | _ => PM.pure .next)
noncomputable def l10f4 : PM Fl := (seqF l10s1 (seqF l10s2 l10s3))
noncomputable def l10c5 : PM V := compV ["names", "j"] "place" (PM.bind (PM.bind (PM.bind (PM.bind (getL "script") fun v => PM.bind (PM.pure []) fun vs => PM.pure (v :: vs)) cLen) fun v => PM.bind (PM.pure []) fun vs => PM.pure (v :: vs)) cRange) (PM.pure true) (PM.bind (PM.bind (getL "place") fun v => PM.bind (PM.bind (PM.bind (getL "names") fun o => PM.bind (getL "j") fun i => pItem o i) fun v => PM.bind (PM.pure []) fun vs => PM.pure (v :: vs)) fun vs => PM.pure (v :: vs)) allocTuple)
noncomputable def l10c6 : PM V := compV ["table", "j", "far"] "place" (PM.bind (PM.bind (PM.bind (PM.bind (getL "script") fun v => PM.bind (PM.pure []) fun vs => PM.pure (v :: vs)) cLen) fun v => PM.bind (PM.pure []) fun vs => PM.pure (v :: vs)) cRange) (PM.bind (PM.bind (PM.bind (PM.bind (getL "table") fun o => PM.bind (getL "place") fun i => pItem o i) fun o => PM.bind (PM.pure (.int 0)) fun i => pItem o i) fun o => PM.bind (getL "j") fun i => pItem o i) fun a => PM.bind (getL "far") fun b => PM.bind (pEq a b) pTruthy) (getL "place")
noncomputable def l10c7 : PM V := compV ["table"] "place" (getL "group") (PM.bind (PM.bind (PM.bind (getL "table") fun o => PM.bind (getL "place") fun i => pItem o i) fun o => PM.bind (PM.pure (.int 1)) fun i => pItem o i) pTruthy) (getL "place")
noncomputable def l10s8 : PM Fl := (PM.bind l10c7 fun v => PM.bind (setL "kind" v) fun _ => PM.pure .next)
noncomputable def l10s9 : PM Fl := (PM.bind (iteP (PM.bind (getL "kind") fun a => PM.bind (PM.bind (PM.pure []) allocList) fun b => PM.bind (pNe a b) pTruthy) (PM.bind (PM.pure (.str (cps "x"))) fun a => PM.bind (PM.bind (PM.bind (getL "kind") fun o => PM.bind (PM.pure (.int 0)) fun i => pItem o i) fun a => PM.bind (PM.pure (.int 1)) fun b => pAdd a b) fun b => pMul a b) (PM.pure (.str (cps "")))) fun v => PM.bind (setL "due" v) fun _ => PM.pure .next)
noncomputable def l10s10 : PM Fl := (PM.bind l10c6 fun v => PM.bind (setL "group" v) fun _ => PM.pure .next)
noncomputable def l10s11 : PM Fl := (iteP (PM.bind (getL "group") fun a => PM.bind (PM.bind (PM.pure []) allocList) fun b => PM.bind (pNe a b) pTruthy) (seqF l10s8 l10s9) (PM.pure .next))
noncomputable def l10f12 : PM Fl := (seqF l10s10 l10s11)
noncomputable def l10f13 : PM Fl := (iteP (PM.bind (PM.bind (PM.bind (getL "rules") fun o => PM.bind (getL "place") fun i => pItem o i) (gAttr "allowance")) fun a => PM.bind (iteP (PM.bind (PM.bind (PM.bind (getL "table") fun o => PM.bind (getL "place") fun i => pItem o i) fun o => PM.bind (PM.pure (.int 1)) fun i => pItem o i) pTruthy) (PM.bind (PM.pure (.str (cps "x"))) fun a => PM.bind (PM.bind (getL "place") fun a => PM.bind (PM.pure (.int 1)) fun b => pAdd a b) fun b => pMul a b) (PM.pure (.str (cps "")))) fun b => PM.bind (pNe a b) pTruthy) (PM.bind (PM.pure (.bool false)) fun v => PM.pure (.ret v)) (PM.pure .next))
noncomputable def l10s14 : PM Fl := (PM.bind (getL "log") fun a => PM.bind (delAllP a) fun _ => PM.pure .next)
noncomputable def l10s15 : PM Fl := (PM.bind (PM.bind (getL "one") fun v => PM.bind (isInst "allowance" v) fun _ => PM.bind (PM.bind (PM.bind (getL "names") fun o => PM.bind (getL "j") fun i => pItem o i) fun v => PM.bind (PM.pure []) fun vs => PM.pure (v :: vs)) fun vs => (callP ["self", "filename"] allow10) (v :: vs)) fun v => PM.bind (setL "told" v) fun _ => PM.pure .next)
noncomputable def l10s16 : PM Fl := (iteP (PM.bind (getL "log") fun a => PM.bind l10c5 fun b => PM.bind (pNe a b) pTruthy) (PM.bind (PM.pure (.bool false)) fun v => PM.pure (.ret v)) (PM.pure .next))
noncomputable def l10s17 : PM Fl := (PM.bind (PM.pure (.bool true)) fun v => PM.bind (setL "due" v) fun _ => PM.pure .next)
noncomputable def l10s18 : PM Fl := (PM.bind (PM.bind (PM.bind (PM.pure (.int 1)) fun v => PM.bind (PM.bind (PM.pure (.int 5)) fun v => PM.bind (PM.pure []) fun vs => PM.pure (v :: vs)) fun vs => PM.pure (v :: vs)) cRange) fun v => PM.bind (iterOf v) fun p => loopF p.1 (fun x => PM.bind ((setL "far") x) fun _ => l10f12) p.2)
noncomputable def l10s19 : PM Fl := (iteP (orP (PM.bind (getL "told") fun a => PM.bind (getL "due") fun b => PM.bind (pNe a b) pTruthy) (orP (PM.bind (PM.bind (PM.bind (getL "told") fun v => PM.bind (PM.pure []) fun vs => PM.pure (v :: vs)) cType) fun a => PM.bind (PM.bind (PM.bind (getL "due") fun v => PM.bind (PM.pure []) fun vs => PM.pure (v :: vs)) cType) fun b => PM.bind (pIsNot a b) pTruthy) (PM.pure false))) (PM.bind (PM.pure (.bool false)) fun v => PM.pure (.ret v)) (PM.pure .next))
noncomputable def l10s20 : PM Fl := (iteP (orP (PM.bind (PM.bind (getL "one") (gAttr "rulelines")) fun a => PM.bind (getL "given") fun b => PM.bind (pIsNot a b) pTruthy) (orP (PM.bind (getL "given") fun a => PM.bind (getL "rules") fun b => PM.bind (pNeX a b) pTruthy) (PM.pure false))) (PM.bind (PM.pure (.bool false)) fun v => PM.pure (.ret v)) (PM.pure .next))
noncomputable def l10s21 : PM Fl := (PM.bind (PM.bind (PM.bind (PM.bind (PM.bind (getL "script") fun v => PM.bind (PM.pure []) fun vs => PM.pure (v :: vs)) cLen) fun v => PM.bind (PM.pure []) fun vs => PM.pure (v :: vs)) cRange) fun v => PM.bind (iterOf v) fun p => loopF p.1 (fun x => PM.bind ((setL "place") x) fun _ => l10f13) p.2)
noncomputable def l10f22 : PM Fl := (seqF l10s14 (seqF l10s15 (seqF l10s16 (seqF l10s17 (seqF l10s18 (seqF l10s19 (seqF l10s20 l10s21)))))))
noncomputable def l10s23 (a : Addr) (xs : List Int) : PM Fl := (PM.bind (PM.bind (getL "script") fun o => PM.bind (PM.pure .none) fun l => PM.bind (PM.pure (.int 63)) fun u => sliceG a xs o l u) fun v => PM.bind (setL "script" v) fun _ => PM.pure .next)
noncomputable def l10s24 : PM Fl := (PM.bind (PM.bind (PM.bind (PM.pure (.str (cps "/a"))) fun v => PM.bind (PM.bind (PM.pure (.str (cps ""))) fun v => PM.bind (PM.bind (PM.pure (.str (cps "/a/b"))) fun v => PM.bind (PM.bind (PM.pure (.str (cps "/c"))) fun v => PM.bind (PM.pure []) fun vs => PM.pure (v :: vs)) fun vs => PM.pure (v :: vs)) fun vs => PM.pure (v :: vs)) fun vs => PM.pure (v :: vs)) allocList) fun v => PM.bind (setL "names" v) fun _ => PM.pure .next)
noncomputable def l10s25 : PM Fl := (PM.bind (PM.bind (PM.pure []) allocList) fun v => PM.bind (setL "log" v) fun _ => PM.pure .next)
noncomputable def l10s26 : PM Fl := (PM.bind (PM.bind (PM.pure []) (newInst initE ["self"])) fun v => PM.bind (setL "one" v) fun _ => PM.pure .next)
noncomputable def l10s27 : PM Fl := (PM.bind (PM.bind (PM.pure []) allocList) fun v => PM.bind (setL "table" v) fun _ => PM.pure .next)
noncomputable def l10s28 : PM Fl := (PM.bind (PM.bind (getL "one") (gAttr "rulelines")) fun v => PM.bind (setL "given" v) fun _ => PM.pure .next)
noncomputable def l10s29 : PM Fl := (PM.bind (PM.bind (PM.bind (PM.bind (PM.bind (getL "script") fun v => PM.bind (PM.pure []) fun vs => PM.pure (v :: vs)) cLen) fun v => PM.bind (PM.pure []) fun vs => PM.pure (v :: vs)) cRange) fun v => PM.bind (iterOf v) fun p => loopF p.1 (fun x => PM.bind ((setL "place") x) fun _ => l10f4) p.2)
noncomputable def l10s30 : PM Fl := (PM.bind (PM.bind (PM.bind (getL "given") fun v => PM.bind (PM.pure []) fun vs => PM.pure (v :: vs)) cList) fun v => PM.bind (setL "rules" v) fun _ => PM.pure .next)
noncomputable def l10s31 : PM Fl := (PM.bind (PM.bind (PM.bind (PM.pure (.int 4)) fun v => PM.bind (PM.pure []) fun vs => PM.pure (v :: vs)) cRange) fun v => PM.bind (iterOf v) fun p => loopF p.1 (fun x => PM.bind ((setL "j") x) fun _ => l10f22) p.2)
noncomputable def l10s32 : PM Fl := (PM.bind (PM.pure (.bool true)) fun v => PM.pure (.ret v))
noncomputable def law10 (a : Addr) (xs : List Int) : PM Fl := (seqF (l10s23 a xs) (seqF l10s24 (seqF l10s25 (seqF l10s26 (seqF l10s27 (seqF l10s28 (seqF l10s29 (seqF l10s30 (seqF l10s31 l10s32)))))))))
end Mine
set_option linter.unusedSimpArgs false
set_option linter.unusedVariables false
namespace Mine
noncomputable def aS4 : PM Fl := (iteP (PM.bind (getL "m") pTruthy) (iteP (PM.bind (getL "m") fun a => PM.bind (getL "best_match") fun b => PM.bind (pGt a b) pTruthy) (seqF (PM.bind (getL "m") fun v => PM.bind (setL "best_match" v) fun _ => PM.pure .next) (PM.bind (PM.bind (getL "line") (gAttr "allowance")) fun v => PM.bind (setL "allowance" v) fun _ => PM.pure .next)) (iteP (andP (PM.bind (getL "m") fun a => PM.bind (getL "best_match") fun b => PM.bind (pEq a b) pTruthy) (andP (PM.bind (PM.bind (getL "allowance") pTruthy) fun b => PM.pure (!b)) (PM.pure true))) (PM.bind (PM.bind (getL "line") (gAttr "allowance")) fun v => PM.bind (setL "allowance" v) fun _ => PM.pure .next) (PM.pure .next))) (PM.pure .next))
section
variable {loc : String → Option V} {sto : List O}
theorem wL_look1 {i j : Nat} {as : List (String × V)} {cs : List (String × V)} {n : String} {Q : Option Nat → St → Prop} (h : sto[i]? = some (.inst as)) (hn : as.lookup n = some (.obj j)) (hj : sto[j]? = some (.clos cs)) : wp (lookA n (.obj i)) ⟨loc, sto⟩ Q = Q (some j) ⟨loc, sto⟩ := by
  simp [wp, lookA, h, hn, hj]
theorem wL_call1 {f : List V → PM V} {p : String} {mb : PM Fl} {o v : V} {j : Nat} {cs : List (String × V)} {Q : V → St → Prop} (hj : sto[j]? = some (.clos cs)) : wp (callA f p mb (some j) o [v]) ⟨loc, sto⟩ Q = wp mb ⟨fun n => if n = p then some v else cs.lookup n, sto⟩ (fun fl st' => Q (match fl with | .ret v => v | _ => .none) ⟨loc, st'.sto⟩) := by
  unfold wp callA
  dsimp only
  rw [hj]
  dsimp only
  unfold callC
  dsimp only
  cases mb ⟨fun n => if n = p then some v else cs.lookup n, sto⟩ <;> rfl
theorem wL_clos {ns : List String} {vs : List V} {Q : V → St → Prop} (h0 : sto[0]? = some .ctab) (hv : valsOf loc ns = some vs) : wp (mkClos ns) ⟨loc, sto⟩ Q = Q (.obj sto.length) ⟨loc, sto ++ [.clos (ns.zip vs)]⟩ := by
  unfold wp mkClos
  dsimp only
  rw [h0]
  dsimp only
  rw [hv]
  rfl
end
end Mine
set_option linter.unusedSimpArgs false
set_option linter.unusedVariables false
namespace Mine
/-- a comprehension whose values are made on the way -/
theorem wp_compI {α : Type} {f : α → V} {fr : List String} {n : String} {mi me : PM V} {st : St} {Q : V → St → Prop} {src : Src} {a : V} {st1 : St} (xs : List α) (I : List α → List V → List O → Prop)
    (hmi : wp mi st (fun v s => v = a ∧ s = st1)) (hit : wp (iterOf a) st1 (fun v s => v = (src, xs.map f) ∧ s = st1)) (hn : n ∉ fr) (hsrc : ∀ d acc sto, I d acc sto → ∀ p, src = some p → sto[p.1]? = some p.2) (hl : ∀ d acc sto, I d acc sto → acc.length ≤ 1000000)
    (step : ∀ d x r acc loc sto, xs = d ++ x :: r → I d acc sto → (∀ m ∈ fr, loc m = st1.loc m) → loc n = some (f x) → wp me ⟨loc, sto⟩ (fun v s3 => s3.loc = loc ∧ I (d ++ [x]) (acc ++ [v]) s3.sto))
    (h0 : I [] [] st1.sto) (hQ : ∀ acc sto', I xs acc sto' → Q (.obj sto'.length) ⟨st1.loc, sto' ++ [.list acc]⟩) : wp (compV fr n mi (PM.pure true) me) st Q := by
  obtain ⟨_, _, e1, rfl, rfl⟩ := wp_run hmi
  obtain ⟨_, _, e2, rfl, rfl⟩ := wp_run hit
  unfold compV
  rw [wp_bind]
  refine wp_of e1 ?_
  rw [wp_bind]
  refine wp_of e2 ?_
  rw [wp_bind]
  rename_i st1
  have hchk : ∀ d acc, ∀ s : St, I d acc s.sto → chk src s = .ok () s := fun d acc s hs => by
    cases src with
    | none => rfl
    | some p => exact chk_some (hsrc d acc s.sto hs p rfl)
  have key : ∀ (ys d : List α) (acc : List V) (s : St), xs = d ++ ys → (∀ m ∈ fr, s.loc m = st1.loc m) → I d acc s.sto →
      wp (compM src (setL n) (PM.pure true) me acc (ys.map f)) s (fun vs s' => (∀ m ∈ fr, s'.loc m = st1.loc m) ∧ I xs vs s'.sto) := by
    intro ys
    induction ys with
    | nil =>
      intro d acc s hd h hI
      rw [List.map_nil]
      unfold compM
      rw [wp_bind]
      rw [List.append_nil] at hd
      subst hd
      exact wp_of (hchk _ acc s hI) ⟨h, hI⟩
    | cons y r ih =>
      intro d acc s hd h hI
      rw [List.map_cons]
      unfold compM
      rw [wp_bind]
      refine wp_of (hchk d acc s hI) ?_
      rw [wp_bind, wp_setL, wp_bind, wp_pure]
      dsimp only
      rw [wp_bind]
      have hs' : ∀ m ∈ fr, (if m = n then some (f y) else s.loc m) = st1.loc m := fun m hm => by
        have hne : ¬ m = n := fun (e : m = n) => hn (e ▸ hm)
        rw [if_neg hne]; exact h m hm
      refine wp_mono (step d y r acc (fun k => if k = n then some (f y) else s.loc k) s.sto hd hI hs' (by simp)) fun v s3 q => ?_
      obtain ⟨q1, q2⟩ := q
      have hle : acc.length ≤ 1000000 := hl d acc s.sto hI
      have e0 : (fun st => if acc.length ≤ 1000000 then compM src (setL n) (PM.pure true) me (acc ++ [v]) (r.map f) st else .fail : PM (List V)) = compM src (setL n) (PM.pure true) me (acc ++ [v]) (r.map f) := by
        funext s'; rw [if_pos hle]
      rw [e0]
      exact ih (d ++ [y]) (acc ++ [v]) s3 (by rw [hd]; simp) (fun m hm => by rw [q1]; exact hs' m hm) q2
  obtain ⟨vs, s', e, q⟩ := wp_run (key xs [] [] ⟨fun m => if m ∈ fr then st1.loc m else none, st1.sto⟩ rfl (fun m hm => by simp [hm]) h0)
  unfold wp inScope
  dsimp only at e ⊢
  rw [e]
  dsimp only
  rw [if_pos q.1]
  dsimp only
  exact hQ vs s'.sto q.2
theorem wN_sAttr {loc : String → Option V} {ss r : List O} {as : List (String × V)} {n : String} {v : V} {Q : Unit → St → Prop} : wp (sAttr n v (.obj ss.length)) ⟨loc, ss ++ O.inst as :: r⟩ Q = (as.length ≤ 90 ∧ Q () ⟨loc, ss ++ O.inst (putA n v as) :: r⟩) := by
  have g0 : (ss ++ O.inst as :: r)[ss.length]? = some (.inst as) := get_app_len _ _ _
  by_cases h : as.length ≤ 90
  · rw [wL_sAttr g0 h, set_app_len]; simp [h]
  · simp [wp, sAttr, g0, h]
theorem pre_set {l : List O} {r : List O} {o : O} {n : Nat} (h : l.length ≤ n) : l <+: (l ++ r).set n o := by
  rw [List.set_append_right _ _ h]; exact List.prefix_append _ _
/-- all but some objects stay -/
def Kx (M : List Nat) (ss ss' : List O) : Prop := ∀ i o, i ∉ M → ss[i]? = some o → ss'[i]? = some o
theorem Kx.pre {M : List Nat} {ss ss' : List O} (h : ss <+: ss') : Kx M ss ss' := fun _ _ _ e => get_pre h e
theorem Kx.trans {M : List Nat} {a b c : List O} (h : Kx M a b) (k : Kx M b c) : Kx M a c := fun i o hi e => k i o hi (h i o hi e)
theorem Kx.set {M : List Nat} {ss : List O} {R : Nat} {o' : O} (hR : R ∈ M) : Kx M ss (ss.set R o') := fun i o hi e => get_set_other e (fun q => hi (q ▸ hR))
theorem Kx.more {M N : List Nat} {a b : List O} (h : Kx M a b) (k : ∀ m ∈ M, m ∈ N) : Kx N a b := fun i o hi e => h i o (fun q => hi (k i q)) e
theorem look_if (p n : String) (v : V) (r : List (String × V)) : ((p, v) :: r).lookup n = if n = p then some v else r.lookup n := by
  rw [List.lookup_cons]
  by_cases h : n = p
  · subst h; simp
  · have : (n == p) = false := by simpa using h
    rw [this, if_neg h]
theorem loc4 (p q r s : String) (v w u t : V) : (fun n => ([p, q, r, s].zip [v, w, u, t]).lookup n) = fun n => if n = p then some v else if n = q then some w else if n = r then some u else if n = s then some t else none := by
  funext n
  simp only [List.zip_cons_cons, List.zip_nil_left, look_if, List.lookup_nil]
section
variable {loc : String → Option V} {sto : List O}
theorem wL_index {i : Nat} {ls : List (List Nat)} {w : List Nat} {Q : V → St → Prop} (h : sto[i]? = some (.list (ls.map V.str))) (hl : ls.length ≤ 1000000) (hw : w ∈ ls) : wp (cIndex [.obj i, .str w]) ⟨loc, sto⟩ Q = Q (vnat (ls.idxOf w)) ⟨loc, sto⟩ := by
  unfold wp cIndex
  simp only [h, strsOf_map]
  rw [if_pos ⟨hl, hw⟩]
  rfl
theorem wL_delAll {i : Nat} {xs : List V} {Q : Unit → St → Prop} (h : sto[i]? = some (.list xs)) (hl : xs.length ≤ 1000000) : wp (delAllP (.obj i)) ⟨loc, sto⟩ Q = Q () ⟨loc, sto.set i (.list [])⟩ := by
  unfold wp delAllP
  simp only [h, hl, if_true]
theorem wL_type {v : V} {T : String} {Q : V → St → Prop} (h : typeV v = some T) : wp (cType [v]) ⟨loc, sto⟩ Q = Q (.glob (.type T)) ⟨loc, sto⟩ := by
  unfold wp cType
  simp only [h]
theorem wpE_neX {a b : V} {Q : V → St → Prop} : wp (pNeX a b) ⟨loc, sto⟩ Q = (match eqX ⟨loc, sto⟩ a b with | some c => Q (.bool (!c)) ⟨loc, sto⟩ | none => False) := by
  unfold wp pNeX
  cases eqX ⟨loc, sto⟩ a b <;> rfl
theorem eqE_same (st : St) (i : Nat) : eqE st (.obj i) (.obj i) = some true := by simp [eqE]
theorem eqsE_same (st : St) : ∀ is : List Nat, eqsE st (is.map V.obj) (is.map V.obj) = some true
  | [] => rfl
  | i :: r => by
    rw [List.map_cons]
    unfold eqsE
    rw [eqE_same, eqsE_same st r]
    rfl
theorem eqX_same {i j : Nat} {is : List Nat} (h1 : sto[i]? = some (.list (is.map V.obj))) (h2 : sto[j]? = some (.list (is.map V.obj))) : eqX ⟨loc, sto⟩ (.obj i) (.obj j) = some true := by
  unfold eqX
  simp only [h1, h2, if_true]
  exact eqsE_same _ _
end
end Mine
set_option linter.unusedSimpArgs false
set_option linter.unusedVariables false
namespace Mine
def rch (x : Int) (j : Nat) : Int := x / 2 / 5 ^ j % 5
def alw (k : Nat) (x : Int) : List Nat := if x % 2 = 1 then List.replicate (k + 1) 120 else []
def grp (j : Nat) (far : Int) (ys : List Int) : List Nat := (List.range ys.length).filter fun k => decide (rch (ys.getD k 0) j = far)
def knd (j : Nat) (far : Int) (ys : List Int) : List Nat := (grp j far ys).filter fun k => decide (ys.getD k 0 % 2 = 1)
def pk (j : Nat) (far : Int) (ys : List Int) : Option (List Nat) := if grp j far ys = [] then none else some (match knd j far ys with | [] => [] | k :: _ => List.replicate (k + 1) 120)
theorem getD_l {ys zs : List Int} {k : Nat} (h : k < ys.length) : (ys ++ zs).getD k 0 = ys.getD k 0 := by
  rw [List.getD_eq_getElem?_getD, List.getD_eq_getElem?_getD, List.getElem?_append_left h]
theorem getD_n (ys : List Int) (x : Int) : (ys ++ [x]).getD ys.length 0 = x := by
  rw [List.getD_eq_getElem?_getD]; simp
theorem grp_snoc (j : Nat) (far : Int) (ys : List Int) (x : Int) : grp j far (ys ++ [x]) = grp j far ys ++ (if rch x j = far then [ys.length] else []) := by
  unfold grp
  rw [List.length_append, List.length_singleton, List.range_succ, List.filter_append]
  congr 1
  · refine List.filter_congr fun k hk => ?_
    rw [getD_l (List.mem_range.mp hk)]
  · rw [List.filter_cons, getD_n]
    by_cases h : rch x j = far <;> simp [h]
theorem knd_snoc (j : Nat) (far : Int) (ys : List Int) (x : Int) : knd j far (ys ++ [x]) = knd j far ys ++ (if rch x j = far ∧ x % 2 = 1 then [ys.length] else []) := by
  unfold knd
  rw [grp_snoc, List.filter_append]
  congr 1
  · refine List.filter_congr fun k hk => ?_
    have : k < ys.length := by unfold grp at hk; exact List.mem_range.mp (List.mem_filter.mp hk).1
    rw [getD_l this]
  · by_cases h : rch x j = far
    · rw [if_pos h, List.filter_cons, getD_n]
      by_cases q : x % 2 = 1 <;> simp [h, q]
    · simp [h]
theorem pk_snoc (j : Nat) (far : Int) (ys : List Int) (x : Int) : pk j far (ys ++ [x]) = if rch x j = far then (match pk j far ys with | some (c :: r) => some (c :: r) | _ => some (alw ys.length x)) else pk j far ys := by
  unfold pk
  rw [grp_snoc, knd_snoc]
  by_cases h : rch x j = far
  · simp only [h, if_true, true_and]
    have hk : grp j far ys = [] → knd j far ys = [] := fun e => by unfold knd; rw [e]; rfl
    by_cases hg : grp j far ys = []
    · rw [hg, hk hg]
      unfold alw
      by_cases q : x % 2 = 1 <;> simp [q]
    · rw [if_neg (by simp), if_neg hg]
      cases hkn : knd j far ys with
      | nil =>
        unfold alw
        by_cases q : x % 2 = 1 <;> simp [q]
      | cons k t => simp [List.replicate_succ]
  · simp [h]
/-- the search for the best rule, with texts as verdicts -/
def st10 (l : Int) (w : List Nat) (p : Int × Option (List Nat)) : Int × Option (List Nat) := if l = 0 then p else if p.1 < l then (l, some w) else if l = p.1 ∧ p.2 = some [] then (p.1, some w) else p
def S10f (j : Nat) (q : Nat × (Int × Option (List Nat))) (x : Int) : Nat × (Int × Option (List Nat)) := (q.1 + 1, st10 (rch x j) (alw q.1 x) q.2)
def S10 (j : Nat) (ys : List Int) : Int × Option (List Nat) := (ys.foldl (S10f j) (0, (-1, none))).2
theorem S10_cnt (j : Nat) : ∀ (ys : List Int) (q : Nat × (Int × Option (List Nat))), (ys.foldl (S10f j) q).1 = q.1 + ys.length
  | [], q => rfl
  | x :: r, q => by
    rw [List.foldl_cons, S10_cnt j r]
    show q.1 + 1 + r.length = _
    rw [List.length_cons]; omega
theorem S10_snoc (j : Nat) (ys : List Int) (x : Int) : S10 j (ys ++ [x]) = st10 (rch x j) (alw ys.length x) (S10 j ys) := by
  unfold S10
  rw [List.foldl_append]
  show st10 (rch x j) (alw (ys.foldl (S10f j) (0, (-1, none))).1 x) _ = _
  rw [S10_cnt]
  simp
structure Gd (j : Nat) (ys : List Int) (p : Int × Option (List Nat)) : Prop where
  g : (p = (-1, none) ∧ ∀ far, 1 ≤ far → far ≤ 4 → pk j far ys = none) ∨ ∃ w, 1 ≤ p.1 ∧ p.1 ≤ 4 ∧ p.2 = some w ∧ pk j p.1 ys = some w ∧ ∀ far, p.1 < far → far ≤ 4 → pk j far ys = none
theorem rch_le (x : Int) (j : Nat) : 0 ≤ rch x j ∧ rch x j ≤ 4 := by unfold rch; omega
theorem Gd.step {j : Nat} {ys : List Int} {p : Int × Option (List Nat)} (h : Gd j ys p) (x : Int) : Gd j (ys ++ [x]) (st10 (rch x j) (alw ys.length x) p) := by
  have hr := rch_le x j
  have hs := fun far => pk_snoc j far ys x
  generalize rch x j = l at hr hs
  generalize alw ys.length x = w at hs
  unfold st10
  have hne : ∀ far, l ≠ far → pk j far (ys ++ [x]) = pk j far ys := fun far q => by rw [hs, if_neg q]
  rcases h.g with ⟨rfl, hh⟩ | ⟨v, h1, h2, h3, h4, h5⟩
  · by_cases q0 : l = 0
    · rw [if_pos q0]
      exact ⟨.inl ⟨rfl, fun far a b => by rw [hne far (by omega)]; exact hh far a b⟩⟩
    · rw [if_neg q0, if_pos (by show (-1 : Int) < l; omega)]
      refine ⟨.inr ⟨w, by show 1 ≤ l; omega, by show l ≤ 4; omega, rfl, ?_, fun far a b => ?_⟩⟩
      · show pk j l _ = _
        rw [hs, if_pos rfl, hh l (by omega) (by omega)]
      · have a' : l < far := a
        rw [hne far (by omega)]; exact hh far (by omega) b
  · by_cases q0 : l = 0
    · rw [if_pos q0]
      exact ⟨.inr ⟨v, h1, h2, h3, by rw [hne _ (by omega)]; exact h4, fun far a b => by rw [hne far (by omega)]; exact h5 far a b⟩⟩
    · rw [if_neg q0]
      by_cases q1 : p.1 < l
      · rw [if_pos q1]
        refine ⟨.inr ⟨w, by show 1 ≤ l; omega, by show l ≤ 4; omega, rfl, ?_, fun far a b => ?_⟩⟩
        · show pk j l _ = _
          rw [hs, if_pos rfl, h5 l q1 (by omega)]
        · have a' : l < far := a
          rw [hne far (by omega)]; exact h5 far (by omega) b
      · rw [if_neg q1]
        by_cases q2 : l = p.1
        · subst q2
          rw [h3]
          cases v with
          | nil =>
            rw [if_pos ⟨rfl, rfl⟩]
            refine ⟨.inr ⟨w, h1, h2, rfl, ?_, fun far a b => by rw [hne far (by have : p.1 < far := a; omega)]; exact h5 far a b⟩⟩
            show pk j p.1 _ = _
            rw [hs, if_pos rfl, h4]
          | cons c r =>
            rw [if_neg (by rintro ⟨_, e⟩; cases e)]
            refine ⟨.inr ⟨_, h1, h2, h3, ?_, fun far a b => by rw [hne far (by omega)]; exact h5 far a b⟩⟩
            rw [hs, if_pos rfl, h4]
        · rw [if_neg (fun e => q2 e.1)]
          exact ⟨.inr ⟨v, h1, h2, h3, by rw [hne _ q2]; exact h4, fun far a b => by rw [hne far (by omega)]; exact h5 far a b⟩⟩
theorem gd_all (j : Nat) : ∀ (r d : List Int), Gd j d (S10 j d) → Gd j (d ++ r) (S10 j (d ++ r))
  | [], d, h => by simpa using h
  | x :: r, d, h => by
    have e : d ++ x :: r = (d ++ [x]) ++ r := by simp
    rw [e]
    refine gd_all j r (d ++ [x]) ?_
    rw [S10_snoc]
    exact h.step x
theorem gd_of (j : Nat) (ys : List Int) : Gd j ys (S10 j ys) := by
  have := gd_all j ys [] ⟨.inl ⟨rfl, fun far _ _ => rfl⟩⟩
  simpa using this
def dl (j : Nat) (ys : List Int) (v : V) (far : Nat) : V := match pk j (far : Int) ys with
  | none => v
  | some w => .str w
def toldV (p : Int × Option (List Nat)) : V := match p.2 with
  | none => .bool true
  | some w => .str w
theorem told_due (j : Nat) (ys : List Int) : toldV (S10 j ys) = [1, 2, 3, 4].foldl (dl j ys) (.bool true) := by
  have g := (gd_of j ys).g
  generalize S10 j ys = p at g
  simp only [List.foldl_cons, List.foldl_nil]
  rcases g with ⟨rfl, h⟩ | ⟨w, h1, h2, h3, h4, h5⟩
  · unfold dl
    rw [h ((4 : Nat) : Int) (by decide) (by decide), h ((3 : Nat) : Int) (by decide) (by decide), h ((2 : Nat) : Int) (by decide) (by decide), h ((1 : Nat) : Int) (by decide) (by decide)]
    rfl
  · obtain ⟨B, al⟩ := p
    dsimp only at *
    subst h3
    have hB : B = 1 ∨ B = 2 ∨ B = 3 ∨ B = 4 := by omega
    unfold dl toldV
    rcases hB with rfl | rfl | rfl | rfl
    · rw [h5 ((4 : Nat) : Int) (by decide) (by decide), h5 ((3 : Nat) : Int) (by decide) (by decide), h5 ((2 : Nat) : Int) (by decide) (by decide)]
      rw [show (((1 : Nat) : Int)) = 1 from rfl, h4]
    · rw [h5 ((4 : Nat) : Int) (by decide) (by decide), h5 ((3 : Nat) : Int) (by decide) (by decide)]
      rw [show (((2 : Nat) : Int)) = 2 from rfl, h4]
    · rw [h5 ((4 : Nat) : Int) (by decide) (by decide)]
      rw [show (((3 : Nat) : Int)) = 3 from rfl, h4]
    · rw [show (((4 : Nat) : Int)) = 4 from rfl, h4]
theorem S10_len (j : Nat) (ys : List Int) (hl : ys.length ≤ 63) : ∀ v, (S10 j ys).2 = some v → v.length ≤ 64 := by
  have key : ∀ (r : List Int) (q : Nat × (Int × Option (List Nat))), q.1 + r.length ≤ 63 → (∀ v, q.2.2 = some v → v.length ≤ 64) → ∀ v, (r.foldl (S10f j) q).2.2 = some v → v.length ≤ 64 := by
    intro r
    induction r with
    | nil => intro q _ h; exact h
    | cons x r ih =>
      intro q hq h
      rw [List.foldl_cons]
      rw [List.length_cons] at hq
      refine ih _ (by show q.1 + 1 + r.length ≤ 63; omega) ?_
      intro v hv
      have ha : (alw q.1 x).length ≤ 64 := by unfold alw; split <;> simp; omega
      unfold S10f st10 at hv
      dsimp only at hv
      split at hv
      · exact h v hv
      · split at hv
        · cases hv; exact ha
        · split at hv
          · cases hv; exact ha
          · exact h v hv
  exact key ys (0, (-1, none)) (by omega) (by intro v hv; cases hv)
end Mine
set_option linter.unusedSimpArgs false
set_option linter.unusedVariables false
namespace Mine
theorem cps_x : cps "x" = [120] := by kernel_rfl
theorem flat_x (n : Nat) : List.flatten (List.replicate n [120]) = List.replicate n 120 := by
  induction n with
  | zero => rfl
  | succ n ih => rw [List.replicate_succ, List.flatten_cons, ih]; rfl
noncomputable def alwM : PM V := iteP (PM.bind (PM.bind (getL "number") fun a => PM.bind (PM.pure (.int 2)) fun b => pMod a b) fun a => PM.bind (PM.pure (.int 1)) fun b => PM.bind (pEq a b) pTruthy) (PM.bind (PM.pure (.str (cps "x"))) fun a => PM.bind (PM.bind (getL "place") fun a => PM.bind (PM.pure (.int 1)) fun b => pAdd a b) fun b => pMul a b) (PM.pure (.str (cps "")))
theorem xs_eq {k : Nat} (hk : k ≤ 100) {st : St} {Q : V → St → Prop} : wp (pMul (.str [120]) (.int ((k : Int) + 1))) st Q = Q (.str (List.replicate (k + 1) 120)) st := by
  have e : ((k : Int) + 1).toNat = k + 1 := by omega
  rw [wpE_mulS, flat_x, e]
  have : ([120] : List Nat).length ≤ 1000 ∧ (0 : Int) ≤ (k : Int) + 1 ∧ (k : Int) + 1 ≤ 1000 := ⟨by decide, by omega, by omega⟩
  simp only [this, true_and, and_self]
theorem wp_alwM {sl : String → Option V} {ss : List O} {k : Nat} {x : Int} (h1 : sl "number" = some (.int x)) (h2 : sl "place" = some (vnat k)) (hk : k ≤ 100) : wp alwM ⟨sl, ss⟩ (fun v s => v = .str (alw k x) ∧ s = ⟨sl, ss⟩) := by
  unfold alwM
  simp only [wp_bind, wp_pure, wp_seq', wp_ite, wp_and, wp_or, wp_setL, wp_allocList, wp_allocTuple, wp_alloc, wpE_get, wpE_mod, wpE_div, wpE_pow, wpE_iaddS, wpE_iaddI, wpE_addS, wp_add, wp_sub, wp_neg, wpE_lt, wpE_le, wpE_gt, wpE_ge, wpE_eq, wpE_ne, wpE_is, wpE_isnot, isP_bool, isP_obj, eqP_int, eqP_str, wpE_in, wpE_notin, wp_truthyB, wpE_truthyI, wpE_truthyN, wpE_truthyS, wp_isStr, wpE_lenS, wpE_lenG, wpE_range1, wpE_range2, wpE_iterS, wpE_iterG, wpE_max2, wpE_min2, if_true, if_false, String.reduceEq, reduceIte, true_and, and_true, List.length_nil, List.length_cons, List.nil_append, List.cons_append, Bool.false_eq_true, decide_eq_true_eq, Nat.zero_le, Int.reduceLT, Int.reduceLE, Int.reduceNeg, Nat.reduceLeDiff, Nat.reduceAdd, h1, h2, cps_x, cps_e, vnat]
  by_cases q : x % 2 = 1
  · have e : alw k x = List.replicate (k + 1) 120 := by unfold alw; rw [if_pos q]
    simp only [q, if_true, e, xs_eq hk, and_self]
  · have e : alw k x = [] := by unfold alw; rw [if_neg q]
    simp only [q, if_false, e]
structure Ro where
  i : Nat
  t : Nat
  r : Nat
  x : Int
def rlist (x : Int) : List V := (List.range 4).map fun j => .int (rch x j)
def nms : List (List Nat) := [[47, 97], [], [47, 97, 47, 98], [47, 99]]
structure Ru0 (ss : List O) (k : Nat) (i r : Nat) (x : Int) : Prop where
  i8 : 8 ≤ i
  r8 : 8 ≤ r
  at' : ∃ as c, ss[i]? = some (.inst as) ∧ as.lookup "allowance" = some (.str (alw k x)) ∧ as.lookup "applies_to" = some (.obj c) ∧ 8 ≤ c ∧ ss[c]? = some (.clos [("log", .obj 3), ("place", vnat k), ("reaches", .obj r), ("names", .obj 2)])
  rl : ss[r]? = some (.list (rlist x))
theorem Ru0.keep {M : List Nat} {ss ss' : List O} {k i r : Nat} {x : Int} (h : Ru0 ss k i r x) (kx : Kx M ss ss') (hM : ∀ m ∈ M, m < 8) : Ru0 ss' k i r x := by
  obtain ⟨h1, h2, ⟨as, c, a1, a2, a3, a4, a5⟩, h4⟩ := h
  have n : ∀ j, 8 ≤ j → j ∉ M := fun j hj q => by have := hM j q; omega
  exact ⟨h1, h2, ⟨as, c, kx _ _ (n _ h1) a1, a2, a3, a4, kx _ _ (n _ a4) a5⟩, kx _ _ (n _ h2) h4⟩
structure Rw (ss : List O) (k : Nat) (p : Ro) : Prop where
  ru : Ru0 ss k p.i p.r p.x
  t8 : 8 ≤ p.t
  tb : ss[p.t]? = some (.tuple [.obj p.r, .bool (decide (p.x % 2 = 1))])
theorem Rw.keep {M : List Nat} {ss ss' : List O} {k : Nat} {p : Ro} (h : Rw ss k p) (kx : Kx M ss ss') (hM : ∀ m ∈ M, m < 8) : Rw ss' k p :=
  ⟨h.ru.keep kx hM, h.t8, kx _ _ (fun q => by have := hM _ q; have := h.t8; omega) h.tb⟩
theorem pw5 (k : Nat) (hk : k < 4) : 0 < (5 : Int) ^ k ∧ (5 : Int) ^ k < 1000000000 := by
  have : k = 0 ∨ k = 1 ∨ k = 2 ∨ k = 3 := by omega
  rcases this with rfl | rfl | rfl | rfl <;> decide
theorem wp_rch {sl : String → Option V} {ss : List O} {x : Int} {Q : V → St → Prop} (hb : sl "number" = some (.int x)) (h : ∀ ss', ss <+: ss' → Q (.obj ss'.length) ⟨sl, ss' ++ [.list (rlist x)]⟩) : wp rule_10_c1 ⟨sl, ss⟩ Q := by
  unfold rule_10_c1
  refine wp_comp (f := vnat) (a := .obj ss.length) (st1 := ⟨sl, ss ++ [.range 0 4 1]⟩) (src := none) (List.range 4) (fun _ => true) (fun j => .int (rch x j)) ?_ ?_ (by simp) (fun p hp => by cases hp) (by simp) (fun k hk sl' ss' hfr hpre hn => ?_) (fun sto' hp => ?_)
  · simp only [wp_bind, wp_pure, wp_seq', wp_ite, wp_and, wp_or, wp_setL, wp_allocList, wp_allocTuple, wp_alloc, wpE_get, wpE_mod, wpE_div, wpE_pow, wpE_iaddS, wpE_iaddI, wpE_addS, wp_add, wp_sub, wp_neg, wpE_lt, wpE_le, wpE_gt, wpE_ge, wpE_eq, wpE_ne, wpE_is, wpE_isnot, isP_bool, isP_obj, eqP_int, eqP_str, wpE_in, wpE_notin, wp_truthyB, wpE_truthyI, wpE_truthyN, wpE_truthyS, wp_isStr, wpE_lenS, wpE_lenG, wpE_range1, wpE_range2, wpE_iterS, wpE_iterG, wpE_max2, wpE_min2, if_true, if_false, String.reduceEq, reduceIte, true_and, and_true, List.length_nil, List.length_cons, List.nil_append, List.cons_append, Bool.false_eq_true, decide_eq_true_eq, Nat.zero_le, Int.reduceLT, Int.reduceLE, Int.reduceNeg, Nat.reduceLeDiff, Nat.reduceAdd]
  · rw [wL_iterR (n := 4) (show (ss ++ [O.range 0 4 1])[ss.length]? = some (.range 0 ((4 : Nat) : Int) 1) from get_app_len _ _ _) (by decide)]; exact ⟨rfl, rfl⟩
  · have hk3 := List.mem_range.mp hk
    have hb' : sl' "number" = some (.int x) := by rw [hfr _ (by simp)]; exact hb
    have hsm : (small 5 && (decide ((0 : Int) ≤ (k : Int)) && decide ((k : Int) ≤ 1000))) = true := by simp [small]; omega
    simp only [wp_bind, wp_pure, wp_seq', wp_ite, wp_and, wp_or, wp_setL, wp_allocList, wp_allocTuple, wp_alloc, wpE_get, wpE_mod, wpE_div, wpE_pow, wpE_iaddS, wpE_iaddI, wpE_addS, wp_add, wp_sub, wp_neg, wpE_lt, wpE_le, wpE_gt, wpE_ge, wpE_eq, wpE_ne, wpE_is, wpE_isnot, isP_bool, isP_obj, eqP_int, eqP_str, wpE_in, wpE_notin, wp_truthyB, wpE_truthyI, wpE_truthyN, wpE_truthyS, wp_isStr, wpE_lenS, wpE_lenG, wpE_range1, wpE_range2, wpE_iterS, wpE_iterG, wpE_max2, wpE_min2, if_true, if_false, String.reduceEq, reduceIte, true_and, and_true, List.length_nil, List.length_cons, List.nil_append, List.cons_append, Bool.false_eq_true, decide_eq_true_eq, Nat.zero_le, Int.reduceLT, Int.reduceLE, Int.reduceNeg, Nat.reduceLeDiff, Nat.reduceAdd, hn, hb', vnat, Int.toNat_natCast, hsm, pw5 k hk3]
    exact ⟨hpre, fun _ => ⟨rfl, hpre⟩⟩
  · have := h sto' ((List.prefix_append _ _).trans hp)
    rw [filt_true]
    exact this
theorem wp_rule10 {sl : String → Option V} {ss : List O} {k : Nat} {x : Int} {Q : V → St → Prop} (h0 : ss[0]? = some .ctab) (h8 : 8 ≤ ss.length) (hk : k ≤ 100)
    (h : ∀ ss' i r t, ss <+: ss' → Ru0 ss' k i r x → ss'[t]? = some (.tuple [.obj i, .obj r]) → Q (.obj t) ⟨sl, ss'⟩) : wp (callP ["place", "number", "names", "log"] rule10 [vnat k, .int x, .obj 2, .obj 3]) ⟨sl, ss⟩ Q := by
  rw [wp_call rfl, loc4]
  unfold rule10
  simp only [wp_seq', wp_bind, wp_pure]
  refine wL_entry ?_
  simp only [wp_setL]
  refine wp_mono (wp_alwM (k := k) (x := x) (by simp) (by simp) hk) fun v st hv => ?_
  obtain ⟨rfl, rfl⟩ := hv
  simp only [wp_bind, wp_pure, wp_seq', wp_ite, wp_and, wp_or, wp_setL, wp_allocList, wp_allocTuple, wp_alloc, wpE_get, wpE_mod, wpE_div, wpE_pow, wpE_iaddS, wpE_iaddI, wpE_addS, wp_add, wp_sub, wp_neg, wpE_lt, wpE_le, wpE_gt, wpE_ge, wpE_eq, wpE_ne, wpE_is, wpE_isnot, isP_bool, isP_obj, eqP_int, eqP_str, wpE_in, wpE_notin, wp_truthyB, wpE_truthyI, wpE_truthyN, wpE_truthyS, wp_isStr, wpE_lenS, wpE_lenG, wpE_range1, wpE_range2, wpE_iterS, wpE_iterG, wpE_max2, wpE_min2, if_true, if_false, String.reduceEq, reduceIte, true_and, and_true, List.length_nil, List.length_cons, List.nil_append, List.cons_append, Bool.false_eq_true, decide_eq_true_eq, Nat.zero_le, Int.reduceLT, Int.reduceLE, Int.reduceNeg, Nat.reduceLeDiff, Nat.reduceAdd, wN_sAttr, putA]
  obtain ⟨A, hA⟩ : ∃ A, A = ss ++ [O.inst [("useragents", V.obj (ss.length + 1)), ("rulelines", V.obj (ss.length + 2)), ("delay", V.none), ("req_rate", V.none), ("allowance", V.str (alw k x))], O.list [], O.list []] := ⟨_, rfl⟩
  have pA : ss <+: A := by rw [hA]; exact List.prefix_append _ _
  have gA : A[ss.length]? = some (O.inst [("useragents", V.obj (ss.length + 1)), ("rulelines", V.obj (ss.length + 2)), ("delay", V.none), ("req_rate", V.none), ("allowance", V.str (alw k x))]) := by rw [hA]; exact get_app_len _ _ _
  rw [← hA]
  refine wp_rch (x := x) (by simp) fun B pB => ?_
  have gR : (B ++ [O.list (rlist x)])[B.length]? = some (.list (rlist x)) := get_app_len _ _ _
  have pC : A <+: B ++ [O.list (rlist x)] := pB.trans (List.prefix_append _ _)
  have hBl := pB.length_le
  generalize (B ++ [O.list (rlist x)]) = C at gR pC
  have hAl := get_lt gA
  unfold rule_10_s2
  simp only [wp_bind, wp_pure, wp_seq', wp_ite, wp_and, wp_or, wp_setL, wp_allocList, wp_allocTuple, wp_alloc, wpE_get, wpE_mod, wpE_div, wpE_pow, wpE_iaddS, wpE_iaddI, wpE_addS, wp_add, wp_sub, wp_neg, wpE_lt, wpE_le, wpE_gt, wpE_ge, wpE_eq, wpE_ne, wpE_is, wpE_isnot, isP_bool, isP_obj, eqP_int, eqP_str, wpE_in, wpE_notin, wp_truthyB, wpE_truthyI, wpE_truthyN, wpE_truthyS, wp_isStr, wpE_lenS, wpE_lenG, wpE_range1, wpE_range2, wpE_iterS, wpE_iterG, wpE_max2, wpE_min2, if_true, if_false, String.reduceEq, reduceIte, true_and, and_true, List.length_nil, List.length_cons, List.nil_append, List.cons_append, Bool.false_eq_true, decide_eq_true_eq, Nat.zero_le, Int.reduceLT, Int.reduceLE, Int.reduceNeg, Nat.reduceLeDiff, Nat.reduceAdd]
  rw [wL_clos (vs := [.obj 3, vnat k, .obj B.length, .obj 2]) (get_pre (pA.trans pC) h0) (by simp [valsOf])]
  have gCl : (C ++ [O.clos (["log", "place", "reaches", "names"].zip [.obj 3, vnat k, .obj B.length, .obj 2])])[C.length]? = some (O.clos (["log", "place", "reaches", "names"].zip [.obj 3, vnat k, .obj B.length, .obj 2])) := get_app_len _ _ _
  have pD : C <+: (C ++ [O.clos (["log", "place", "reaches", "names"].zip [.obj 3, vnat k, .obj B.length, .obj 2])]) := List.prefix_append _ _
  generalize (C ++ [O.clos (["log", "place", "reaches", "names"].zip [.obj 3, vnat k, .obj B.length, .obj 2])]) = D at gCl pD
  have hCl := get_lt gR
  have gI := get_pre (pC.trans pD) gA
  have hDl := get_lt gCl
  unfold rule_10_s3 rule_10_s4
  simp only [wp_bind, wp_pure, wp_seq', wp_ite, wp_and, wp_or, wp_setL, wp_allocList, wp_allocTuple, wp_alloc, wpE_get, wpE_mod, wpE_div, wpE_pow, wpE_iaddS, wpE_iaddI, wpE_addS, wp_add, wp_sub, wp_neg, wpE_lt, wpE_le, wpE_gt, wpE_ge, wpE_eq, wpE_ne, wpE_is, wpE_isnot, isP_bool, isP_obj, eqP_int, eqP_str, wpE_in, wpE_notin, wp_truthyB, wpE_truthyI, wpE_truthyN, wpE_truthyS, wp_isStr, wpE_lenS, wpE_lenG, wpE_range1, wpE_range2, wpE_iterS, wpE_iterG, wpE_max2, wpE_min2, if_true, if_false, String.reduceEq, reduceIte, true_and, and_true, List.length_nil, List.length_cons, List.nil_append, List.cons_append, Bool.false_eq_true, decide_eq_true_eq, Nat.zero_le, Int.reduceLT, Int.reduceLE, Int.reduceNeg, Nat.reduceLeDiff, Nat.reduceAdd, wL_sAttr gI (by simp : _ ≤ 90), putA]
  have k1 : ss <+: D.set ss.length (O.inst [("useragents", V.obj (ss.length + 1)), ("rulelines", V.obj (ss.length + 2)), ("delay", V.none), ("req_rate", V.none), ("allowance", V.str (alw k x)), ("applies_to", V.obj C.length)]) := by
    obtain ⟨t, ht⟩ := (pA.trans pC).trans pD
    rw [← ht]
    exact pre_set (Nat.le_refl _)
  have hl1 : (D.set ss.length (O.inst [("useragents", V.obj (ss.length + 1)), ("rulelines", V.obj (ss.length + 2)), ("delay", V.none), ("req_rate", V.none), ("allowance", V.str (alw k x)), ("applies_to", V.obj C.length)])).length = D.length := by simp
  have e1 := get_set_here (o' := O.inst [("useragents", V.obj (ss.length + 1)), ("rulelines", V.obj (ss.length + 2)), ("delay", V.none), ("req_rate", V.none), ("allowance", V.str (alw k x)), ("applies_to", V.obj C.length)]) gI
  have e2 := get_set_other (j := ss.length) (o' := O.inst [("useragents", V.obj (ss.length + 1)), ("rulelines", V.obj (ss.length + 2)), ("delay", V.none), ("req_rate", V.none), ("allowance", V.str (alw k x)), ("applies_to", V.obj C.length)]) gCl (by omega)
  have e3 := get_set_other (j := ss.length) (o' := O.inst [("useragents", V.obj (ss.length + 1)), ("rulelines", V.obj (ss.length + 2)), ("delay", V.none), ("req_rate", V.none), ("allowance", V.str (alw k x)), ("applies_to", V.obj C.length)]) (get_pre pD gR) (by omega)
  generalize (D.set ss.length (O.inst [("useragents", V.obj (ss.length + 1)), ("rulelines", V.obj (ss.length + 2)), ("delay", V.none), ("req_rate", V.none), ("allowance", V.str (alw k x)), ("applies_to", V.obj C.length)])) = E at k1 hl1 e1 e2 e3
  refine h _ ss.length B.length _ (k1.trans (List.prefix_append _ _)) ⟨h8, by omega, ⟨_, C.length, get_pre (List.prefix_append _ _) e1, rfl, rfl, by omega, get_pre (List.prefix_append _ _) e2⟩, get_pre (List.prefix_append _ _) e3⟩ (get_app_len _ _ _)
end Mine
set_option linter.unusedSimpArgs false
set_option linter.unusedVariables false
namespace Mine
abbrev E4 : List (String × V) := [("useragents", .obj 5), ("rulelines", .obj 6), ("delay", .none), ("req_rate", .none)]
structure O10 (ss : List O) (ys : List Int) (ps : List Ro) (lg : List V) : Prop where
  o0 : ss[0]? = some .ctab
  o1 : ss[1]? = some (.list (ys.map V.int))
  o2 : ss[2]? = some (.list (nms.map V.str))
  o3 : ss[3]? = some (.list lg)
  o4 : ss[4]? = some (.inst E4)
  o6 : ss[6]? = some (.list ((ps.map Ro.i).map V.obj))
  o7 : ss[7]? = some (.list (ps.map fun p => .obj p.t))
  rw' : ∀ k p, ps[k]? = some p → Rw ss k p
  yl : ys.length ≤ 63
  pl : ps.length ≤ 63
theorem O10.ka {ss ss' : List O} {ys : List Int} {ps : List Ro} {lg lg' : List V} (h : O10 ss ys ps lg) (k : Kx [3] ss ss') (h3 : ss'[3]? = some (.list lg')) : O10 ss' ys ps lg' :=
  ⟨k _ _ (by decide) h.o0, k _ _ (by decide) h.o1, k _ _ (by decide) h.o2, h3, k _ _ (by decide) h.o4, k _ _ (by decide) h.o6, k _ _ (by decide) h.o7, fun n p e => (h.rw' n p e).keep k (by decide), h.yl, h.pl⟩
theorem O10.pre {ss ss' : List O} {ys : List Int} {ps : List Ro} {lg : List V} (h : O10 ss ys ps lg) (k : ss <+: ss') : O10 ss' ys ps lg := h.ka (Kx.pre k) (get_pre k h.o3)
structure L10 (sl : String → Option V) : Prop where
  l1 : sl "script" = some (.obj 1)
  l2 : sl "names" = some (.obj 2)
  l3 : sl "log" = some (.obj 3)
  l4 : sl "one" = some (.obj 4)
  l6 : sl "given" = some (.obj 6)
  l7 : sl "table" = some (.obj 7)
theorem L10.ka {sl sl' : String → Option V} (h : L10 sl) (k : ∀ m, m ∈ ["script", "names", "log", "one", "given", "table"] → sl' m = sl m) : L10 sl' :=
  ⟨(k _ (by decide)).trans h.l1, (k _ (by decide)).trans h.l2, (k _ (by decide)).trans h.l3, (k _ (by decide)).trans h.l4, (k _ (by decide)).trans h.l6, (k _ (by decide)).trans h.l7⟩
theorem t10_fill {sl : String → Option V} {ss : List O} {ys : List Int} {ps : List Ro} {x : Int} (hl : L10 sl) (h : O10 ss ys ps []) (hp : sl "place" = some (vnat ps.length)) (hx : ys[ps.length]? = some x) {Q : Fl → St → Prop}
    (hQ : ∀ sl' ss' p, (∀ m, m ∉ ["rule", "reaches"] → sl' m = sl m) → p.x = x → O10 ss' ys (ps ++ [p]) [] → Q .next ⟨sl', ss'⟩) : wp l10f4 ⟨sl, ss⟩ Q := by
  obtain ⟨l1, l2, l3, l4, l6, l7⟩ := hl
  have hyl := h.yl
  have hlt : ps.length < ys.length := by
    rcases Nat.lt_or_ge ps.length ys.length with q | q
    · exact q
    · rw [List.getElem?_eq_none q] at hx; cases hx
  have h8 := get_lt h.o7
  have hx' : (ys.map V.int)[ps.length]? = some (.int x) := by rw [List.getElem?_map, hx]; rfl
  have hyl' : (ys.map V.int).length ≤ 1000000 := by simp; omega
  unfold l10f4 l10s1
  simp only [wp_bind, wp_pure, wp_seq', wp_ite, wp_and, wp_or, wp_setL, wp_allocList, wp_allocTuple, wp_alloc, wpE_get, wpE_mod, wpE_div, wpE_pow, wpE_iaddS, wpE_iaddI, wpE_addS, wp_add, wp_sub, wp_neg, wpE_lt, wpE_le, wpE_gt, wpE_ge, wpE_eq, wpE_ne, wpE_is, wpE_isnot, isP_bool, isP_obj, eqP_int, eqP_str, wpE_in, wpE_notin, wp_truthyB, wpE_truthyI, wpE_truthyN, wpE_truthyS, wp_isStr, wpE_lenS, wpE_lenG, wpE_range1, wpE_range2, wpE_iterS, wpE_iterG, wpE_max2, wpE_min2, if_true, if_false, String.reduceEq, reduceIte, true_and, and_true, List.length_nil, List.length_cons, List.nil_append, List.cons_append, Bool.false_eq_true, decide_eq_true_eq, Nat.zero_le, Int.reduceLT, Int.reduceLE, Int.reduceNeg, Nat.reduceLeDiff, Nat.reduceAdd, hp, l1, l2, l3]
  rw [show vnat ps.length = V.int (ps.length : Int) from rfl, wL_item h.o1 hyl' hx', ← show vnat ps.length = V.int (ps.length : Int) from rfl]
  simp only [wp_bind, wp_pure, wp_seq', wp_ite, wp_and, wp_or, wp_setL, wp_allocList, wp_allocTuple, wp_alloc, wpE_get, wpE_mod, wpE_div, wpE_pow, wpE_iaddS, wpE_iaddI, wpE_addS, wp_add, wp_sub, wp_neg, wpE_lt, wpE_le, wpE_gt, wpE_ge, wpE_eq, wpE_ne, wpE_is, wpE_isnot, isP_bool, isP_obj, eqP_int, eqP_str, wpE_in, wpE_notin, wp_truthyB, wpE_truthyI, wpE_truthyN, wpE_truthyS, wp_isStr, wpE_lenS, wpE_lenG, wpE_range1, wpE_range2, wpE_iterS, wpE_iterG, wpE_max2, wpE_min2, if_true, if_false, String.reduceEq, reduceIte, true_and, and_true, List.length_nil, List.length_cons, List.nil_append, List.cons_append, Bool.false_eq_true, decide_eq_true_eq, Nat.zero_le, Int.reduceLT, Int.reduceLE, Int.reduceNeg, Nat.reduceLeDiff, Nat.reduceAdd, l2, l3]
  refine wp_rule10 (k := ps.length) (x := x) h.o0 (by omega) (by omega) fun A i r t pA hR ht => ?_
  have hA := h.pre pA
  have hi8 := hR.i8
  have hr8 := hR.r8
  simp only [wL_unpack2 ht, wp_setL]
  unfold l10s2
  simp only [wp_bind, wp_pure, wp_seq', wp_ite, wp_and, wp_or, wp_setL, wp_allocList, wp_allocTuple, wp_alloc, wpE_get, wpE_mod, wpE_div, wpE_pow, wpE_iaddS, wpE_iaddI, wpE_addS, wp_add, wp_sub, wp_neg, wpE_lt, wpE_le, wpE_gt, wpE_ge, wpE_eq, wpE_ne, wpE_is, wpE_isnot, isP_bool, isP_obj, eqP_int, eqP_str, wpE_in, wpE_notin, wp_truthyB, wpE_truthyI, wpE_truthyN, wpE_truthyS, wp_isStr, wpE_lenS, wpE_lenG, wpE_range1, wpE_range2, wpE_iterS, wpE_iterG, wpE_max2, wpE_min2, if_true, if_false, String.reduceEq, reduceIte, true_and, and_true, List.length_nil, List.length_cons, List.nil_append, List.cons_append, Bool.false_eq_true, decide_eq_true_eq, Nat.zero_le, Int.reduceLT, Int.reduceLE, Int.reduceNeg, Nat.reduceLeDiff, Nat.reduceAdd, l6, wL_isList hA.o6, wL_append hA.o6 (by simp; omega)]
  have kB : Kx [6] A (A.set 6 (.list ((ps.map Ro.i).map V.obj ++ [.obj i]))) := Kx.set (by decide)
  have b6 := get_set_here (o' := O.list ((ps.map Ro.i).map V.obj ++ [.obj i])) hA.o6
  generalize (A.set 6 (.list ((ps.map Ro.i).map V.obj ++ [.obj i]))) = B at kB b6
  have b7 := kB _ _ (by decide) hA.o7
  have b1 := kB _ _ (by decide) hA.o1
  have hB7 := get_lt b7
  unfold l10s3
  simp only [wp_bind, wp_pure, wp_seq', wp_ite, wp_and, wp_or, wp_setL, wp_allocList, wp_allocTuple, wp_alloc, wpE_get, wpE_mod, wpE_div, wpE_pow, wpE_iaddS, wpE_iaddI, wpE_addS, wp_add, wp_sub, wp_neg, wpE_lt, wpE_le, wpE_gt, wpE_ge, wpE_eq, wpE_ne, wpE_is, wpE_isnot, isP_bool, isP_obj, eqP_int, eqP_str, wpE_in, wpE_notin, wp_truthyB, wpE_truthyI, wpE_truthyN, wpE_truthyS, wp_isStr, wpE_lenS, wpE_lenG, wpE_range1, wpE_range2, wpE_iterS, wpE_iterG, wpE_max2, wpE_min2, if_true, if_false, String.reduceEq, reduceIte, true_and, and_true, List.length_nil, List.length_cons, List.nil_append, List.cons_append, Bool.false_eq_true, decide_eq_true_eq, Nat.zero_le, Int.reduceLT, Int.reduceLE, Int.reduceNeg, Nat.reduceLeDiff, Nat.reduceAdd, l7, l1, hp, wL_isList b7]
  rw [show vnat ps.length = V.int (ps.length : Int) from rfl, wL_item b1 hyl' hx']
  simp only [wp_bind, wp_pure, wp_seq', wp_ite, wp_and, wp_or, wp_setL, wp_allocList, wp_allocTuple, wp_alloc, wpE_get, wpE_mod, wpE_div, wpE_pow, wpE_iaddS, wpE_iaddI, wpE_addS, wp_add, wp_sub, wp_neg, wpE_lt, wpE_le, wpE_gt, wpE_ge, wpE_eq, wpE_ne, wpE_is, wpE_isnot, isP_bool, isP_obj, eqP_int, eqP_str, wpE_in, wpE_notin, wp_truthyB, wpE_truthyI, wpE_truthyN, wpE_truthyS, wp_isStr, wpE_lenS, wpE_lenG, wpE_range1, wpE_range2, wpE_iterS, wpE_iterG, wpE_max2, wpE_min2, if_true, if_false, String.reduceEq, reduceIte, true_and, and_true, List.length_nil, List.length_cons, List.nil_append, List.cons_append, Bool.false_eq_true, decide_eq_true_eq, Nat.zero_le, Int.reduceLT, Int.reduceLE, Int.reduceNeg, Nat.reduceLeDiff, Nat.reduceAdd]
  have pC : B <+: B ++ [O.tuple [.obj r, .bool (decide (x % 2 = 1))]] := List.prefix_append _ _
  have gC : (B ++ [O.tuple [.obj r, .bool (decide (x % 2 = 1))]])[B.length]? = some (O.tuple [.obj r, .bool (decide (x % 2 = 1))]) := get_app_len _ _ _
  generalize (B ++ [O.tuple [.obj r, .bool (decide (x % 2 = 1))]]) = C at pC gC
  rw [wL_append (get_pre pC b7) (by simp; omega)]
  have kD : Kx [7] C (C.set 7 (.list ((ps.map fun p => V.obj p.t) ++ [.obj B.length]))) := Kx.set (by decide)
  have d7 := get_set_here (o' := O.list ((ps.map fun p => V.obj p.t) ++ [.obj B.length])) (get_pre pC b7)
  generalize (C.set 7 (.list ((ps.map fun p => V.obj p.t) ++ [.obj B.length]))) = D at kD d7
  have kAD : Kx [6, 7] A D := (kB.more (by decide)).trans ((Kx.pre pC).trans (kD.more (by decide)))
  refine hQ _ D ⟨i, B.length, r, x⟩ (fun m hm => ?_) rfl ⟨kAD _ _ (by decide) hA.o0, kAD _ _ (by decide) hA.o1, kAD _ _ (by decide) hA.o2, kAD _ _ (by decide) hA.o3, kAD _ _ (by decide) hA.o4, ?_, ?_, fun k p e => ?_, h.yl, ?_⟩
  · simp only [List.mem_cons, List.not_mem_nil, or_false, not_or] at hm
    simp [hm]
  · rw [kD _ _ (by decide) (get_pre pC b6)]; simp
  · rw [d7]; simp
  · have hn : ∀ m ∈ [6, 7], m < 8 := by decide
    rcases Nat.lt_trichotomy k ps.length with q | q | q
    · rw [List.getElem?_append_left q] at e
      exact (hA.rw' k p e).keep kAD hn
    · subst q
      rw [List.getElem?_append_right (Nat.le_refl _), Nat.sub_self] at e
      cases e
      exact ⟨hR.keep kAD hn, by show 8 ≤ B.length; omega, kD _ _ (by simp; omega) gC⟩
    · rw [List.getElem?_eq_none (by simp; omega)] at e; cases e
  · simp; omega
/-- the search -/
theorem wp_aS10 {sl : String → Option V} {ss : List O} {l B : Int} {al : Option (List Nat)} {w : List Nat} {i : Nat} {as : List (String × V)} {Q : Fl → St → Prop} (hm : sl "m" = some (.int l)) (hb : sl "best_match" = some (.int B)) (ha : sl "allowance" = some (toldV (B, al))) (hi : sl "line" = some (.obj i))
    (ho : ss[i]? = some (.inst as)) (hal : as.lookup "allowance" = some (.str w)) (hlen : ∀ v, al = some v → v.length ≤ 64)
    (h : ∀ sl', (∀ k, k ≠ "best_match" → k ≠ "allowance" → sl' k = sl k) → sl' "best_match" = some (.int (st10 l w (B, al)).1) → sl' "allowance" = some (toldV (st10 l w (B, al))) → Q .next ⟨sl', ss⟩) : wp aS4 ⟨sl, ss⟩ Q := by
  unfold aS4
  unfold st10 at h
  simp only [wp_bind, wp_pure, wp_seq', wp_ite, wp_and, wp_or, wp_setL, wp_allocList, wp_allocTuple, wp_alloc, wpE_get, wpE_mod, wpE_div, wpE_pow, wpE_iaddS, wpE_iaddI, wpE_addS, wp_add, wp_sub, wp_neg, wpE_lt, wpE_le, wpE_gt, wpE_ge, wpE_eq, wpE_ne, wpE_is, wpE_isnot, isP_bool, isP_obj, eqP_int, eqP_str, wpE_in, wpE_notin, wp_truthyB, wpE_truthyI, wpE_truthyN, wpE_truthyS, wp_isStr, wpE_lenS, wpE_lenG, wpE_range1, wpE_range2, wpE_iterS, wpE_iterG, wpE_max2, wpE_min2, if_true, if_false, String.reduceEq, reduceIte, true_and, and_true, List.length_nil, List.length_cons, List.nil_append, List.cons_append, Bool.false_eq_true, decide_eq_true_eq, Nat.zero_le, Int.reduceLT, Int.reduceLE, Int.reduceNeg, Nat.reduceLeDiff, Nat.reduceAdd, hm]
  by_cases q0 : l = 0
  · subst q0
    simp only [bne_self_eq_false, Bool.false_eq_true, if_false]
    simp only [if_true] at h
    exact h sl (fun _ _ _ => rfl) hb ha
  · have : (l != 0) = true := by simpa using q0
    simp only [this, if_true]
    simp only [if_neg q0] at h
    simp only [wp_bind, wp_pure, wp_seq', wp_ite, wp_and, wp_or, wp_setL, wp_allocList, wp_allocTuple, wp_alloc, wpE_get, wpE_mod, wpE_div, wpE_pow, wpE_iaddS, wpE_iaddI, wpE_addS, wp_add, wp_sub, wp_neg, wpE_lt, wpE_le, wpE_gt, wpE_ge, wpE_eq, wpE_ne, wpE_is, wpE_isnot, isP_bool, isP_obj, eqP_int, eqP_str, wpE_in, wpE_notin, wp_truthyB, wpE_truthyI, wpE_truthyN, wpE_truthyS, wp_isStr, wpE_lenS, wpE_lenG, wpE_range1, wpE_range2, wpE_iterS, wpE_iterG, wpE_max2, wpE_min2, if_true, if_false, String.reduceEq, reduceIte, true_and, and_true, List.length_nil, List.length_cons, List.nil_append, List.cons_append, Bool.false_eq_true, decide_eq_true_eq, Nat.zero_le, Int.reduceLT, Int.reduceLE, Int.reduceNeg, Nat.reduceLeDiff, Nat.reduceAdd, hm, hb]
    by_cases q1 : B < l
    · simp only [q1, decide_true, if_true]
      simp only [q1, if_true] at h
      simp only [wp_bind, wp_pure, wp_seq', wp_ite, wp_and, wp_or, wp_setL, wp_allocList, wp_allocTuple, wp_alloc, wpE_get, wpE_mod, wpE_div, wpE_pow, wpE_iaddS, wpE_iaddI, wpE_addS, wp_add, wp_sub, wp_neg, wpE_lt, wpE_le, wpE_gt, wpE_ge, wpE_eq, wpE_ne, wpE_is, wpE_isnot, isP_bool, isP_obj, eqP_int, eqP_str, wpE_in, wpE_notin, wp_truthyB, wpE_truthyI, wpE_truthyN, wpE_truthyS, wp_isStr, wpE_lenS, wpE_lenG, wpE_range1, wpE_range2, wpE_iterS, wpE_iterG, wpE_max2, wpE_min2, if_true, if_false, String.reduceEq, reduceIte, true_and, and_true, List.length_nil, List.length_cons, List.nil_append, List.cons_append, Bool.false_eq_true, decide_eq_true_eq, Nat.zero_le, Int.reduceLT, Int.reduceLE, Int.reduceNeg, Nat.reduceLeDiff, Nat.reduceAdd, hm, hi, wL_gAttr (n := "allowance") (v := .str w) ho hal (by intro u e; cases e)]
      exact h _ (fun k a b => by simp [a, b]) (by simp) (by simp [toldV])
    · simp only [q1, if_false]
      simp only [q1, if_false] at h
      by_cases q2 : l = B
      · simp only [q2, if_true, true_and]
        simp only [q2, true_and] at h
        simp only [wp_bind, wp_pure, wp_seq', wp_ite, wp_and, wp_or, wp_setL, wp_allocList, wp_allocTuple, wp_alloc, wpE_get, wpE_mod, wpE_div, wpE_pow, wpE_iaddS, wpE_iaddI, wpE_addS, wp_add, wp_sub, wp_neg, wpE_lt, wpE_le, wpE_gt, wpE_ge, wpE_eq, wpE_ne, wpE_is, wpE_isnot, isP_bool, isP_obj, eqP_int, eqP_str, wpE_in, wpE_notin, wp_truthyB, wpE_truthyI, wpE_truthyN, wpE_truthyS, wp_isStr, wpE_lenS, wpE_lenG, wpE_range1, wpE_range2, wpE_iterS, wpE_iterG, wpE_max2, wpE_min2, if_true, if_false, String.reduceEq, reduceIte, true_and, and_true, List.length_nil, List.length_cons, List.nil_append, List.cons_append, Bool.false_eq_true, decide_eq_true_eq, Nat.zero_le, Int.reduceLT, Int.reduceLE, Int.reduceNeg, Nat.reduceLeDiff, Nat.reduceAdd, ha]
        cases al with
        | none =>
          simp only [toldV, wp_bind, wp_pure, wp_seq', wp_ite, wp_and, wp_or, wp_setL, wp_allocList, wp_allocTuple, wp_alloc, wpE_get, wpE_mod, wpE_div, wpE_pow, wpE_iaddS, wpE_iaddI, wpE_addS, wp_add, wp_sub, wp_neg, wpE_lt, wpE_le, wpE_gt, wpE_ge, wpE_eq, wpE_ne, wpE_is, wpE_isnot, isP_bool, isP_obj, eqP_int, eqP_str, wpE_in, wpE_notin, wp_truthyB, wpE_truthyI, wpE_truthyN, wpE_truthyS, wp_isStr, wpE_lenS, wpE_lenG, wpE_range1, wpE_range2, wpE_iterS, wpE_iterG, wpE_max2, wpE_min2, if_true, if_false, String.reduceEq, reduceIte, true_and, and_true, List.length_nil, List.length_cons, List.nil_append, List.cons_append, Bool.false_eq_true, decide_eq_true_eq, Nat.zero_le, Int.reduceLT, Int.reduceLE, Int.reduceNeg, Nat.reduceLeDiff, Nat.reduceAdd, Bool.not_true]
          simp only [reduceCtorEq, if_false] at h
          exact h sl (fun _ _ _ => rfl) hb ha
        | some v =>
          have hv := hlen v rfl
          cases v with
          | nil =>
            simp only [toldV, wp_bind, wp_pure, wp_seq', wp_ite, wp_and, wp_or, wp_setL, wp_allocList, wp_allocTuple, wp_alloc, wpE_get, wpE_mod, wpE_div, wpE_pow, wpE_iaddS, wpE_iaddI, wpE_addS, wp_add, wp_sub, wp_neg, wpE_lt, wpE_le, wpE_gt, wpE_ge, wpE_eq, wpE_ne, wpE_is, wpE_isnot, isP_bool, isP_obj, eqP_int, eqP_str, wpE_in, wpE_notin, wp_truthyB, wpE_truthyI, wpE_truthyN, wpE_truthyS, wp_isStr, wpE_lenS, wpE_lenG, wpE_range1, wpE_range2, wpE_iterS, wpE_iterG, wpE_max2, wpE_min2, if_true, if_false, String.reduceEq, reduceIte, true_and, and_true, List.length_nil, List.length_cons, List.nil_append, List.cons_append, Bool.false_eq_true, decide_eq_true_eq, Nat.zero_le, Int.reduceLT, Int.reduceLE, Int.reduceNeg, Nat.reduceLeDiff, Nat.reduceAdd, List.isEmpty_nil, Bool.not_true, Bool.not_false]
            simp only [if_true] at h
            simp only [wp_bind, wp_pure, wp_seq', wp_ite, wp_and, wp_or, wp_setL, wp_allocList, wp_allocTuple, wp_alloc, wpE_get, wpE_mod, wpE_div, wpE_pow, wpE_iaddS, wpE_iaddI, wpE_addS, wp_add, wp_sub, wp_neg, wpE_lt, wpE_le, wpE_gt, wpE_ge, wpE_eq, wpE_ne, wpE_is, wpE_isnot, isP_bool, isP_obj, eqP_int, eqP_str, wpE_in, wpE_notin, wp_truthyB, wpE_truthyI, wpE_truthyN, wpE_truthyS, wp_isStr, wpE_lenS, wpE_lenG, wpE_range1, wpE_range2, wpE_iterS, wpE_iterG, wpE_max2, wpE_min2, if_true, if_false, String.reduceEq, reduceIte, true_and, and_true, List.length_nil, List.length_cons, List.nil_append, List.cons_append, Bool.false_eq_true, decide_eq_true_eq, Nat.zero_le, Int.reduceLT, Int.reduceLE, Int.reduceNeg, Nat.reduceLeDiff, Nat.reduceAdd, hi, wL_gAttr (n := "allowance") (v := .str w) ho hal (by intro u e; cases e)]
            exact h _ (fun k a b => by simp [a, b]) (by simpa using hb) (by simp [toldV])
          | cons c r =>
            have hv2 : (c :: r).length ≤ 1000000 := by omega
            simp only [toldV, wpE_truthyS, hv2, true_and, List.isEmpty_cons, Bool.not_false, Bool.not_true, Bool.false_eq_true, if_false, wp_pure, wp_bind]
            simp only [Option.some.injEq, reduceCtorEq, if_false] at h
            exact h sl (fun _ _ _ => rfl) hb ha
      · simp only [q2, if_false]
        simp only [q2, false_and, if_false] at h
        exact h sl (fun _ _ _ => rfl) hb ha
def nmJ (j : Nat) : List Nat := nms.getD j []
theorem nmJ_mem {j : Nat} (hj : j < 4) : nmJ j ∈ nms ∧ nms.idxOf (nmJ j) = j ∧ nms[j]? = some (nmJ j) := by
  have : j = 0 ∨ j = 1 ∨ j = 2 ∨ j = 3 := by omega
  rcases this with rfl | rfl | rfl | rfl <;> decide
theorem s4_eq10 : allow_10_s4 = aS4 := rfl
theorem wp_allow10 {sl : String → Option V} {ss : List O} {ys : List Int} {ps : List Ro} {j : Nat} (hj : j < 4) (h : O10 ss ys ps []) {Q : V → St → Prop}
    (hQ : ∀ (ss' : List O) (ts : List Nat), Kx [3] ss ss' → ts.length = ps.length → O10 ss' ys ps (ts.map V.obj) → (∀ (k t : Nat), ts[k]? = some t → ss'[t]? = some (O.tuple [vnat k, .str (nmJ j)])) → Q (toldV (S10 j (ps.map Ro.x))) ⟨sl, ss'⟩) :
    wp (callP ["self", "filename"] allow10 [.obj 4, .str (nmJ j)]) ⟨sl, ss⟩ Q := by
  have hpl := h.pl
  have h8 := get_lt h.o7
  obtain ⟨hj1, hj2, hj3⟩ := nmJ_mem hj
  rw [wp_call rfl, loc2]
  unfold allow10 allow_10_s6 allow_10_s7 allow_10_s8
  have h6 : ss[6]? = some (.list (ps.map fun p => V.obj p.i)) := by rw [h.o6, List.map_map]; rfl
  simp only [wp_bind, wp_pure, wp_seq', wp_ite, wp_and, wp_or, wp_setL, wp_allocList, wp_allocTuple, wp_alloc, wpE_get, wpE_mod, wpE_div, wpE_pow, wpE_iaddS, wpE_iaddI, wpE_addS, wp_add, wp_sub, wp_neg, wpE_lt, wpE_le, wpE_gt, wpE_ge, wpE_eq, wpE_ne, wpE_is, wpE_isnot, isP_bool, isP_obj, eqP_int, eqP_str, wpE_in, wpE_notin, wp_truthyB, wpE_truthyI, wpE_truthyN, wpE_truthyS, wp_isStr, wpE_lenS, wpE_lenG, wpE_range1, wpE_range2, wpE_iterS, wpE_iterG, wpE_max2, wpE_min2, if_true, if_false, String.reduceEq, reduceIte, true_and, and_true, List.length_nil, List.length_cons, List.nil_append, List.cons_append, Bool.false_eq_true, decide_eq_true_eq, Nat.zero_le, Int.reduceLT, Int.reduceLE, Int.reduceNeg, Nat.reduceLeDiff, Nat.reduceAdd, wL_gAttr (n := "rulelines") (v := .obj 6) h.o4 rfl (by intro u e; cases e), wL_iter h6]
  refine wp_for (f := fun p : Ro => V.obj p.i) ps (fun d sl' ss' => Kx [3] ss ss' ∧ sl' "filename" = some (.str (nmJ j)) ∧ sl' "best_match" = some (.int (S10 j (d.map Ro.x)).1) ∧ sl' "allowance" = some (toldV (S10 j (d.map Ro.x))) ∧ ∃ ts : List Nat, ts.length = d.length ∧ O10 ss' ys ps (ts.map V.obj) ∧ ∀ k t, ts[k]? = some t → 8 ≤ t ∧ ss'[t]? = some (.tuple [vnat k, .str (nmJ j)]))
    (fun d sl' ss' hI p hp => by cases hp; exact hI.1 6 _ (by decide) h6) (fun d p r sl' ss' hd hI => ?_) (fun sl' ss' hI => ?_) ⟨fun _ _ _ e => e, by simp, by simp [S10], by simp [S10, toldV], [], rfl, h, fun k t e => by simp at e⟩
  · obtain ⟨i1, i2, i3, i4, ts, i5, i6, i7⟩ := hI
    have hdl : d.length + 1 ≤ 63 := by
      have := congrArg List.length hd
      simp at this
      omega
    have hpk : ps[d.length]? = some p := by rw [hd]; simp
    obtain ⟨⟨e1, e2, ⟨as, c, a1, a2, a3, a4, a5⟩, e4⟩, t8, tb⟩ := i6.rw' _ _ hpk
    rw [wp_bind, wp_setL]
    unfold allow_10_f5 allow_10_s3
    simp only [wp_bind, wp_pure, wp_seq', wp_ite, wp_and, wp_or, wp_setL, wp_allocList, wp_allocTuple, wp_alloc, wpE_get, wpE_mod, wpE_div, wpE_pow, wpE_iaddS, wpE_iaddI, wpE_addS, wp_add, wp_sub, wp_neg, wpE_lt, wpE_le, wpE_gt, wpE_ge, wpE_eq, wpE_ne, wpE_is, wpE_isnot, isP_bool, isP_obj, eqP_int, eqP_str, wpE_in, wpE_notin, wp_truthyB, wpE_truthyI, wpE_truthyN, wpE_truthyS, wp_isStr, wpE_lenS, wpE_lenG, wpE_range1, wpE_range2, wpE_iterS, wpE_iterG, wpE_max2, wpE_min2, if_true, if_false, String.reduceEq, reduceIte, true_and, and_true, List.length_nil, List.length_cons, List.nil_append, List.cons_append, Bool.false_eq_true, decide_eq_true_eq, Nat.zero_le, Int.reduceLT, Int.reduceLE, Int.reduceNeg, Nat.reduceLeDiff, Nat.reduceAdd, i2, wL_look1 a1 a3 a5, wL_call1 a5]
    unfold clos10 clos_10_s1 clos_10_s2
    simp only [wp_bind, wp_pure, wp_seq', wp_ite, wp_and, wp_or, wp_setL, wp_allocList, wp_allocTuple, wp_alloc, wpE_get, wpE_mod, wpE_div, wpE_pow, wpE_iaddS, wpE_iaddI, wpE_addS, wp_add, wp_sub, wp_neg, wpE_lt, wpE_le, wpE_gt, wpE_ge, wpE_eq, wpE_ne, wpE_is, wpE_isnot, isP_bool, isP_obj, eqP_int, eqP_str, wpE_in, wpE_notin, wp_truthyB, wpE_truthyI, wpE_truthyN, wpE_truthyS, wp_isStr, wpE_lenS, wpE_lenG, wpE_range1, wpE_range2, wpE_iterS, wpE_iterG, wpE_max2, wpE_min2, if_true, if_false, String.reduceEq, reduceIte, true_and, and_true, List.length_nil, List.length_cons, List.nil_append, List.cons_append, Bool.false_eq_true, decide_eq_true_eq, Nat.zero_le, Int.reduceLT, Int.reduceLE, Int.reduceNeg, Nat.reduceLeDiff, Nat.reduceAdd, look_if, List.lookup_nil, wL_isList i6.o3]
    have pC : ss' <+: ss' ++ [O.tuple [vnat d.length, .str (nmJ j)]] := List.prefix_append _ _
    have gC : (ss' ++ [O.tuple [vnat d.length, .str (nmJ j)]])[ss'.length]? = some (O.tuple [vnat d.length, .str (nmJ j)]) := get_app_len _ _ _
    have hC8 := get_lt i6.o7
    generalize (ss' ++ [O.tuple [vnat d.length, .str (nmJ j)]]) = C at pC gC
    have c6 := i6.pre pC
    rw [wL_append c6.o3 (by simp; omega)]
    dsimp only
    have kD : Kx [3] C (C.set 3 (.list (ts.map V.obj ++ [.obj ss'.length]))) := Kx.set (by decide)
    have d3 := get_set_here (o' := O.list (ts.map V.obj ++ [.obj ss'.length])) c6.o3
    generalize (C.set 3 (.list (ts.map V.obj ++ [.obj ss'.length]))) = D at kD d3
    have dO : O10 D ys ps ((ts ++ [ss'.length]).map V.obj) := c6.ka kD (by rw [d3]; simp)
    have dr := kD _ _ (by simp; omega) (get_pre pC e4)
    simp only [wp_bind, wp_pure, wp_seq', wp_ite, wp_and, wp_or, wp_setL, wp_allocList, wp_allocTuple, wp_alloc, wpE_get, wpE_mod, wpE_div, wpE_pow, wpE_iaddS, wpE_iaddI, wpE_addS, wp_add, wp_sub, wp_neg, wpE_lt, wpE_le, wpE_gt, wpE_ge, wpE_eq, wpE_ne, wpE_is, wpE_isnot, isP_bool, isP_obj, eqP_int, eqP_str, wpE_in, wpE_notin, wp_truthyB, wpE_truthyI, wpE_truthyN, wpE_truthyS, wp_isStr, wpE_lenS, wpE_lenG, wpE_range1, wpE_range2, wpE_iterS, wpE_iterG, wpE_max2, wpE_min2, if_true, if_false, String.reduceEq, reduceIte, true_and, and_true, List.length_nil, List.length_cons, List.nil_append, List.cons_append, Bool.false_eq_true, decide_eq_true_eq, Nat.zero_le, Int.reduceLT, Int.reduceLE, Int.reduceNeg, Nat.reduceLeDiff, Nat.reduceAdd, look_if, List.lookup_nil, wL_isList dO.o2, wL_index dO.o2 (by decide) hj1, hj2]
    rw [show vnat j = V.int (j : Int) from rfl, wL_item dr (by simp [rlist]) (show (rlist p.x)[j]? = some (.int (rch p.x j)) by simp [rlist, hj])]
    simp only [wp_bind, wp_pure, wp_seq', wp_ite, wp_and, wp_or, wp_setL, wp_allocList, wp_allocTuple, wp_alloc, wpE_get, wpE_mod, wpE_div, wpE_pow, wpE_iaddS, wpE_iaddI, wpE_addS, wp_add, wp_sub, wp_neg, wpE_lt, wpE_le, wpE_gt, wpE_ge, wpE_eq, wpE_ne, wpE_is, wpE_isnot, isP_bool, isP_obj, eqP_int, eqP_str, wpE_in, wpE_notin, wp_truthyB, wpE_truthyI, wpE_truthyN, wpE_truthyS, wp_isStr, wpE_lenS, wpE_lenG, wpE_range1, wpE_range2, wpE_iterS, wpE_iterG, wpE_max2, wpE_min2, if_true, if_false, String.reduceEq, reduceIte, true_and, and_true, List.length_nil, List.length_cons, List.nil_append, List.cons_append, Bool.false_eq_true, decide_eq_true_eq, Nat.zero_le, Int.reduceLT, Int.reduceLE, Int.reduceNeg, Nat.reduceLeDiff, Nat.reduceAdd]
    rw [s4_eq10]
    refine wp_aS10 (l := rch p.x j) (B := (S10 j (d.map Ro.x)).1) (al := (S10 j (d.map Ro.x)).2) (i := p.i) (by simp) (by simpa using i3) (by simpa using i4) (by simp) (kD _ _ (by simp; omega) (get_pre pC a1)) a2 (S10_len j _ (by simp; omega)) fun sl3 g1 g2 g3 => ?_
    have hst : st10 (rch p.x j) (alw d.length p.x) ((S10 j (d.map Ro.x)).1, (S10 j (d.map Ro.x)).2) = S10 j ((d ++ [p]).map Ro.x) := by
      rw [List.map_append, List.map_cons, List.map_nil, S10_snoc, List.length_map]
    rw [hst] at g2 g3
    refine ⟨i1.trans ((Kx.pre pC).trans kD), ?_, g2, g3, ts ++ [ss'.length], by simp [i5], dO, fun k t e => ?_⟩
    · show sl3 "filename" = _
      rw [g1 _ (by decide) (by decide)]
      simpa using i2
    · rcases Nat.lt_trichotomy k ts.length with q | q | q
      · rw [List.getElem?_append_left q] at e
        have := i7 k t e
        exact ⟨this.1, kD _ _ (by simp; omega) (get_pre pC this.2)⟩
      · subst q
        rw [List.getElem?_append_right (Nat.le_refl _), Nat.sub_self] at e
        cases e
        rw [i5]
        exact ⟨by omega, kD _ _ (by simp; omega) gC⟩
      · rw [List.getElem?_eq_none (by simp; omega)] at e; cases e
  · obtain ⟨i1, i2, i3, i4, ts, i5, i6, i7⟩ := hI
    unfold allow_10_s9
    simp only [wp_bind, wp_pure, wp_seq', wp_ite, wp_and, wp_or, wp_setL, wp_allocList, wp_allocTuple, wp_alloc, wpE_get, wpE_mod, wpE_div, wpE_pow, wpE_iaddS, wpE_iaddI, wpE_addS, wp_add, wp_sub, wp_neg, wpE_lt, wpE_le, wpE_gt, wpE_ge, wpE_eq, wpE_ne, wpE_is, wpE_isnot, isP_bool, isP_obj, eqP_int, eqP_str, wpE_in, wpE_notin, wp_truthyB, wpE_truthyI, wpE_truthyN, wpE_truthyS, wp_isStr, wpE_lenS, wpE_lenG, wpE_range1, wpE_range2, wpE_iterS, wpE_iterG, wpE_max2, wpE_min2, if_true, if_false, String.reduceEq, reduceIte, true_and, and_true, List.length_nil, List.length_cons, List.nil_append, List.cons_append, Bool.false_eq_true, decide_eq_true_eq, Nat.zero_le, Int.reduceLT, Int.reduceLE, Int.reduceNeg, Nat.reduceLeDiff, Nat.reduceAdd, i4]
    exact hQ ss' ts i1 i5 i6 fun k t e => (i7 k t e).2
end Mine
set_option linter.unusedSimpArgs false
set_option linter.unusedVariables false
namespace Mine
section
variable {loc : String → Option V} {sto : List O}
theorem wL_itemT0 {j : Nat} {v : V} {r : List V} {Q : V → St → Prop} (h : sto[j]? = some (.tuple (v :: r))) (hl : (v :: r).length ≤ 1000000) : wp (pItem (.obj j) (.int 0)) ⟨loc, sto⟩ Q = Q v ⟨loc, sto⟩ := wL_itemT (k := 0) h hl rfl
theorem wL_itemT1 {j : Nat} {u v : V} {r : List V} {Q : V → St → Prop} (h : sto[j]? = some (.tuple (u :: v :: r))) (hl : (u :: v :: r).length ≤ 1000000) : wp (pItem (.obj j) (.int 1)) ⟨loc, sto⟩ Q = Q v ⟨loc, sto⟩ := wL_itemT (k := 1) h hl rfl
theorem wL_item0 {j : Nat} {v : V} {r : List V} {Q : V → St → Prop} (h : sto[j]? = some (.list (v :: r))) (hl : (v :: r).length ≤ 1000000) : wp (pItem (.obj j) (.int 0)) ⟨loc, sto⟩ Q = Q v ⟨loc, sto⟩ := wL_item (k := 0) h hl rfl
theorem wL_itemN {j k : Nat} {xs : List V} {v : V} {Q : V → St → Prop} (h : sto[j]? = some (.list xs)) (hl : xs.length ≤ 1000000) (hk : xs[k]? = some v) : wp (pItem (.obj j) (vnat k)) ⟨loc, sto⟩ Q = Q v ⟨loc, sto⟩ := wL_item h hl hk
theorem toDs_pairs (w : List Nat) : ∀ (ts : List Nat) (off : Nat), (∀ (k t : Nat), ts[k]? = some t → sto[t]? = some (O.tuple [vnat (off + k), .str w])) → toDs (toD 3 sto) (ts.map V.obj) = some ((List.range ts.length).map fun k => PyData.tuple [.int ((off + k : Nat) : Int), .str ⟨w.toArray⟩])
  | [], off, _ => rfl
  | t :: r, off, h => by
    have h0 : sto[t]? = some (O.tuple [vnat (off + 0), .str w]) := h 0 t rfl
    have ih := toDs_pairs w r (off + 1) (fun k t e => by rw [show off + 1 + k = off + (k + 1) by omega]; exact h (k + 1) t e)
    rw [List.map_cons]
    unfold toDs
    rw [ih]
    have e : toD 3 sto (.obj t) = some (PyData.tuple [.int ((off + 0 : Nat) : Int), .str ⟨w.toArray⟩]) := by
      unfold toD
      simp only [h0]
      rfl
    rw [e, List.length_cons, List.range_succ_eq_map, List.map_cons, List.map_map]
    dsimp only
    congr 2
    refine List.map_congr_left fun k _ => ?_
    show PyData.tuple [.int ((off + 1 + k : Nat) : Int), _] = PyData.tuple [.int ((off + (k + 1) : Nat) : Int), _]
    rw [show off + 1 + k = off + (k + 1) by omega]
theorem eqv_pairs (w : Str) : ∀ (l : List Nat), PyData.eqvAll (l.map fun k : Nat => PyData.tuple [.int (k : Int), .str w]) (l.map fun k : Nat => PyData.tuple [.int (k : Int), .str w]) = true
  | [] => rfl
  | k :: r => by
    rw [List.map_cons]
    unfold PyData.eqvAll
    rw [eqv_pairs w r, Bool.and_true]
    simp [PyData.eqv, PyData.eqvAll]
theorem eqP_pairs {w : List Nat} {i j : Nat} {ts us : List Nat} (hl : ts.length = us.length) (h1 : sto[i]? = some (.list (ts.map V.obj))) (h2 : sto[j]? = some (.list (us.map V.obj))) (k1 : ∀ (k t : Nat), ts[k]? = some t → sto[t]? = some (O.tuple [vnat k, .str w])) (k2 : ∀ (k t : Nat), us[k]? = some t → sto[t]? = some (O.tuple [vnat k, .str w])) : eqP ⟨loc, sto⟩ (.obj i) (.obj j) = some true := by
  have e1 := toDs_pairs (sto := sto) w ts 0 (fun k t e => by rw [Nat.zero_add]; exact k1 k t e)
  have e2 := toDs_pairs (sto := sto) w us 0 (fun k t e => by rw [Nat.zero_add]; exact k2 k t e)
  unfold eqP
  have d1 : toD 4 sto (.obj i) = some (.list ((List.range ts.length).map fun k => PyData.tuple [.int ((0 + k : Nat) : Int), .str ⟨w.toArray⟩])) := by
    unfold toD
    simp only [h1, e1, Option.map_some]
  have d2 : toD 4 sto (.obj j) = some (.list ((List.range us.length).map fun k => PyData.tuple [.int ((0 + k : Nat) : Int), .str ⟨w.toArray⟩])) := by
    unfold toD
    simp only [h2, e2, Option.map_some]
  simp only [d1, d2, ← hl, Nat.zero_add]
  congr 1
  exact eqv_pairs _ _
end
theorem t10_group {sl : String → Option V} {ss : List O} {ys : List Int} {ps : List Ro} {lg : List V} {j far : Nat} (hj : j < 4) (h : O10 ss ys ps lg) (hx : ps.map Ro.x = ys) (l1 : sl "script" = some (.obj 1)) (l7 : sl "table" = some (.obj 7)) (lj : sl "j" = some (vnat j)) (lf : sl "far" = some (vnat far)) {Q : V → St → Prop}
    (hQ : ∀ ss', ss <+: ss' → Q (.obj ss'.length) ⟨sl, ss' ++ [.list ((grp j (far : Int) ys).map vnat)]⟩) : wp l10c6 ⟨sl, ss⟩ Q := by
  have hyl := h.yl
  have hpy : ps.length = ys.length := by rw [← hx]; simp
  unfold l10c6
  refine wp_comp (f := vnat) (a := .obj ss.length) (st1 := ⟨sl, ss ++ [.range 0 (ys.length : Int) 1]⟩) (src := none) (List.range ys.length) (fun k => decide (rch (ys.getD k 0) j = (far : Int))) vnat ?_ ?_ (by simp) (fun p hp => by cases hp) (by simp; omega) (fun k hk sl' ss' hfr hpre hn => ?_) (fun sto' hp => hQ sto' ((List.prefix_append _ _).trans hp))
  · simp only [wp_bind, wp_pure, wp_seq', wp_ite, wp_and, wp_or, wp_setL, wp_allocList, wp_allocTuple, wp_alloc, wpE_get, wpE_mod, wpE_div, wpE_pow, wpE_iaddS, wpE_iaddI, wpE_addS, wp_add, wp_sub, wp_neg, wpE_lt, wpE_le, wpE_gt, wpE_ge, wpE_eq, wpE_ne, wpE_is, wpE_isnot, isP_bool, isP_obj, eqP_int, eqP_str, wpE_in, wpE_notin, wp_truthyB, wpE_truthyI, wpE_truthyN, wpE_truthyS, wp_isStr, wpE_lenS, wpE_lenG, wpE_range1, wpE_range2, wpE_iterS, wpE_iterG, wpE_max2, wpE_min2, if_true, if_false, String.reduceEq, reduceIte, true_and, and_true, List.length_nil, List.length_cons, List.nil_append, List.cons_append, Bool.false_eq_true, decide_eq_true_eq, Nat.zero_le, Int.reduceLT, Int.reduceLE, Int.reduceNeg, Nat.reduceLeDiff, Nat.reduceAdd, l1, wL_len h.o1 (by simp; omega), List.length_map]
  · rw [wL_iterR (n := ys.length) (get_app_len _ _ _) (by omega)]; exact ⟨rfl, rfl⟩
  · have hk3 := List.mem_range.mp hk
    have h' := h.pre ((List.prefix_append _ _).trans hpre)
    have a7 : sl' "table" = some (.obj 7) := by rw [hfr _ (by simp)]; exact l7
    have aj : sl' "j" = some (vnat j) := by rw [hfr _ (by simp)]; exact lj
    have af : sl' "far" = some (vnat far) := by rw [hfr _ (by simp)]; exact lf
    obtain ⟨p, hp⟩ : ∃ p, ps[k]? = some p := ⟨ps[k]'(by omega), List.getElem?_eq_getElem _⟩
    have hpx : ys.getD k 0 = p.x := by
      rw [List.getD_eq_getElem?_getD, ← hx, List.getElem?_map, hp]; rfl
    have hR := h'.rw' k p hp
    have hpt : (ps.map fun p => V.obj p.t)[k]? = some (.obj p.t) := by rw [List.getElem?_map, hp]; rfl
    rw [hpx]
    simp only [wp_bind, wp_pure, wp_seq', wp_ite, wp_and, wp_or, wp_setL, wp_allocList, wp_allocTuple, wp_alloc, wpE_get, wpE_mod, wpE_div, wpE_pow, wpE_iaddS, wpE_iaddI, wpE_addS, wp_add, wp_sub, wp_neg, wpE_lt, wpE_le, wpE_gt, wpE_ge, wpE_eq, wpE_ne, wpE_is, wpE_isnot, isP_bool, isP_obj, eqP_int, eqP_str, wpE_in, wpE_notin, wp_truthyB, wpE_truthyI, wpE_truthyN, wpE_truthyS, wp_isStr, wpE_lenS, wpE_lenG, wpE_range1, wpE_range2, wpE_iterS, wpE_iterG, wpE_max2, wpE_min2, if_true, if_false, String.reduceEq, reduceIte, true_and, and_true, List.length_nil, List.length_cons, List.nil_append, List.cons_append, Bool.false_eq_true, decide_eq_true_eq, Nat.zero_le, Int.reduceLT, Int.reduceLE, Int.reduceNeg, Nat.reduceLeDiff, Nat.reduceAdd, hn, a7, aj, af, wL_itemN h'.o7 (by simp; omega) hpt, wL_itemT0 hR.tb (by simp), wL_itemN hR.ru.rl (by simp [rlist]) (show (rlist p.x)[j]? = some (.int (rch p.x j)) by simp [rlist, hj])]
    rw [show vnat far = V.int (far : Int) from rfl]
    simp only [wp_bind, wp_pure, wp_seq', wp_ite, wp_and, wp_or, wp_setL, wp_allocList, wp_allocTuple, wp_alloc, wpE_get, wpE_mod, wpE_div, wpE_pow, wpE_iaddS, wpE_iaddI, wpE_addS, wp_add, wp_sub, wp_neg, wpE_lt, wpE_le, wpE_gt, wpE_ge, wpE_eq, wpE_ne, wpE_is, wpE_isnot, isP_bool, isP_obj, eqP_int, eqP_str, wpE_in, wpE_notin, wp_truthyB, wpE_truthyI, wpE_truthyN, wpE_truthyS, wp_isStr, wpE_lenS, wpE_lenG, wpE_range1, wpE_range2, wpE_iterS, wpE_iterG, wpE_max2, wpE_min2, if_true, if_false, String.reduceEq, reduceIte, true_and, and_true, List.length_nil, List.length_cons, List.nil_append, List.cons_append, Bool.false_eq_true, decide_eq_true_eq, Nat.zero_le, Int.reduceLT, Int.reduceLE, Int.reduceNeg, Nat.reduceLeDiff, Nat.reduceAdd]
    exact ⟨hpre, fun _ => hpre⟩
theorem t10_kind {sl : String → Option V} {ss : List O} {ys : List Int} {ps : List Ro} {lg : List V} {j far G : Nat} (h : O10 ss ys ps lg) (hx : ps.map Ro.x = ys) (l7 : sl "table" = some (.obj 7)) (l8 : sl "group" = some (.obj G)) (oG : ss[G]? = some (.list ((grp j (far : Int) ys).map vnat))) {Q : V → St → Prop}
    (hQ : ∀ ss', ss <+: ss' → Q (.obj ss'.length) ⟨sl, ss' ++ [.list ((knd j (far : Int) ys).map vnat)]⟩) : wp l10c7 ⟨sl, ss⟩ Q := by
  have hyl := h.yl
  have hpy : ps.length = ys.length := by rw [← hx]; simp
  have hgl : (grp j (far : Int) ys).length ≤ 63 := by
    unfold grp
    exact Nat.le_trans (List.length_filter_le _ _) (by simp; omega)
  unfold l10c7
  refine wp_comp (f := vnat) (a := .obj G) (st1 := ⟨sl, ss⟩) (src := some (G, .list ((grp j (far : Int) ys).map vnat))) (grp j (far : Int) ys) (fun k => decide (ys.getD k 0 % 2 = 1)) vnat ?_ ?_ (by simp) (fun p hp => by cases hp; exact oG) (by omega) (fun k hk sl' ss' hfr hpre hn => ?_) (fun sto' hp => hQ sto' hp)
  · simp only [wp_bind, wp_pure, wp_seq', wp_ite, wp_and, wp_or, wp_setL, wp_allocList, wp_allocTuple, wp_alloc, wpE_get, wpE_mod, wpE_div, wpE_pow, wpE_iaddS, wpE_iaddI, wpE_addS, wp_add, wp_sub, wp_neg, wpE_lt, wpE_le, wpE_gt, wpE_ge, wpE_eq, wpE_ne, wpE_is, wpE_isnot, isP_bool, isP_obj, eqP_int, eqP_str, wpE_in, wpE_notin, wp_truthyB, wpE_truthyI, wpE_truthyN, wpE_truthyS, wp_isStr, wpE_lenS, wpE_lenG, wpE_range1, wpE_range2, wpE_iterS, wpE_iterG, wpE_max2, wpE_min2, if_true, if_false, String.reduceEq, reduceIte, true_and, and_true, List.length_nil, List.length_cons, List.nil_append, List.cons_append, Bool.false_eq_true, decide_eq_true_eq, Nat.zero_le, Int.reduceLT, Int.reduceLE, Int.reduceNeg, Nat.reduceLeDiff, Nat.reduceAdd, l8]
  · rw [wL_iter oG]; exact ⟨rfl, rfl⟩
  · have hk3 : k < ys.length := by unfold grp at hk; exact List.mem_range.mp (List.mem_filter.mp hk).1
    have h' := h.pre hpre
    have a7 : sl' "table" = some (.obj 7) := by rw [hfr _ (by simp)]; exact l7
    obtain ⟨p, hp⟩ : ∃ p, ps[k]? = some p := ⟨ps[k]'(by omega), List.getElem?_eq_getElem _⟩
    have hpx : ys.getD k 0 = p.x := by
      rw [List.getD_eq_getElem?_getD, ← hx, List.getElem?_map, hp]; rfl
    have hR := h'.rw' k p hp
    have hpt : (ps.map fun p => V.obj p.t)[k]? = some (.obj p.t) := by rw [List.getElem?_map, hp]; rfl
    rw [hpx]
    simp only [wp_bind, wp_pure, wp_seq', wp_ite, wp_and, wp_or, wp_setL, wp_allocList, wp_allocTuple, wp_alloc, wpE_get, wpE_mod, wpE_div, wpE_pow, wpE_iaddS, wpE_iaddI, wpE_addS, wp_add, wp_sub, wp_neg, wpE_lt, wpE_le, wpE_gt, wpE_ge, wpE_eq, wpE_ne, wpE_is, wpE_isnot, isP_bool, isP_obj, eqP_int, eqP_str, wpE_in, wpE_notin, wp_truthyB, wpE_truthyI, wpE_truthyN, wpE_truthyS, wp_isStr, wpE_lenS, wpE_lenG, wpE_range1, wpE_range2, wpE_iterS, wpE_iterG, wpE_max2, wpE_min2, if_true, if_false, String.reduceEq, reduceIte, true_and, and_true, List.length_nil, List.length_cons, List.nil_append, List.cons_append, Bool.false_eq_true, decide_eq_true_eq, Nat.zero_le, Int.reduceLT, Int.reduceLE, Int.reduceNeg, Nat.reduceLeDiff, Nat.reduceAdd, hn, a7, wL_itemN h'.o7 (by simp; omega) hpt, wL_itemT1 hR.tb (by simp)]
    exact ⟨hpre, fun _ => hpre⟩
/-- one reach -/
theorem t10_far {sl : String → Option V} {ss : List O} {ys : List Int} {ps : List Ro} {lg : List V} {j far : Nat} {v : V} (hj : j < 4) (h : O10 ss ys ps lg) (hx : ps.map Ro.x = ys) (l1 : sl "script" = some (.obj 1)) (l7 : sl "table" = some (.obj 7)) (lj : sl "j" = some (vnat j)) (lf : sl "far" = some (vnat far)) (ld : sl "due" = some v) {Q : Fl → St → Prop}
    (hQ : ∀ sl' ss', (∀ m, m ∉ ["group", "kind", "due"] → sl' m = sl m) → sl' "due" = some (dl j ys v far) → ss <+: ss' → Q .next ⟨sl', ss'⟩) : wp l10f12 ⟨sl, ss⟩ Q := by
  have hyl := h.yl
  have hgl : (grp j (far : Int) ys).length ≤ 63 := by
    unfold grp
    exact Nat.le_trans (List.length_filter_le _ _) (by simp; omega)
  have hkl : (knd j (far : Int) ys).length ≤ 63 := by
    unfold knd
    exact Nat.le_trans (List.length_filter_le _ _) hgl
  unfold l10f12 l10s10
  simp only [wp_seq', wp_bind]
  refine t10_group hj h hx l1 l7 lj lf fun A pA => ?_
  have gA : (A ++ [O.list ((grp j (far : Int) ys).map vnat)])[A.length]? = some (.list ((grp j (far : Int) ys).map vnat)) := get_app_len _ _ _
  have pB : ss <+: (A ++ [O.list ((grp j (far : Int) ys).map vnat)]) := pA.trans (List.prefix_append _ _)
  generalize (A ++ [O.list ((grp j (far : Int) ys).map vnat)]) = B at gA pB
  unfold l10s11
  simp only [wp_bind, wp_pure, wp_seq', wp_ite, wp_and, wp_or, wp_setL, wp_allocList, wp_allocTuple, wp_alloc, wpE_get, wpE_mod, wpE_div, wpE_pow, wpE_iaddS, wpE_iaddI, wpE_addS, wp_add, wp_sub, wp_neg, wpE_lt, wpE_le, wpE_gt, wpE_ge, wpE_eq, wpE_ne, wpE_is, wpE_isnot, isP_bool, isP_obj, eqP_int, eqP_str, wpE_in, wpE_notin, wp_truthyB, wpE_truthyI, wpE_truthyN, wpE_truthyS, wp_isStr, wpE_lenS, wpE_lenG, wpE_range1, wpE_range2, wpE_iterS, wpE_iterG, wpE_max2, wpE_min2, if_true, if_false, String.reduceEq, reduceIte, true_and, and_true, List.length_nil, List.length_cons, List.nil_append, List.cons_append, Bool.false_eq_true, decide_eq_true_eq, Nat.zero_le, Int.reduceLT, Int.reduceLE, Int.reduceNeg, Nat.reduceLeDiff, Nat.reduceAdd]
  have gN : (B ++ [O.list []])[B.length]? = some (.list []) := get_app_len _ _ _
  have pC : B <+: (B ++ [O.list []]) := List.prefix_append _ _
  generalize (B ++ [O.list []]) = C at gN pC
  have cG := get_pre pC gA
  rw [eqL_nats cG gN]
  by_cases hg : grp j (far : Int) ys = []
  · simp only [hg, List.isEmpty_nil, Bool.not_true, Bool.false_eq_true, if_false, wp_truthyB]
    refine hQ _ _ (fun m hm => ?_) ?_ (pB.trans pC)
    · simp only [List.mem_cons, List.not_mem_nil, or_false, not_or] at hm
      simp [hm]
    · unfold dl pk
      rw [if_pos hg]
      simpa using ld
  · have hge : (grp j (far : Int) ys).isEmpty = false := by cases q : grp j (far : Int) ys with | nil => exact absurd q hg | cons _ _ => rfl
    simp only [hge, Bool.not_false, if_true, wp_truthyB]
    unfold l10s8
    simp only [wp_seq', wp_bind]
    refine t10_kind (j := j) (far := far) (h.pre (pB.trans pC)) hx (by simpa using l7) (by simp) cG fun D pD => ?_
    have gK : (D ++ [O.list ((knd j (far : Int) ys).map vnat)])[D.length]? = some (.list ((knd j (far : Int) ys).map vnat)) := get_app_len _ _ _
    have pE : C <+: (D ++ [O.list ((knd j (far : Int) ys).map vnat)]) := pD.trans (List.prefix_append _ _)
    generalize (D ++ [O.list ((knd j (far : Int) ys).map vnat)]) = E at gK pE
    unfold l10s9
    simp only [wp_bind, wp_pure, wp_seq', wp_ite, wp_and, wp_or, wp_setL, wp_allocList, wp_allocTuple, wp_alloc, wpE_get, wpE_mod, wpE_div, wpE_pow, wpE_iaddS, wpE_iaddI, wpE_addS, wp_add, wp_sub, wp_neg, wpE_lt, wpE_le, wpE_gt, wpE_ge, wpE_eq, wpE_ne, wpE_is, wpE_isnot, isP_bool, isP_obj, eqP_int, eqP_str, wpE_in, wpE_notin, wp_truthyB, wpE_truthyI, wpE_truthyN, wpE_truthyS, wp_isStr, wpE_lenS, wpE_lenG, wpE_range1, wpE_range2, wpE_iterS, wpE_iterG, wpE_max2, wpE_min2, if_true, if_false, String.reduceEq, reduceIte, true_and, and_true, List.length_nil, List.length_cons, List.nil_append, List.cons_append, Bool.false_eq_true, decide_eq_true_eq, Nat.zero_le, Int.reduceLT, Int.reduceLE, Int.reduceNeg, Nat.reduceLeDiff, Nat.reduceAdd]
    have gN2 : (E ++ [O.list []])[E.length]? = some (.list []) := get_app_len _ _ _
    have pF : E <+: (E ++ [O.list []]) := List.prefix_append _ _
    generalize (E ++ [O.list []]) = F at gN2 pF
    have fK := get_pre pF gK
    rw [eqL_nats fK gN2]
    have pAll := ((pB.trans pC).trans pE).trans pF
    cases hk : knd j (far : Int) ys with
    | nil =>
      simp only [List.isEmpty_nil, Bool.not_true, Bool.false_eq_true, if_false, wp_truthyB, wp_bind, wp_pure, wp_seq', wp_ite, wp_and, wp_or, wp_setL, wp_allocList, wp_allocTuple, wp_alloc, wpE_get, wpE_mod, wpE_div, wpE_pow, wpE_iaddS, wpE_iaddI, wpE_addS, wp_add, wp_sub, wp_neg, wpE_lt, wpE_le, wpE_gt, wpE_ge, wpE_eq, wpE_ne, wpE_is, wpE_isnot, isP_bool, isP_obj, eqP_int, eqP_str, wpE_in, wpE_notin, wp_truthyB, wpE_truthyI, wpE_truthyN, wpE_truthyS, wp_isStr, wpE_lenS, wpE_lenG, wpE_range1, wpE_range2, wpE_iterS, wpE_iterG, wpE_max2, wpE_min2, if_true, if_false, String.reduceEq, reduceIte, true_and, and_true, List.length_nil, List.length_cons, List.nil_append, List.cons_append, Bool.false_eq_true, decide_eq_true_eq, Nat.zero_le, Int.reduceLT, Int.reduceLE, Int.reduceNeg, Nat.reduceLeDiff, Nat.reduceAdd, cps_e]
      refine hQ _ _ (fun m hm => ?_) ?_ pAll
      · simp only [List.mem_cons, List.not_mem_nil, or_false, not_or] at hm
        simp [hm]
      · unfold dl pk
        rw [if_neg hg, hk]
        simp
    | cons k r =>
      have hkk : k ∈ knd j (far : Int) ys := by rw [hk]; simp
      have hk3 : k < ys.length := by
        unfold knd at hkk
        have := (List.mem_filter.mp hkk).1
        unfold grp at this
        exact List.mem_range.mp (List.mem_filter.mp this).1
      rw [hk] at fK hkl
      simp only [List.isEmpty_cons, Bool.not_false, if_true, wp_truthyB, wp_bind, wp_pure, wp_seq', wp_ite, wp_and, wp_or, wp_setL, wp_allocList, wp_allocTuple, wp_alloc, wpE_get, wpE_mod, wpE_div, wpE_pow, wpE_iaddS, wpE_iaddI, wpE_addS, wp_add, wp_sub, wp_neg, wpE_lt, wpE_le, wpE_gt, wpE_ge, wpE_eq, wpE_ne, wpE_is, wpE_isnot, isP_bool, isP_obj, eqP_int, eqP_str, wpE_in, wpE_notin, wp_truthyB, wpE_truthyI, wpE_truthyN, wpE_truthyS, wp_isStr, wpE_lenS, wpE_lenG, wpE_range1, wpE_range2, wpE_iterS, wpE_iterG, wpE_max2, wpE_min2, if_true, if_false, String.reduceEq, reduceIte, true_and, and_true, List.length_nil, List.length_cons, List.nil_append, List.cons_append, Bool.false_eq_true, decide_eq_true_eq, Nat.zero_le, Int.reduceLT, Int.reduceLE, Int.reduceNeg, Nat.reduceLeDiff, Nat.reduceAdd, cps_x]
      rw [List.map_cons] at fK
      rw [wL_item0 fK (by simp at hkl ⊢; omega), show vnat k = V.int (k : Int) from rfl]
      simp only [wp_bind, wp_pure, wp_seq', wp_ite, wp_and, wp_or, wp_setL, wp_allocList, wp_allocTuple, wp_alloc, wpE_get, wpE_mod, wpE_div, wpE_pow, wpE_iaddS, wpE_iaddI, wpE_addS, wp_add, wp_sub, wp_neg, wpE_lt, wpE_le, wpE_gt, wpE_ge, wpE_eq, wpE_ne, wpE_is, wpE_isnot, isP_bool, isP_obj, eqP_int, eqP_str, wpE_in, wpE_notin, wp_truthyB, wpE_truthyI, wpE_truthyN, wpE_truthyS, wp_isStr, wpE_lenS, wpE_lenG, wpE_range1, wpE_range2, wpE_iterS, wpE_iterG, wpE_max2, wpE_min2, if_true, if_false, String.reduceEq, reduceIte, true_and, and_true, List.length_nil, List.length_cons, List.nil_append, List.cons_append, Bool.false_eq_true, decide_eq_true_eq, Nat.zero_le, Int.reduceLT, Int.reduceLE, Int.reduceNeg, Nat.reduceLeDiff, Nat.reduceAdd, xs_eq (by omega : k ≤ 100)]
      refine hQ _ _ (fun m hm => ?_) ?_ pAll
      · simp only [List.mem_cons, List.not_mem_nil, or_false, not_or] at hm
        simp [hm]
      · unfold dl pk
        rw [if_neg hg, hk]
        simp
end Mine
set_option linter.unusedSimpArgs false
set_option linter.unusedVariables false
namespace Mine
/-- the log that is due -/
theorem t10_log {sl : String → Option V} {ss : List O} {ys : List Int} {ps : List Ro} {lg : List V} {j : Nat} (hj : j < 4) (h : O10 ss ys ps lg) (l1 : sl "script" = some (.obj 1)) (l2 : sl "names" = some (.obj 2)) (lj : sl "j" = some (vnat j)) {Q : V → St → Prop}
    (hQ : ∀ (ss' : List O) (us : List Nat), ss <+: ss' → us.length = ys.length → (∀ (k t : Nat), us[k]? = some t → ss'[t]? = some (O.tuple [vnat k, .str (nmJ j)])) → Q (.obj ss'.length) ⟨sl, ss' ++ [.list (us.map V.obj)]⟩) : wp l10c5 ⟨sl, ss⟩ Q := by
  have hyl := h.yl
  obtain ⟨hj1, hj2, hj3⟩ := nmJ_mem hj
  unfold l10c5
  refine wp_compI (f := vnat) (a := .obj ss.length) (st1 := ⟨sl, ss ++ [.range 0 (ys.length : Int) 1]⟩) (src := none) (List.range ys.length)
    (fun d acc sto => d.length ≤ 63 ∧ (ss ++ [O.range 0 (ys.length : Int) 1]) <+: sto ∧ d = List.range d.length ∧ ∃ us : List Nat, us.length = d.length ∧ acc = us.map V.obj ∧ ∀ (k t : Nat), us[k]? = some t → sto[t]? = some (O.tuple [vnat k, .str (nmJ j)])) ?_ ?_ (by simp) (fun d acc sto hI p hp => by cases hp) (fun d acc sto hI => ?_) (fun d x r acc loc sto hd hI hfr hn => ?_) ⟨by simp, List.prefix_refl _, rfl, [], rfl, rfl, fun k t e => by simp at e⟩ (fun acc sto' hI => ?_)
  · simp only [wp_bind, wp_pure, wp_seq', wp_ite, wp_and, wp_or, wp_setL, wp_allocList, wp_allocTuple, wp_alloc, wpE_get, wpE_mod, wpE_div, wpE_pow, wpE_iaddS, wpE_iaddI, wpE_addS, wp_add, wp_sub, wp_neg, wpE_lt, wpE_le, wpE_gt, wpE_ge, wpE_eq, wpE_ne, wpE_is, wpE_isnot, isP_bool, isP_obj, eqP_int, eqP_str, wpE_in, wpE_notin, wp_truthyB, wpE_truthyI, wpE_truthyN, wpE_truthyS, wp_isStr, wpE_lenS, wpE_lenG, wpE_range1, wpE_range2, wpE_iterS, wpE_iterG, wpE_max2, wpE_min2, if_true, if_false, String.reduceEq, reduceIte, true_and, and_true, List.length_nil, List.length_cons, List.nil_append, List.cons_append, Bool.false_eq_true, decide_eq_true_eq, Nat.zero_le, Int.reduceLT, Int.reduceLE, Int.reduceNeg, Nat.reduceLeDiff, Nat.reduceAdd, l1, wL_len h.o1 (by simp; omega), List.length_map]
  · rw [wL_iterR (n := ys.length) (get_app_len _ _ _) (by omega)]; exact ⟨rfl, rfl⟩
  · obtain ⟨i0, i1, i2, us, i3, rfl, i5⟩ := hI
    simp; omega
  · obtain ⟨i0, i1, i2, us, i3, rfl, i5⟩ := hI
    have hdl : d.length + 1 ≤ ys.length := by
      have := congrArg List.length hd
      simp at this
      omega
    have hxk : x = d.length := by
      have h1 : (List.range ys.length)[d.length]? = some x := by rw [hd]; simp
      rw [List.getElem?_range (by omega)] at h1
      exact (Option.some.inj h1).symm
    subst hxk
    have h' := h.pre ((List.prefix_append _ _).trans i1)
    have a2 : loc "names" = some (.obj 2) := by rw [hfr _ (by simp)]; exact l2
    have aj : loc "j" = some (vnat j) := by rw [hfr _ (by simp)]; exact lj
    simp only [wp_bind, wp_pure, wp_seq', wp_ite, wp_and, wp_or, wp_setL, wp_allocList, wp_allocTuple, wp_alloc, wpE_get, wpE_mod, wpE_div, wpE_pow, wpE_iaddS, wpE_iaddI, wpE_addS, wp_add, wp_sub, wp_neg, wpE_lt, wpE_le, wpE_gt, wpE_ge, wpE_eq, wpE_ne, wpE_is, wpE_isnot, isP_bool, isP_obj, eqP_int, eqP_str, wpE_in, wpE_notin, wp_truthyB, wpE_truthyI, wpE_truthyN, wpE_truthyS, wp_isStr, wpE_lenS, wpE_lenG, wpE_range1, wpE_range2, wpE_iterS, wpE_iterG, wpE_max2, wpE_min2, if_true, if_false, String.reduceEq, reduceIte, true_and, and_true, List.length_nil, List.length_cons, List.nil_append, List.cons_append, Bool.false_eq_true, decide_eq_true_eq, Nat.zero_le, Int.reduceLT, Int.reduceLE, Int.reduceNeg, Nat.reduceLeDiff, Nat.reduceAdd, hn, a2, aj, wL_itemN h'.o2 (by decide) (show (nms.map V.str)[j]? = some (.str (nmJ j)) by rw [List.getElem?_map, hj3]; rfl)]
    refine ⟨by simp; omega, i1.trans (List.prefix_append _ _), ?_, us ++ [sto.length], by simp [i3], by simp, fun k t e => ?_⟩
    · rw [List.length_append, List.length_singleton, List.range_succ, ← i2]
    · rcases Nat.lt_trichotomy k us.length with q | q | q
      · rw [List.getElem?_append_left q] at e
        exact get_pre (List.prefix_append _ _) (i5 k t e)
      · subst q
        rw [List.getElem?_append_right (Nat.le_refl _), Nat.sub_self] at e
        cases e
        rw [i3]
        exact get_app_len _ _ _
      · rw [List.getElem?_eq_none (by simp; omega)] at e; cases e
  · obtain ⟨i0, i1, i2, us, i3, rfl, i5⟩ := hI
    exact hQ sto' us ((List.prefix_append _ _).trans i1) (by rw [i3]; simp) i5
/-- the verdicts stand -/
theorem t10_place {sl : String → Option V} {ss : List O} {ys : List Int} {ps : List Ro} {lg : List V} {R k : Nat} (h : O10 ss ys ps lg) (hk : k < ps.length) (l7 : sl "table" = some (.obj 7)) (lr : sl "rules" = some (.obj R)) (lp : sl "place" = some (vnat k)) (oR : ss[R]? = some (.list ((ps.map Ro.i).map V.obj))) {Q : Fl → St → Prop}
    (hQ : Q .next ⟨sl, ss⟩) : wp l10f13 ⟨sl, ss⟩ Q := by
  have hpl := h.pl
  obtain ⟨p, hp⟩ : ∃ p, ps[k]? = some p := ⟨ps[k], List.getElem?_eq_getElem _⟩
  have hR := h.rw' k p hp
  have hpt : (ps.map fun p => V.obj p.t)[k]? = some (.obj p.t) := by rw [List.getElem?_map, hp]; rfl
  have hpi : ((ps.map Ro.i).map V.obj)[k]? = some (.obj p.i) := by rw [List.getElem?_map, List.getElem?_map, hp]; rfl
  obtain ⟨as, c, a1, a2, a3, a4, a5⟩ := hR.ru.at'
  unfold l10f13
  simp only [wp_bind, wp_pure, wp_seq', wp_ite, wp_and, wp_or, wp_setL, wp_allocList, wp_allocTuple, wp_alloc, wpE_get, wpE_mod, wpE_div, wpE_pow, wpE_iaddS, wpE_iaddI, wpE_addS, wp_add, wp_sub, wp_neg, wpE_lt, wpE_le, wpE_gt, wpE_ge, wpE_eq, wpE_ne, wpE_is, wpE_isnot, isP_bool, isP_obj, eqP_int, eqP_str, wpE_in, wpE_notin, wp_truthyB, wpE_truthyI, wpE_truthyN, wpE_truthyS, wp_isStr, wpE_lenS, wpE_lenG, wpE_range1, wpE_range2, wpE_iterS, wpE_iterG, wpE_max2, wpE_min2, if_true, if_false, String.reduceEq, reduceIte, true_and, and_true, List.length_nil, List.length_cons, List.nil_append, List.cons_append, Bool.false_eq_true, decide_eq_true_eq, Nat.zero_le, Int.reduceLT, Int.reduceLE, Int.reduceNeg, Nat.reduceLeDiff, Nat.reduceAdd, lr, lp, l7, wL_itemN oR (by simp; omega) hpi, wL_gAttr (n := "allowance") (v := .str (alw k p.x)) a1 a2 (by intro u e; cases e), wL_itemN h.o7 (by simp; omega) hpt, wL_itemT1 hR.tb (by simp)]
  by_cases q : p.x % 2 = 1
  · have e : alw k p.x = List.replicate (k + 1) 120 := by unfold alw; rw [if_pos q]
    simp only [q, decide_true, if_true, e, cps_x, vnat, wp_bind, wp_pure, wp_seq', wp_ite, wp_and, wp_or, wp_setL, wp_allocList, wp_allocTuple, wp_alloc, wpE_get, wpE_mod, wpE_div, wpE_pow, wpE_iaddS, wpE_iaddI, wpE_addS, wp_add, wp_sub, wp_neg, wpE_lt, wpE_le, wpE_gt, wpE_ge, wpE_eq, wpE_ne, wpE_is, wpE_isnot, isP_bool, isP_obj, eqP_int, eqP_str, wpE_in, wpE_notin, wp_truthyB, wpE_truthyI, wpE_truthyN, wpE_truthyS, wp_isStr, wpE_lenS, wpE_lenG, wpE_range1, wpE_range2, wpE_iterS, wpE_iterG, wpE_max2, wpE_min2, if_true, if_false, String.reduceEq, reduceIte, true_and, and_true, List.length_nil, List.length_cons, List.nil_append, List.cons_append, Bool.false_eq_true, decide_eq_true_eq, Nat.zero_le, Int.reduceLT, Int.reduceLE, Int.reduceNeg, Nat.reduceLeDiff, Nat.reduceAdd, xs_eq (by omega : k ≤ 100), Bool.not_true]
    exact hQ
  · have e : alw k p.x = [] := by unfold alw; rw [if_neg q]
    simp only [q, decide_false, if_false, e, cps_e, wp_bind, wp_pure, wp_seq', wp_ite, wp_and, wp_or, wp_setL, wp_allocList, wp_allocTuple, wp_alloc, wpE_get, wpE_mod, wpE_div, wpE_pow, wpE_iaddS, wpE_iaddI, wpE_addS, wp_add, wp_sub, wp_neg, wpE_lt, wpE_le, wpE_gt, wpE_ge, wpE_eq, wpE_ne, wpE_is, wpE_isnot, isP_bool, isP_obj, eqP_int, eqP_str, wpE_in, wpE_notin, wp_truthyB, wpE_truthyI, wpE_truthyN, wpE_truthyS, wp_isStr, wpE_lenS, wpE_lenG, wpE_range1, wpE_range2, wpE_iterS, wpE_iterG, wpE_max2, wpE_min2, if_true, if_false, String.reduceEq, reduceIte, true_and, and_true, List.length_nil, List.length_cons, List.nil_append, List.cons_append, Bool.false_eq_true, decide_eq_true_eq, Nat.zero_le, Int.reduceLT, Int.reduceLE, Int.reduceNeg, Nat.reduceLeDiff, Nat.reduceAdd, decide_true, Bool.not_true]
    exact hQ
theorem told_type (p : Int × Option (List Nat)) : ∃ T, typeV (toldV p) = some T := by
  obtain ⟨B, al⟩ := p
  cases al <;> exact ⟨_, rfl⟩
theorem told_eq {loc : String → Option V} {sto : List O} (p : Int × Option (List Nat)) : eqP ⟨loc, sto⟩ (toldV p) (toldV p) = some true := by
  obtain ⟨B, al⟩ := p
  cases al with
  | none => rfl
  | some w => show eqP _ (.str w) (.str w) = _; rw [eqP_str]; simp
/-- one name -/
theorem t10_name {sl : String → Option V} {ss : List O} {ys : List Int} {ps : List Ro} {lg : List V} {j R : Nat} (hj : j < 4) (hL : L10 sl) (h : O10 ss ys ps lg) (hlg : lg.length ≤ 63) (hx : ps.map Ro.x = ys) (lj : sl "j" = some (vnat j)) (lr : sl "rules" = some (.obj R)) (hR3 : R ≠ 3) (oR : ss[R]? = some (.list ((ps.map Ro.i).map V.obj))) {Q : Fl → St → Prop}
    (hQ : ∀ sl' ss' lg', (∀ m, m ∈ ["script", "names", "log", "one", "given", "table", "rules"] → sl' m = sl m) → Kx [3] ss ss' → lg'.length ≤ 63 → O10 ss' ys ps lg' → Q .next ⟨sl', ss'⟩) : wp l10f22 ⟨sl, ss⟩ Q := by
  obtain ⟨l1, l2, l3, l4, l6, l7⟩ := hL
  have hyl := h.yl
  have hpy : ps.length = ys.length := by rw [← hx]; simp
  obtain ⟨hj1, hj2, hj3⟩ := nmJ_mem hj
  unfold l10f22 l10s14
  simp only [wp_bind, wp_pure, wp_seq', wp_ite, wp_and, wp_or, wp_setL, wp_allocList, wp_allocTuple, wp_alloc, wpE_get, wpE_mod, wpE_div, wpE_pow, wpE_iaddS, wpE_iaddI, wpE_addS, wp_add, wp_sub, wp_neg, wpE_lt, wpE_le, wpE_gt, wpE_ge, wpE_eq, wpE_ne, wpE_is, wpE_isnot, isP_bool, isP_obj, eqP_int, eqP_str, wpE_in, wpE_notin, wp_truthyB, wpE_truthyI, wpE_truthyN, wpE_truthyS, wp_isStr, wpE_lenS, wpE_lenG, wpE_range1, wpE_range2, wpE_iterS, wpE_iterG, wpE_max2, wpE_min2, if_true, if_false, String.reduceEq, reduceIte, true_and, and_true, List.length_nil, List.length_cons, List.nil_append, List.cons_append, Bool.false_eq_true, decide_eq_true_eq, Nat.zero_le, Int.reduceLT, Int.reduceLE, Int.reduceNeg, Nat.reduceLeDiff, Nat.reduceAdd, l3, wL_delAll h.o3 (by omega)]
  have kA : Kx [3] ss (ss.set 3 (.list [])) := Kx.set (by decide)
  have hA : O10 (ss.set 3 (.list [])) ys ps [] := h.ka kA (get_set_here h.o3)
  generalize (ss.set 3 (.list [])) = A at kA hA
  unfold l10s15
  simp only [wp_bind, wp_pure, wp_seq', wp_ite, wp_and, wp_or, wp_setL, wp_allocList, wp_allocTuple, wp_alloc, wpE_get, wpE_mod, wpE_div, wpE_pow, wpE_iaddS, wpE_iaddI, wpE_addS, wp_add, wp_sub, wp_neg, wpE_lt, wpE_le, wpE_gt, wpE_ge, wpE_eq, wpE_ne, wpE_is, wpE_isnot, isP_bool, isP_obj, eqP_int, eqP_str, wpE_in, wpE_notin, wp_truthyB, wpE_truthyI, wpE_truthyN, wpE_truthyS, wp_isStr, wpE_lenS, wpE_lenG, wpE_range1, wpE_range2, wpE_iterS, wpE_iterG, wpE_max2, wpE_min2, if_true, if_false, String.reduceEq, reduceIte, true_and, and_true, List.length_nil, List.length_cons, List.nil_append, List.cons_append, Bool.false_eq_true, decide_eq_true_eq, Nat.zero_le, Int.reduceLT, Int.reduceLE, Int.reduceNeg, Nat.reduceLeDiff, Nat.reduceAdd, l4, l2, lj, wL_isInst (n := "allowance") hA.o4 rfl, wL_itemN hA.o2 (by decide) (show (nms.map V.str)[j]? = some (.str (nmJ j)) by rw [List.getElem?_map, hj3]; rfl)]
  refine wp_allow10 hj hA fun B ts kB htl hB hts => ?_
  rw [hx]
  unfold l10s16
  simp only [wp_seq', wp_ite, wp_bind, wp_setL, wpE_get]
  simp only [wp_bind, wp_pure, wp_seq', wp_ite, wp_and, wp_or, wp_setL, wp_allocList, wp_allocTuple, wp_alloc, wpE_get, wpE_mod, wpE_div, wpE_pow, wpE_iaddS, wpE_iaddI, wpE_addS, wp_add, wp_sub, wp_neg, wpE_lt, wpE_le, wpE_gt, wpE_ge, wpE_eq, wpE_ne, wpE_is, wpE_isnot, isP_bool, isP_obj, eqP_int, eqP_str, wpE_in, wpE_notin, wp_truthyB, wpE_truthyI, wpE_truthyN, wpE_truthyS, wp_isStr, wpE_lenS, wpE_lenG, wpE_range1, wpE_range2, wpE_iterS, wpE_iterG, wpE_max2, wpE_min2, if_true, if_false, String.reduceEq, reduceIte, true_and, and_true, List.length_nil, List.length_cons, List.nil_append, List.cons_append, Bool.false_eq_true, decide_eq_true_eq, Nat.zero_le, Int.reduceLT, Int.reduceLE, Int.reduceNeg, Nat.reduceLeDiff, Nat.reduceAdd, l3]
  refine t10_log hj hB (by simpa using l1) (by simpa using l2) (by simpa using lj) fun C us pC hul hus => ?_
  have gC : (C ++ [O.list (us.map V.obj)])[C.length]? = some (.list (us.map V.obj)) := get_app_len _ _ _
  have pD : B <+: (C ++ [O.list (us.map V.obj)]) := pC.trans (List.prefix_append _ _)
  have pD' : C <+: (C ++ [O.list (us.map V.obj)]) := List.prefix_append _ _
  generalize (C ++ [O.list (us.map V.obj)]) = D at gC pD pD'
  have hD := hB.pre pD
  rw [eqP_pairs (w := nmJ j) (by omega : ts.length = us.length) hD.o3 gC (fun k t e => get_pre pD (hts k t e)) (fun k t e => get_pre pD' (hus k t e))]
  unfold l10s17 l10s18
  simp only [wp_bind, wp_pure, wp_seq', wp_ite, wp_and, wp_or, wp_setL, wp_allocList, wp_allocTuple, wp_alloc, wpE_get, wpE_mod, wpE_div, wpE_pow, wpE_iaddS, wpE_iaddI, wpE_addS, wp_add, wp_sub, wp_neg, wpE_lt, wpE_le, wpE_gt, wpE_ge, wpE_eq, wpE_ne, wpE_is, wpE_isnot, isP_bool, isP_obj, eqP_int, eqP_str, wpE_in, wpE_notin, wp_truthyB, wpE_truthyI, wpE_truthyN, wpE_truthyS, wp_isStr, wpE_lenS, wpE_lenG, wpE_range1, wpE_range2, wpE_iterS, wpE_iterG, wpE_max2, wpE_min2, if_true, if_false, String.reduceEq, reduceIte, true_and, and_true, List.length_nil, List.length_cons, List.nil_append, List.cons_append, Bool.false_eq_true, decide_eq_true_eq, Nat.zero_le, Int.reduceLT, Int.reduceLE, Int.reduceNeg, Nat.reduceLeDiff, Nat.reduceAdd, Bool.not_true]
  have gE : (D ++ [O.range 1 5 1])[D.length]? = some (.range ((1 : Nat) : Int) ((5 : Nat) : Int) 1) := get_app_len _ _ _
  have pE : D <+: (D ++ [O.range 1 5 1]) := List.prefix_append _ _
  generalize (D ++ [O.range 1 5 1]) = E at gE pE
  rw [wL_iterR2 gE (by decide) (by decide)]
  dsimp only
  refine wp_for (f := vnat) ((List.range (5 - 1)).map (1 + ·)) (fun d sl' ss' => E <+: ss' ∧ (∀ m, m ∉ ["group", "kind", "due", "far"] → sl' m = if m = "told" then some (toldV (S10 j ys)) else sl m) ∧ sl' "due" = some (d.foldl (dl j ys) (.bool true))) (fun d _ _ _ p hp => by cases hp) (fun d far r sl' ss' hd hI => ?_) (fun sl' ss' hI => ?_) ⟨List.prefix_refl _, fun m hm => ?_, by simp⟩
  · obtain ⟨i1, i2, i3⟩ := hI
    rw [wp_bind, wp_setL]
    refine t10_far (v := d.foldl (dl j ys) (.bool true)) (far := far) hj (hD.pre (pE.trans i1)) hx (by simp; rw [i2 _ (by decide)]; simpa using l1) (by simp; rw [i2 _ (by decide)]; simpa using l7) (by simp; rw [i2 _ (by decide)]; simpa using lj) (by simp) (by simpa using i3) fun sl3 ss3 k3 d3 p3 => ⟨i1.trans p3, fun m hm => ?_, ?_⟩
    · have hm2 := hm
      simp only [List.mem_cons, List.not_mem_nil, or_false, not_or] at hm2
      show sl3 m = _
      rw [k3 m (by simp [hm2]), if_neg hm2.2.2.2]
      exact i2 m hm
    · show sl3 "due" = _
      rw [d3, List.foldl_append]; rfl
  · obtain ⟨i1, i2, i3⟩ := hI
    have hF := hD.pre (pE.trans i1)
    have e4 : (List.range (5 - 1)).map (1 + ·) = [1, 2, 3, 4] := by decide
    rw [e4, ← told_due] at i3
    obtain ⟨T, hT⟩ := told_type (S10 j ys)
    have f1 : sl' "told" = some (toldV (S10 j ys)) := by rw [i2 _ (by decide)]; simp
    have f4 : sl' "one" = some (.obj 4) := by rw [i2 _ (by decide)]; simpa using l4
    have f6 : sl' "given" = some (.obj 6) := by rw [i2 _ (by decide)]; simpa using l6
    have fr : sl' "rules" = some (.obj R) := by rw [i2 _ (by decide)]; simpa using lr
    have f7 : sl' "table" = some (.obj 7) := by rw [i2 _ (by decide)]; simpa using l7
    have fs : sl' "script" = some (.obj 1) := by rw [i2 _ (by decide)]; simpa using l1
    have kF : Kx [3] ss ss' := kA.trans (kB.trans (Kx.pre ((pD.trans pE).trans i1)))
    have oR' := kF _ _ (by simp; exact hR3) oR
    have hTT : isP (.glob (.type T)) (.glob (.type T)) = some true := by simp [isP]
    unfold l10s19
    simp only [wp_bind, wp_pure, wp_seq', wp_ite, wp_and, wp_or, wp_setL, wp_allocList, wp_allocTuple, wp_alloc, wpE_get, wpE_mod, wpE_div, wpE_pow, wpE_iaddS, wpE_iaddI, wpE_addS, wp_add, wp_sub, wp_neg, wpE_lt, wpE_le, wpE_gt, wpE_ge, wpE_eq, wpE_ne, wpE_is, wpE_isnot, isP_bool, isP_obj, eqP_int, eqP_str, wpE_in, wpE_notin, wp_truthyB, wpE_truthyI, wpE_truthyN, wpE_truthyS, wp_isStr, wpE_lenS, wpE_lenG, wpE_range1, wpE_range2, wpE_iterS, wpE_iterG, wpE_max2, wpE_min2, if_true, if_false, String.reduceEq, reduceIte, true_and, and_true, List.length_nil, List.length_cons, List.nil_append, List.cons_append, Bool.false_eq_true, decide_eq_true_eq, Nat.zero_le, Int.reduceLT, Int.reduceLE, Int.reduceNeg, Nat.reduceLeDiff, Nat.reduceAdd, f1, i3, told_eq, Bool.not_true, wL_type hT, hTT]
    unfold l10s20
    simp only [wp_bind, wp_pure, wp_seq', wp_ite, wp_and, wp_or, wp_setL, wp_allocList, wp_allocTuple, wp_alloc, wpE_get, wpE_mod, wpE_div, wpE_pow, wpE_iaddS, wpE_iaddI, wpE_addS, wp_add, wp_sub, wp_neg, wpE_lt, wpE_le, wpE_gt, wpE_ge, wpE_eq, wpE_ne, wpE_is, wpE_isnot, isP_bool, isP_obj, eqP_int, eqP_str, wpE_in, wpE_notin, wp_truthyB, wpE_truthyI, wpE_truthyN, wpE_truthyS, wp_isStr, wpE_lenS, wpE_lenG, wpE_range1, wpE_range2, wpE_iterS, wpE_iterG, wpE_max2, wpE_min2, if_true, if_false, String.reduceEq, reduceIte, true_and, and_true, List.length_nil, List.length_cons, List.nil_append, List.cons_append, Bool.false_eq_true, decide_eq_true_eq, Nat.zero_le, Int.reduceLT, Int.reduceLE, Int.reduceNeg, Nat.reduceLeDiff, Nat.reduceAdd, f4, f6, fr, wL_gAttr (n := "rulelines") (v := .obj 6) hF.o4 rfl (by intro u e; cases e), Bool.not_true, wpE_neX, eqX_same hF.o6 oR']
    unfold l10s21
    simp only [wp_bind, wp_pure, wp_seq', wp_ite, wp_and, wp_or, wp_setL, wp_allocList, wp_allocTuple, wp_alloc, wpE_get, wpE_mod, wpE_div, wpE_pow, wpE_iaddS, wpE_iaddI, wpE_addS, wp_add, wp_sub, wp_neg, wpE_lt, wpE_le, wpE_gt, wpE_ge, wpE_eq, wpE_ne, wpE_is, wpE_isnot, isP_bool, isP_obj, eqP_int, eqP_str, wpE_in, wpE_notin, wp_truthyB, wpE_truthyI, wpE_truthyN, wpE_truthyS, wp_isStr, wpE_lenS, wpE_lenG, wpE_range1, wpE_range2, wpE_iterS, wpE_iterG, wpE_max2, wpE_min2, if_true, if_false, String.reduceEq, reduceIte, true_and, and_true, List.length_nil, List.length_cons, List.nil_append, List.cons_append, Bool.false_eq_true, decide_eq_true_eq, Nat.zero_le, Int.reduceLT, Int.reduceLE, Int.reduceNeg, Nat.reduceLeDiff, Nat.reduceAdd, fs, wL_len hF.o1 (by simp; omega), List.length_map]
    have gG : (ss' ++ [O.range 0 (ys.length : Int) 1])[ss'.length]? = some (.range 0 (ys.length : Int) 1) := get_app_len _ _ _
    have pG : ss' <+: (ss' ++ [O.range 0 (ys.length : Int) 1]) := List.prefix_append _ _
    generalize (ss' ++ [O.range 0 (ys.length : Int) 1]) = G at gG pG
    rw [wL_iterR gG (by omega)]
    dsimp only
    refine wp_for (f := vnat) (List.range ys.length) (fun d sl2 ss2 => ss2 = G ∧ ∀ m, m ≠ "place" → sl2 m = sl' m) (fun d _ _ _ p hp => by cases hp) (fun d k r sl2 ss2 hd hI => ?_) (fun sl2 ss2 hI => ?_) ⟨rfl, fun _ _ => rfl⟩
    · obtain ⟨rfl, j2⟩ := hI
      have hk : k ∈ List.range ys.length := by rw [hd]; simp
      rw [wp_bind, wp_setL]
      refine t10_place (k := k) (hF.pre pG) (by have := List.mem_range.mp hk; omega) (by simp; rw [j2 _ (by decide)]; exact f7) (by simp; rw [j2 _ (by decide)]; exact fr) (by simp) (get_pre pG oR') ⟨rfl, fun m hm => ?_⟩
      simp only [if_neg hm]; exact j2 m hm
    · obtain ⟨rfl, j2⟩ := hI
      refine hQ sl2 ss2 (ts.map V.obj) (fun m hm => ?_) (kF.trans (Kx.pre pG)) (by simp; omega) (hF.pre pG)
      have hm1 : m ≠ "place" := by rintro rfl; revert hm; decide
      have hm2 : m ∉ ["group", "kind", "due", "far"] := by
        intro q
        simp only [List.mem_cons, List.not_mem_nil, or_false] at q
        rcases q with rfl | rfl | rfl | rfl <;> revert hm <;> decide
      have hm3 : m ≠ "told" := by rintro rfl; revert hm; decide
      rw [j2 m hm1, i2 m hm2, if_neg hm3]
  · have hm2 := hm
    simp only [List.mem_cons, List.not_mem_nil, or_false, not_or] at hm2
    simp [hm2]
theorem cps_n0 : cps "/a" = [47, 97] := by kernel_rfl
theorem cps_n2' : cps "/a/b" = [47, 97, 47, 98] := by kernel_rfl
theorem cps_n3' : cps "/c" = [47, 99] := by kernel_rfl
theorem t10_rest {sl : String → Option V} {ss : List O} {ys : List Int} (hL : L10 sl) (hO : O10 ss ys [] []) : wp (seqF l10s29 (seqF l10s30 (seqF l10s31 l10s32))) ⟨sl, ss⟩ (fun f st' => f = .ret (.bool true) ∧ st'.sto[0]? = some .ctab) := by
  have hyl := hO.yl
  unfold l10s29
  simp only [wp_bind, wp_pure, wp_seq', wp_ite, wp_and, wp_or, wp_setL, wp_allocList, wp_allocTuple, wp_alloc, wpE_get, wpE_mod, wpE_div, wpE_pow, wpE_iaddS, wpE_iaddI, wpE_addS, wp_add, wp_sub, wp_neg, wpE_lt, wpE_le, wpE_gt, wpE_ge, wpE_eq, wpE_ne, wpE_is, wpE_isnot, isP_bool, isP_obj, eqP_int, eqP_str, wpE_in, wpE_notin, wp_truthyB, wpE_truthyI, wpE_truthyN, wpE_truthyS, wp_isStr, wpE_lenS, wpE_lenG, wpE_range1, wpE_range2, wpE_iterS, wpE_iterG, wpE_max2, wpE_min2, if_true, if_false, String.reduceEq, reduceIte, true_and, and_true, List.length_nil, List.length_cons, List.nil_append, List.cons_append, Bool.false_eq_true, decide_eq_true_eq, Nat.zero_le, Int.reduceLT, Int.reduceLE, Int.reduceNeg, Nat.reduceLeDiff, Nat.reduceAdd, hL.l1, wL_len hO.o1 (by simp; omega), List.length_map]
  have gA : (ss ++ [O.range 0 (ys.length : Int) 1])[ss.length]? = some (.range 0 (ys.length : Int) 1) := get_app_len _ _ _
  have hA := hO.pre (List.prefix_append _ [O.range 0 (ys.length : Int) 1])
  generalize (ss ++ [O.range 0 (ys.length : Int) 1]) = A at gA hA
  rw [wL_iterR gA (by omega)]
  dsimp only
  refine wp_for (f := vnat) (List.range ys.length) (fun d sl' ss' => (∀ m, m ∉ ["rule", "reaches", "place"] → sl' m = sl m) ∧ d = List.range d.length ∧ ∃ ps : List Ro, ps.length = d.length ∧ ps.map Ro.x = ys.take d.length ∧ O10 ss' ys ps []) (fun d _ _ _ p hp => by cases hp) (fun d k r sl' ss' hd hI => ?_) (fun sl' ss' hI => ?_) ⟨fun _ _ => rfl, rfl, [], rfl, rfl, hA⟩
  · obtain ⟨i1, i2, ps, i3, i4, i5⟩ := hI
    have hdl : d.length + 1 ≤ ys.length := by
      have := congrArg List.length hd
      simp at this
      omega
    have hxk : k = d.length := by
      have h1 : (List.range ys.length)[d.length]? = some k := by rw [hd]; simp
      rw [List.getElem?_range (by omega)] at h1
      exact (Option.some.inj h1).symm
    subst hxk
    rw [wp_bind, wp_setL]
    refine t10_fill (x := ys[d.length]) (hL.ka fun m hm => ?_) i5 (by rw [i3]; simp) (by rw [i3]; exact List.getElem?_eq_getElem _) fun sl2 ss2 p k2 px h2 => ⟨fun m hm => ?_, ?_, ps ++ [p], by simp [i3], ?_, h2⟩
    · have hm1 : m ≠ "place" := by rintro rfl; revert hm; decide
      have hm2 : m ∉ ["rule", "reaches", "place"] := by
        intro q
        simp only [List.mem_cons, List.not_mem_nil, or_false] at q
        rcases q with rfl | rfl | rfl <;> revert hm <;> decide
      simp only [if_neg hm1]
      exact i1 m hm2
    · have hm2 := hm
      simp only [List.mem_cons, List.not_mem_nil, or_false, not_or] at hm2
      show sl2 m = _
      rw [k2 m (by simp [hm2]), if_neg hm2.2.2]
      exact i1 m hm
    · rw [List.length_append, List.length_singleton, List.range_succ, ← i2]
    · rw [List.map_append, i4, List.length_append, List.length_singleton, List.take_succ, List.getElem?_eq_getElem (by omega)]
      simp [px]
  · obtain ⟨i1, i2, ps, i3, i4, i5⟩ := hI
    rw [List.length_range] at i3 i4
    rw [List.take_length] at i4
    have hL' : L10 sl' := hL.ka fun m hm => i1 m (by
      intro q
      simp only [List.mem_cons, List.not_mem_nil, or_false] at q
      rcases q with rfl | rfl | rfl <;> revert hm <;> decide)
    unfold l10s30
    simp only [wp_bind, wp_pure, wp_seq', wp_ite, wp_and, wp_or, wp_setL, wp_allocList, wp_allocTuple, wp_alloc, wpE_get, wpE_mod, wpE_div, wpE_pow, wpE_iaddS, wpE_iaddI, wpE_addS, wp_add, wp_sub, wp_neg, wpE_lt, wpE_le, wpE_gt, wpE_ge, wpE_eq, wpE_ne, wpE_is, wpE_isnot, isP_bool, isP_obj, eqP_int, eqP_str, wpE_in, wpE_notin, wp_truthyB, wpE_truthyI, wpE_truthyN, wpE_truthyS, wp_isStr, wpE_lenS, wpE_lenG, wpE_range1, wpE_range2, wpE_iterS, wpE_iterG, wpE_max2, wpE_min2, if_true, if_false, String.reduceEq, reduceIte, true_and, and_true, List.length_nil, List.length_cons, List.nil_append, List.cons_append, Bool.false_eq_true, decide_eq_true_eq, Nat.zero_le, Int.reduceLT, Int.reduceLE, Int.reduceNeg, Nat.reduceLeDiff, Nat.reduceAdd, hL'.l6, wL_list i5.o6]
    have h7 := get_lt i5.o7
    refine ⟨by simp; omega, ?_⟩
    have gR : (ss' ++ [O.list ((ps.map Ro.i).map V.obj)])[ss'.length]? = some (.list ((ps.map Ro.i).map V.obj)) := get_app_len _ _ _
    have hB := i5.pre (List.prefix_append _ [O.list ((ps.map Ro.i).map V.obj)])
    generalize (ss' ++ [O.list ((ps.map Ro.i).map V.obj)]) = B at gR hB
    unfold l10s31
    simp only [wp_bind, wp_pure, wp_seq', wp_ite, wp_and, wp_or, wp_setL, wp_allocList, wp_allocTuple, wp_alloc, wpE_get, wpE_mod, wpE_div, wpE_pow, wpE_iaddS, wpE_iaddI, wpE_addS, wp_add, wp_sub, wp_neg, wpE_lt, wpE_le, wpE_gt, wpE_ge, wpE_eq, wpE_ne, wpE_is, wpE_isnot, isP_bool, isP_obj, eqP_int, eqP_str, wpE_in, wpE_notin, wp_truthyB, wpE_truthyI, wpE_truthyN, wpE_truthyS, wp_isStr, wpE_lenS, wpE_lenG, wpE_range1, wpE_range2, wpE_iterS, wpE_iterG, wpE_max2, wpE_min2, if_true, if_false, String.reduceEq, reduceIte, true_and, and_true, List.length_nil, List.length_cons, List.nil_append, List.cons_append, Bool.false_eq_true, decide_eq_true_eq, Nat.zero_le, Int.reduceLT, Int.reduceLE, Int.reduceNeg, Nat.reduceLeDiff, Nat.reduceAdd]
    have gC : (B ++ [O.range 0 4 1])[B.length]? = some (.range 0 ((4 : Nat) : Int) 1) := get_app_len _ _ _
    have cR := get_pre (List.prefix_append _ [O.range 0 4 1]) gR
    have hC := hB.pre (List.prefix_append _ [O.range 0 4 1])
    generalize (B ++ [O.range 0 4 1]) = C at gC hC cR
    rw [wL_iterR gC (by decide)]
    dsimp only
    refine wp_for (f := vnat) (List.range 4) (fun d sl2 ss2 => (∀ m, m ∈ ["script", "names", "log", "one", "given", "table", "rules"] → sl2 m = if m = "rules" then some (V.obj ss'.length) else sl' m) ∧ Kx [3] C ss2 ∧ ∃ lg, lg.length ≤ 63 ∧ O10 ss2 ys ps lg) (fun d _ _ _ p hp => by cases hp) (fun d j r sl2 ss2 hd hI => ?_) (fun sl2 ss2 hI => ?_) ⟨fun _ _ => rfl, fun _ _ _ e => e, [], by decide, hC⟩
    · obtain ⟨j1, j2, lg, j3, j4⟩ := hI
      have hj : j ∈ List.range 4 := by rw [hd]; simp
      rw [wp_bind, wp_setL]
      have hne : ∀ m, m ∈ ["script", "names", "log", "one", "given", "table", "rules"] → m ≠ "j" := by
        rintro m hm rfl; revert hm; decide
      refine t10_name (j := j) (R := ss'.length) (List.mem_range.mp hj) (hL'.ka fun m hm => ?_) j4 j3 i4 (by simp) (by simp; rw [j1 _ (by decide)]; simp) (by omega) (j2 _ _ (by simp; omega) cR) fun sl3 ss3 lg3 k3 k4 k5 k6 => ⟨fun m hm => ?_, j2.trans k4, lg3, k5, k6⟩
      · have hm7 : m ∈ ["script", "names", "log", "one", "given", "table", "rules"] := by
          simp only [List.mem_cons, List.not_mem_nil, or_false] at hm ⊢
          rcases hm with h | h | h | h | h | h <;> simp [h]
        have hmr : m ≠ "rules" := by rintro rfl; revert hm; decide
        simp only [if_neg (hne m hm7)]
        rw [j1 m hm7, if_neg hmr]
      · show sl3 m = _
        rw [k3 m hm, if_neg (hne m hm)]
        exact j1 m hm
    · obtain ⟨j1, j2, lg, j3, j4⟩ := hI
      unfold l10s32
      simp only [wp_bind, wp_pure, wp_seq', wp_ite, wp_and, wp_or, wp_setL, wp_allocList, wp_allocTuple, wp_alloc, wpE_get, wpE_mod, wpE_div, wpE_pow, wpE_iaddS, wpE_iaddI, wpE_addS, wp_add, wp_sub, wp_neg, wpE_lt, wpE_le, wpE_gt, wpE_ge, wpE_eq, wpE_ne, wpE_is, wpE_isnot, isP_bool, isP_obj, eqP_int, eqP_str, wpE_in, wpE_notin, wp_truthyB, wpE_truthyI, wpE_truthyN, wpE_truthyS, wp_isStr, wpE_lenS, wpE_lenG, wpE_range1, wpE_range2, wpE_iterS, wpE_iterG, wpE_max2, wpE_min2, if_true, if_false, String.reduceEq, reduceIte, true_and, and_true, List.length_nil, List.length_cons, List.nil_append, List.cons_append, Bool.false_eq_true, decide_eq_true_eq, Nat.zero_le, Int.reduceLT, Int.reduceLE, Int.reduceNeg, Nat.reduceLeDiff, Nat.reduceAdd]
      exact j4.o0
theorem law10_true (a : Addr) (xs : List Int) (hx : xs.length ≤ 63) : ∃ st', law10 a xs ⟨fun k => if k = "script" then some (.glob (.ref a)) else none, [.ctab]⟩ = .ok (.ret (.bool true)) st' ∧ st'.sto[0]? = some .ctab := by
  have key : wp (law10 a xs) ⟨fun k => if k = "script" then some (.glob (.ref a)) else none, [.ctab]⟩ (fun f st' => f = .ret (.bool true) ∧ st'.sto[0]? = some .ctab) := by
    unfold law10 l10s23 l10s24 l10s25 l10s26
    simp only [wp_bind, wp_pure, wp_seq', wp_ite, wp_and, wp_or, wp_setL, wp_allocList, wp_allocTuple, wp_alloc, wpE_get, wpE_mod, wpE_div, wpE_pow, wpE_iaddS, wpE_iaddI, wpE_addS, wp_add, wp_sub, wp_neg, wpE_lt, wpE_le, wpE_gt, wpE_ge, wpE_eq, wpE_ne, wpE_is, wpE_isnot, isP_bool, isP_obj, eqP_int, eqP_str, wpE_in, wpE_notin, wp_truthyB, wpE_truthyI, wpE_truthyN, wpE_truthyS, wp_isStr, wpE_lenS, wpE_lenG, wpE_range1, wpE_range2, wpE_iterS, wpE_iterG, wpE_max2, wpE_min2, if_true, if_false, String.reduceEq, reduceIte, true_and, and_true, List.length_nil, List.length_cons, List.nil_append, List.cons_append, Bool.false_eq_true, decide_eq_true_eq, Nat.zero_le, Int.reduceLT, Int.reduceLE, Int.reduceNeg, Nat.reduceLeDiff, Nat.reduceAdd, cps_n0, cps_e, cps_n2', cps_n3', wpE_sliceG (l := .none) (u := .int 63) rfl rfl]
    refine ⟨by omega, ?_⟩
    generalize hys : cut xs none (some 63) = ys
    have hyl : ys.length ≤ 63 := by
      rw [← hys]
      refine Nat.le_trans ?_ hx
      unfold cut
      simp
      omega
    refine wL_entry ?_
    unfold l10s27 l10s28
    simp only [wp_bind, wp_pure, wp_seq', wp_ite, wp_and, wp_or, wp_setL, wp_allocList, wp_allocTuple, wp_alloc, wpE_get, wpE_mod, wpE_div, wpE_pow, wpE_iaddS, wpE_iaddI, wpE_addS, wp_add, wp_sub, wp_neg, wpE_lt, wpE_le, wpE_gt, wpE_ge, wpE_eq, wpE_ne, wpE_is, wpE_isnot, isP_bool, isP_obj, eqP_int, eqP_str, wpE_in, wpE_notin, wp_truthyB, wpE_truthyI, wpE_truthyN, wpE_truthyS, wp_isStr, wpE_lenS, wpE_lenG, wpE_range1, wpE_range2, wpE_iterS, wpE_iterG, wpE_max2, wpE_min2, if_true, if_false, String.reduceEq, reduceIte, true_and, and_true, List.length_nil, List.length_cons, List.nil_append, List.cons_append, Bool.false_eq_true, decide_eq_true_eq, Nat.zero_le, Int.reduceLT, Int.reduceLE, Int.reduceNeg, Nat.reduceLeDiff, Nat.reduceAdd]
    rw [wL_gAttr (n := "rulelines") (v := .obj 6) (i := 4) (as := E4) rfl rfl (by intro u e; cases e)]
    simp only [wp_bind, wp_pure, wp_seq', wp_ite, wp_and, wp_or, wp_setL, wp_allocList, wp_allocTuple, wp_alloc, wpE_get, wpE_mod, wpE_div, wpE_pow, wpE_iaddS, wpE_iaddI, wpE_addS, wp_add, wp_sub, wp_neg, wpE_lt, wpE_le, wpE_gt, wpE_ge, wpE_eq, wpE_ne, wpE_is, wpE_isnot, isP_bool, isP_obj, eqP_int, eqP_str, wpE_in, wpE_notin, wp_truthyB, wpE_truthyI, wpE_truthyN, wpE_truthyS, wp_isStr, wpE_lenS, wpE_lenG, wpE_range1, wpE_range2, wpE_iterS, wpE_iterG, wpE_max2, wpE_min2, if_true, if_false, String.reduceEq, reduceIte, true_and, and_true, List.length_nil, List.length_cons, List.nil_append, List.cons_append, Bool.false_eq_true, decide_eq_true_eq, Nat.zero_le, Int.reduceLT, Int.reduceLE, Int.reduceNeg, Nat.reduceLeDiff, Nat.reduceAdd]
    have hO : O10 [O.ctab, O.list (ys.map V.int), O.list [.str [47, 97], .str [], .str [47, 97, 47, 98], .str [47, 99]], O.list [], O.inst E4, O.list [], O.list [], O.list []] ys [] [] :=
      ⟨rfl, rfl, rfl, rfl, rfl, rfl, rfl, fun k p e => by simp at e, hyl, by decide⟩
    have hL : L10 (fun k => if k = "given" then some (V.obj 6) else if k = "table" then some (V.obj 7) else if k = "one" then some (V.obj 4) else if k = "log" then some (V.obj 3) else if k = "names" then some (V.obj 2) else if k = "script" then some (V.obj 1) else if k = "script" then some (.glob (.ref a)) else none) :=
      ⟨by simp, by simp, by simp, by simp, by simp, by simp⟩
    have key := t10_rest hL hO
    simp only [wp_seq'] at key ⊢
    exact key
  obtain ⟨f, st', e, rfl, h⟩ := wp_run key
  exact ⟨st', e, h⟩
end Mine
namespace Mine
set_option maxRecDepth 100000 in
set_option maxHeartbeats 8000000 in
open_top hd for PySem.Challenge.rw_dn0257_10
set_option maxRecDepth 100000
set_option maxHeartbeats 8000000
def lamsOf : Nat → List Stmt → Option ((FuncBody × Arguments × Scope) × Pos)
  | 0, _ => none
  | _, [] => none
  | n + 1, s :: r => match s with
    | .Assign _ (.Lambda a e sc pos) _ => some ((.expr e, a, sc), pos)
    | .FunctionDef _ a b _ _ _ sc _ _ pos => some ((.stmts b, a, sc), pos)
    | .If _ a _ _ => (match lamsOf n a with | some x => some x | none => lamsOf n r)
    | _ => lamsOf n r
noncomputable def lamAt10 (P : Params) : Option ((FuncBody × Arguments × Scope) × Pos) := match (hd.heap_39 P).lookup 61 with
  | some o => (match o.data with
    | .func fd => (match fd.body with | .stmts ss => lamsOf 20 ss | _ => none)
    | _ => none)
  | none => none
noncomputable def lam10 (P : Params) : FuncBody × Arguments × Scope × Str := match lamAt10 P with
  | some x => (x.1.1, x.1.2.1, x.1.2.2, Str.ofString "_law_rule.<locals>._law_reach")
  | none => lam0
noncomputable def pos10 (P : Params) : Pos := match lamAt10 P with
  | some x => x.2
  | none => ⟨0, 0, 0, 0⟩
theorem fn_init (cx : Cx) (hK : cx.K = hd.heap_39 cx.w.params) (hC : cx.C = 52) (hL : cx.lam = lam10 cx.w.params) (hT : cx.tab = (58, #[], pos10 cx.w.params)) : Fn cx 0 28 ["self"] initE := by
  obtain ⟨prog, w, K, C, p, loose, mg, mb, h₀, L, A, fenv, env, base, outer, os, n, fm, fzn, lam, tab⟩ := cx
  dsimp only at hK hC hL hT
  subst hK hC hL hT
  refine fn_user (by rfl) (by rfl) (fun Vs hVs => ?_) ?_ (by decide) (by decide) rfl rfl rfl ?_
  · match Vs, hVs with
    | [a], _ => rfl
  · decide
  · intro A' g L' ok
    refine body_of ?_
    · refine sim_cons ?_ ?_
      · refine sim_AssignAttr ok ?_ ?_ ?_ ?_
        · refine sim_List ?_
          · exact sim_args_nil
        · refine sim_Name ok ?_ ?_
          · kernel_rfl
          · kernel_rfl
        · kernel_rfl
        · kernel_rfl
      · refine sim_cons ?_ ?_
        · refine sim_AssignAttr ok ?_ ?_ ?_ ?_
          · refine sim_List ?_
            · exact sim_args_nil
          · refine sim_Name ok ?_ ?_
            · kernel_rfl
            · kernel_rfl
          · kernel_rfl
          · kernel_rfl
        · refine sim_cons ?_ ?_
          · refine sim_AssignAttr ok ?_ ?_ ?_ ?_
            · exact sim_none
            · refine sim_Name ok ?_ ?_
              · kernel_rfl
              · kernel_rfl
            · kernel_rfl
            · kernel_rfl
          · refine sim_one ?_
            · refine sim_AssignAttr ok ?_ ?_ ?_ ?_
              · exact sim_none
              · refine sim_Name ok ?_ ?_
                · kernel_rfl
                · kernel_rfl
              · kernel_rfl
              · kernel_rfl
theorem fn_appl (cx : Cx) (hK : cx.K = hd.heap_39 cx.w.params) (hC : cx.C = 52) (hL : cx.lam = lam10 cx.w.params) (hT : cx.tab = (58, #[], pos10 cx.w.params)) : Fn cx 0 42 ["self", "useragent"] applE := by
  obtain ⟨prog, w, K, C, p, loose, mg, mb, h₀, L, A, fenv, env, base, outer, os, n, fm, fzn, lam, tab⟩ := cx
  dsimp only at hK hC hL hT
  subst hK hC hL hT
  refine fn_user (by rfl) (by rfl) (fun Vs hVs => ?_) ?_ (by decide) (by decide) rfl rfl rfl ?_
  · match Vs, hVs with
    | [a, b], _ => rfl
  · decide
  · intro A' g L' ok
    refine body_of ?_
    · refine sim_cons ?_ ?_
      · refine sim_If ?_ ?_ ?_
        · refine sim_test_Compare ?_ ?_ p_is p_truthy ?_
          · refine sim_Name ok ?_ ?_
            · kernel_rfl
            · kernel_rfl
          · exact sim_none
          · exact rfl
        · refine sim_one ?_
          · refine sim_Return ?_
            · refine sim_Compare ?_ ?_ ?_ ?_
              · exact sim_str
              · refine sim_Attribute ok ?_ ?_
                · refine sim_Name ok ?_ ?_
                  · kernel_rfl
                  · kernel_rfl
                · kernel_rfl
              · exact (p_in ok)
              · exact rfl
        · exact sim_nil
      · refine sim_cons ?_ ?_
        · refine sim_Assign ok ?_ ?_ ?_
          · refine sim_MS ok PySem.F.slot_str_lower ?_ pc_lower ?_ ?_ plain_nil ?_ ?_ ?_
            · exact rfl
            · refine sim_Subscript ok ?_ ?_ ?_
              · refine sim_MS ok PySem.F.slot_str_split ?_ pc_split ?_ ?_ ?_ ?_ ?_ ?_
                · exact rfl
                · refine sim_Name ok ?_ ?_
                  · kernel_rfl
                  · kernel_rfl
                · refine sim_args_cons ?_ ?_ ?_
                  · exact sim_str
                  · exact sim_args_nil
                  · exact (star_plain rfl)
                · exact (plain_cons rfl plain_nil)
                · exact rfl
                · exact rfl
                · exact rfl
              · exact sim_int
              · exact fun _ _ => rfl
            · exact sim_args_nil
            · exact rfl
            · exact rfl
            · exact rfl
          · exact (.inl (by kernel_rfl))
          · kernel_rfl
        · refine sim_cons ?_ ?_
          · refine sim_For ok ?_ ?_ ?_ ?_
            · refine sim_Attribute ok ?_ ?_
              · refine sim_Name ok ?_ ?_
                · kernel_rfl
                · kernel_rfl
              · kernel_rfl
            · refine sim_target ok ?_
              · exact (.inl (by kernel_rfl))
            · refine sim_one ?_
              · refine sim_If ?_ ?_ ?_
                · refine sim_test_Compare ?_ ?_ ?_ p_truthy ?_
                  · refine sim_Name ok ?_ ?_
                    · kernel_rfl
                    · kernel_rfl
                  · exact sim_str
                  · exact (p_ne ok)
                  · exact rfl
                · refine sim_cons ?_ ?_
                  · refine sim_Assign ok ?_ ?_ ?_
                    · refine sim_MS ok PySem.F.slot_str_lower ?_ pc_lower ?_ ?_ plain_nil ?_ ?_ ?_
                      · exact rfl
                      · refine sim_Name ok ?_ ?_
                        · kernel_rfl
                        · kernel_rfl
                      · exact sim_args_nil
                      · exact rfl
                      · exact rfl
                      · exact rfl
                    · exact (.inl (by kernel_rfl))
                    · kernel_rfl
                  · refine sim_one ?_
                    · refine sim_If ?_ ?_ ?_
                      · refine sim_test_Compare ?_ ?_ ?_ p_truthy ?_
                        · refine sim_Name ok ?_ ?_
                          · kernel_rfl
                          · kernel_rfl
                        · refine sim_Name ok ?_ ?_
                          · kernel_rfl
                          · kernel_rfl
                        · exact (p_in ok)
                        · exact rfl
                      · refine sim_one ?_
                        · refine sim_Return ?_
                          · exact sim_bool
                      · exact sim_nil
                · exact sim_nil
            · exact fun _ => rfl
          · refine sim_one ?_
            · refine sim_Return ?_
              · exact sim_bool
theorem fn_clos (cx : Cx) (hK : cx.K = hd.heap_39 cx.w.params) (hC : cx.C = 52) (hL : cx.lam = lam10 cx.w.params) (hT : cx.tab = (58, #[], pos10 cx.w.params)) : FnC cx 1 "name" clos10 := by
  obtain ⟨prog, w, K, C, p, loose, mg, mb, h₀, L, A, fenv, env, base, outer, os, n, fm, fzn, lam, tab⟩ := cx
  dsimp only at hK hC hL hT
  subst hK hC hL hT
  refine fnC_user (by rfl) (fun fd W h1 h2 h3 => ?_) (by kernel_rfl) (by decide) rfl rfl rfl ?_
  · obtain ⟨name, qualname, params, bd, scope, globals, closure, defaults, kwdefaults, doc, pyModule, annotations, code, closureTuple, builtins⟩ := fd
    dsimp only at h1 h2 h3
    subst h1 h2 h3
    rfl
  · intro A' g L' f c cl ok
    refine body_of ?_
    refine sim_cons ?_ ?_
    · refine sim_Expr ?_ ?_ ?_ ?_
      · refine sim_ML ok PySem.F.slot_list_append ?_ pc_append ?_ ?_ ?_ ?_ ?_ ?_
        · exact rfl
        · refine sim_Name ok ?_ ?_
          · kernel_rfl
          · kernel_rfl
        · refine sim_args_cons ?_ ?_ ?_
          · refine sim_Tuple ?_
            · refine sim_args_cons ?_ ?_ ?_
              · refine sim_Name ok ?_ ?_
                · kernel_rfl
                · kernel_rfl
              · refine sim_args_cons ?_ ?_ ?_
                · refine sim_Name ok ?_ ?_
                  · kernel_rfl
                  · kernel_rfl
                · exact sim_args_nil
                · exact (star_plain rfl)
              · exact (star_plain rfl)
          · exact sim_args_nil
          · exact (star_plain rfl)
        · exact (plain_cons rfl plain_nil)
        · exact rfl
        · exact rfl
        · exact rfl
      · kernel_rfl
      · kernel_rfl
      · exact fun _ => by kernel_rfl
    · refine sim_one ?_
      · refine sim_Return ?_
        · refine sim_Subscript ok ?_ ?_ ?_
          · refine sim_Name ok ?_ ?_
            · kernel_rfl
            · kernel_rfl
          · refine sim_ML ok PySem.F.slot_list_index ?_ pc_index ?_ ?_ ?_ ?_ ?_ ?_
            · exact rfl
            · refine sim_Name ok ?_ ?_
              · kernel_rfl
              · kernel_rfl
            · refine sim_args_cons ?_ ?_ ?_
              · refine sim_Name ok ?_ ?_
                · kernel_rfl
                · kernel_rfl
              · exact sim_args_nil
              · exact (star_plain rfl)
            · exact (plain_cons rfl plain_nil)
            · exact rfl
            · exact rfl
            · exact rfl
          · exact fun _ _ => rfl
theorem fn_allow (cx : Cx) (hK : cx.K = hd.heap_39 cx.w.params) (hC : cx.C = 52) (hL : cx.lam = lam10 cx.w.params) (hT : cx.tab = (58, #[], pos10 cx.w.params)) : Fn cx 2 49 ["self", "filename"] allow10 := by
  obtain ⟨prog, w, K, C, p, loose, mg, mb, h₀, L, A, fenv, env, base, outer, os, n, fm, fzn, lam, tab⟩ := cx
  dsimp only at hK hC hL hT
  subst hK hC hL hT
  refine fn_user (by rfl) (by rfl) (fun Vs hVs => ?_) ?_ (by decide) (by decide) rfl rfl rfl ?_
  · match Vs, hVs with
    | [a, b], _ => rfl
  · decide
  · intro A' g L' ok
    refine body_of ?_
    · refine sim_cons ?_ ?_
      · refine sim_Assign ok ?_ ?_ ?_
        · refine sim_Unary ?_ p_neg
          · exact sim_int
        · exact (.inl (by kernel_rfl))
        · kernel_rfl
      · refine sim_cons ?_ ?_
        · refine sim_Assign ok ?_ ?_ ?_
          · exact sim_bool
          · exact (.inl (by kernel_rfl))
          · kernel_rfl
        · refine sim_cons ?_ ?_
          · refine sim_For ok ?_ ?_ ?_ ?_
            · refine sim_Attribute ok ?_ ?_
              · refine sim_Name ok ?_ ?_
                · kernel_rfl
                · kernel_rfl
              · kernel_rfl
            · refine sim_target ok ?_
              · exact (.inl (by kernel_rfl))
            · refine sim_cons ?_ ?_
              · refine sim_Assign ok ?_ ?_ ?_
                · refine sim_MA ok 42 (k := 1) ?_ ?_ ?_ ?_ ?_ ?_ ?_ ?_ ?_ ?_ ?_ ?_ ?_ ?_
                  · exact (Nat.le_of_ble_eq_true (by kernel_rfl))
                  · kernel_rfl
                  · kernel_rfl
                  · kernel_rfl
                  · kernel_rfl
                  · kernel_rfl
                  · exact (pc_user ok (k := 0) (Nat.le_of_ble_eq_true (by kernel_rfl)) (fn_appl _ rfl rfl rfl rfl))
                  · exact (fn_clos _ rfl rfl rfl rfl)
                  · refine sim_Name ok ?_ ?_
                    · kernel_rfl
                    · kernel_rfl
                  · refine sim_args_cons ?_ ?_ ?_
                    · refine sim_Name ok ?_ ?_
                      · kernel_rfl
                      · kernel_rfl
                    · exact sim_args_nil
                    · exact (star_plain rfl)
                  · exact (plain_cons rfl plain_nil)
                  · exact rfl
                  · exact rfl
                  · exact rfl
                · exact (.inl (by kernel_rfl))
                · kernel_rfl
              · refine sim_one ?_
                · refine sim_If ?_ ?_ ?_
                  · refine sim_test ?_ p_truthy
                    · refine sim_Name ok ?_ ?_
                      · kernel_rfl
                      · kernel_rfl
                  · refine sim_one ?_
                    · refine sim_If ?_ ?_ ?_
                      · refine sim_test_Compare ?_ ?_ p_gt p_truthy ?_
                        · refine sim_Name ok ?_ ?_
                          · kernel_rfl
                          · kernel_rfl
                        · refine sim_Name ok ?_ ?_
                          · kernel_rfl
                          · kernel_rfl
                        · exact rfl
                      · refine sim_cons ?_ ?_
                        · refine sim_Assign ok ?_ ?_ ?_
                          · refine sim_Name ok ?_ ?_
                            · kernel_rfl
                            · kernel_rfl
                          · exact (.inl (by kernel_rfl))
                          · kernel_rfl
                        · refine sim_one ?_
                          · refine sim_Assign ok ?_ ?_ ?_
                            · refine sim_Attribute ok ?_ ?_
                              · refine sim_Name ok ?_ ?_
                                · kernel_rfl
                                · kernel_rfl
                              · kernel_rfl
                            · exact (.inl (by kernel_rfl))
                            · kernel_rfl
                      · refine sim_one ?_
                        · refine sim_If ?_ ?_ ?_
                          · refine sim_test_BoolOp ?_
                            · refine sim_all_and ?_ ?_
                              · refine sim_test_Compare ?_ ?_ ?_ p_truthy ?_
                                · refine sim_Name ok ?_ ?_
                                  · kernel_rfl
                                  · kernel_rfl
                                · refine sim_Name ok ?_ ?_
                                  · kernel_rfl
                                  · kernel_rfl
                                · exact (p_eq ok)
                                · exact rfl
                              · refine sim_all_and ?_ ?_
                                · refine sim_test_Not ?_
                                  · refine sim_test ?_ p_truthy
                                    · refine sim_Name ok ?_ ?_
                                      · kernel_rfl
                                      · kernel_rfl
                                · exact sim_all_nil_and
                          · refine sim_one ?_
                            · refine sim_Assign ok ?_ ?_ ?_
                              · refine sim_Attribute ok ?_ ?_
                                · refine sim_Name ok ?_ ?_
                                  · kernel_rfl
                                  · kernel_rfl
                                · kernel_rfl
                              · exact (.inl (by kernel_rfl))
                              · kernel_rfl
                          · exact sim_nil
                  · exact sim_nil
            · exact fun _ => rfl
          · refine sim_one ?_
            · refine sim_Return ?_
              · refine sim_Name ok ?_ ?_
                · kernel_rfl
                · kernel_rfl
theorem fn_rule (cx : Cx) (hK : cx.K = hd.heap_39 cx.w.params) (hC : cx.C = 52) (hL : cx.lam = lam10 cx.w.params) (hT : cx.tab = (58, #[], pos10 cx.w.params)) : Fn cx 1 61 ["place", "number", "names", "log"] rule10 := by
  obtain ⟨prog, w, K, C, p, loose, mg, mb, h₀, L, A, fenv, env, base, outer, os, n, fm, fzn, lam, tab⟩ := cx
  dsimp only at hK hC hL hT
  subst hK hC hL hT
  refine fn_user (by rfl) (by rfl) (fun Vs hVs => ?_) ?_ (by decide) (by decide) rfl rfl rfl ?_
  · match Vs, hVs with
    | [a, b, c, d], _ => rfl
  · decide
  · intro A' g L' ok
    refine body_cons ?_ ?_
    · refine sim_Assign ok ?_ ?_ ?_
      · refine sim_Call ok (u := .ref 52) ?_ ?_ ?_ ?_ plain_nil call_name
        · refine sim_Global ok ?_ ?_ ?_
          · kernel_rfl
          · kernel_rfl
          · kernel_rfl
        · exact sim_args_nil
        · exact (keep_K (by kernel_rfl))
        · exact (pc_class ok (k := 0) (Nat.le_of_ble_eq_true (by kernel_rfl)) (by kernel_rfl) (by kernel_rfl) (by kernel_rfl) (fn_init _ rfl rfl rfl rfl))
      · exact (.inl (by kernel_rfl))
      · kernel_rfl
    · refine body_cons ?_ ?_
      · refine sim_AssignAttr ok ?_ ?_ ?_ ?_
        · refine sim_IfExp ?_ ?_ ?_
          · refine sim_test_Compare ?_ ?_ ?_ p_truthy ?_
            · refine sim_BinOp ?_ ?_ p_mod
              · refine sim_Name ok ?_ ?_
                · kernel_rfl
                · kernel_rfl
              · exact sim_int
            · exact sim_int
            · exact (p_eq ok)
            · exact rfl
          · refine sim_BinOp ?_ ?_ p_mul
            · exact sim_str
            · refine sim_BinOp ?_ ?_ p_add
              · refine sim_Name ok ?_ ?_
                · kernel_rfl
                · kernel_rfl
              · exact sim_int
          · exact sim_str
        · refine sim_Name ok ?_ ?_
          · kernel_rfl
          · kernel_rfl
        · kernel_rfl
        · kernel_rfl
      · refine body_cons ?_ ?_
        · refine sim_Assign ok ?_ ?_ ?_
          · refine sim_ListComp ok (fr := ["number"]) ?_ ?_ ?_ ?_ ?_ ?_
            · exact ⟨by kernel_rfl, by kernel_rfl, by kernel_rfl, by kernel_rfl, by kernel_rfl, by kernel_rfl, by kernel_rfl⟩
            · refine sim_Call ok (u := .type "range") ?_ ?_ keep_type pc_range ?_ call_name
              · refine sim_Builtin ok ?_ ?_ ?_ ?_ ?_
                · kernel_rfl
                · kernel_rfl
                · kernel_rfl
                · exact (by decide)
                · kernel_rfl
              · refine sim_args_cons ?_ ?_ ?_
                · exact sim_int
                · exact sim_args_nil
                · exact (star_plain rfl)
              · exact (plain_cons rfl plain_nil)
            · kernel_rfl
            · intro _ _ ok
              exact sim_tests_nil
            · intro _ _ ok
              refine sim_BinOp ?_ ?_ p_mod
              · refine sim_BinOp ?_ ?_ p_div
                · refine sim_BinOp ?_ ?_ p_div
                  · refine sim_Name ok ?_ ?_
                    · kernel_rfl
                    · kernel_rfl
                  · exact sim_int
                · refine sim_BinOp ?_ ?_ p_pow
                  · exact sim_int
                  · refine sim_Name ok ?_ ?_
                    · kernel_rfl
                    · kernel_rfl
              · exact sim_int
            · exact (fun _ => rfl)
          · exact (.inr ⟨by kernel_rfl, by kernel_rfl, rfl⟩)
          · kernel_rfl
        · refine body_frz ok ?_
          · intro ok
            refine sim_cons ?_ ?_
            · refine sim_Def ok ?_ (fr := ["log", "place", "reaches", "names"]) (c := 60) (P := 58) ?_ ?_ ?_ ?_ ?_ ?_ ?_ ?_ ?_
              · exact rfl
              · kernel_rfl
              · kernel_rfl
              · exact rfl
              · exact rfl
              · exact rfl
              · exact rfl
              · exact (fun h X => ⟨_, _, _, _, _, _, _, _, _, X _ _ (by rfl), rfl, rfl, rfl, rfl, rfl, rfl, rfl, rfl, by decide⟩)
              · exact ⟨by kernel_rfl, by kernel_rfl, by kernel_rfl⟩
              · exact (.inl (by kernel_rfl))
            · refine sim_cons ?_ ?_
              · refine sim_AssignAttr ok ?_ ?_ ?_ ?_
                · refine sim_Name ok ?_ ?_
                  · kernel_rfl
                  · kernel_rfl
                · refine sim_Name ok ?_ ?_
                  · kernel_rfl
                  · kernel_rfl
                · kernel_rfl
                · kernel_rfl
              · refine sim_one ?_
                · refine sim_Return ?_
                  · refine sim_Tuple ?_
                    · refine sim_args_cons ?_ ?_ ?_
                      · refine sim_Name ok ?_ ?_
                        · kernel_rfl
                        · kernel_rfl
                      · refine sim_args_cons ?_ ?_ ?_
                        · refine sim_Name ok ?_ ?_
                          · kernel_rfl
                          · kernel_rfl
                        · exact sim_args_nil
                        · exact (star_plain rfl)
                      · exact (star_plain rfl)
end Mine
set_option maxRecDepth 100000 in
set_option maxHeartbeats 8000000 in
theorem PySem.Challenge.cw_dn0257_10_holds : PySem.Challenge.rw_dn0257_10.Holds := by
  refine Mine.hd ?_
  k_fill
  intro w s₀ s₁ mg mb G Y fa o pm cd doc dV kV ho hd hcd hD hmg hg args vals as hpre hlay hrd hwl hlo
  have KX := km_in_of Y
  have KT := km_tabs_of Y
  refine Ground.open G ?_
  intro T B D TE TW
  try (refine guard_noD D (by decide +kernel) ?_; clear D)
  clear hmg
  wrow_args hpre hlay hrd hwl hlo
  all_goals (first | refine callC_kw (enter_call ?_) | refine enter_call ?_)
  have he := Dflts.none hD rfl; subst he; have he := Dflts.noKw hD; subst he
  rename_i xs _ _ _ _ _ _ _ a Vs _ hL _ _ _ hI _ hc _
  have hT : TabsAt [(60, 58)] s₁.heap := fun q hq => by
    rw [List.mem_singleton] at hq
    subst hq
    exact ⟨⟨_, _, _, _, _, _, _, _, _, KX 60 _ (by rfl), rfl, rfl, rfl, rfl, rfl, rfl, rfl, rfl, by decide⟩, KT 58 (by decide)⟩
  have gT := ghost_top hT T
  refine kn_post hT (fun _ _ => rfl) ?_
  refine Mine.enter_lawC (n := 5) (C := 52) (xs := xs) (c := 60) (P := 58) (pos := Mine.pos10 w.params) (lam := Mine.lam10 w.params) (mbody := Mine.law10 a xs) (by decide) hT T.nolimit (topRead_of gT) (by exact gT.bmain) (ghost_K hT KX (by kernel_rfl)) ho (fd_plain hd) hcd hg hL hI rfl rfl (by decide) rfl rfl rfl (fun ok hO => ?_) ?_ ?_
  · open Mine in
    refine sim_cons ?_ ?_
    · refine sim_Assign ok ?_ ?_ ?_
      · refine sim_SliceG hO ?_ ?_ ?_
        · refine sim_Name ok ?_ ?_
          · kernel_rfl
          · kernel_rfl
        · exact sim_part_none
        · refine sim_part_some ?_
          · exact sim_int
      · exact (.inl (by kernel_rfl))
      · kernel_rfl
    · refine sim_cons ?_ ?_
      · refine sim_Assign ok ?_ ?_ ?_
        · refine sim_List ?_
          · refine sim_args_cons ?_ ?_ ?_
            · exact sim_str
            · refine sim_args_cons ?_ ?_ ?_
              · exact sim_str
              · refine sim_args_cons ?_ ?_ ?_
                · exact sim_str
                · refine sim_args_cons ?_ ?_ ?_
                  · exact sim_str
                  · exact sim_args_nil
                  · exact (star_plain rfl)
                · exact (star_plain rfl)
              · exact (star_plain rfl)
            · exact (star_plain rfl)
        · exact (.inr ⟨by kernel_rfl, by kernel_rfl, rfl⟩)
        · kernel_rfl
      · refine sim_cons ?_ ?_
        · refine sim_Assign ok ?_ ?_ ?_
          · refine sim_List ?_
            · exact sim_args_nil
          · exact (.inl (by kernel_rfl))
          · kernel_rfl
        · refine sim_cons ?_ ?_
          · refine sim_Assign ok ?_ ?_ ?_
            · refine sim_Call ok (u := .ref 52) ?_ ?_ ?_ ?_ plain_nil call_name
              · refine sim_Global ok ?_ ?_ ?_
                · kernel_rfl
                · kernel_rfl
                · kernel_rfl
              · exact sim_args_nil
              · exact (keep_K (by kernel_rfl))
              · exact (pc_class ok (k := 0) (Nat.le_of_ble_eq_true (by kernel_rfl)) (by kernel_rfl) (by kernel_rfl) (by kernel_rfl) (fn_init _ rfl rfl rfl rfl))
            · exact (.inl (by kernel_rfl))
            · kernel_rfl
          · refine sim_cons ?_ ?_
            · refine sim_Assign ok ?_ ?_ ?_
              · refine sim_List ?_
                · exact sim_args_nil
              · exact (.inr ⟨by kernel_rfl, by kernel_rfl, rfl⟩)
              · kernel_rfl
            · refine sim_cons ?_ ?_
              · refine sim_Assign ok ?_ ?_ ?_
                · refine sim_Attribute ok ?_ ?_
                  · refine sim_Name ok ?_ ?_
                    · kernel_rfl
                    · kernel_rfl
                  · kernel_rfl
                · exact (.inl (by kernel_rfl))
                · kernel_rfl
              · refine sim_cons ?_ ?_
                · refine sim_For ok ?_ ?_ ?_ ?_
                  · refine sim_Call ok (u := .type "range") ?_ ?_ keep_type pc_range ?_ call_name
                    · refine sim_Builtin ok ?_ ?_ ?_ ?_ ?_
                      · kernel_rfl
                      · kernel_rfl
                      · kernel_rfl
                      · exact (by decide)
                      · kernel_rfl
                    · refine sim_args_cons ?_ ?_ ?_
                      · refine sim_Call ok (u := .builtin "len") ?_ ?_ keep_builtin pc_len ?_ call_name
                        · refine sim_Builtin ok ?_ ?_ ?_ ?_ ?_
                          · kernel_rfl
                          · kernel_rfl
                          · kernel_rfl
                          · exact (by decide)
                          · kernel_rfl
                        · refine sim_args_cons ?_ ?_ ?_
                          · refine sim_Name ok ?_ ?_
                            · kernel_rfl
                            · kernel_rfl
                          · exact sim_args_nil
                          · exact (star_plain rfl)
                        · exact (plain_cons rfl plain_nil)
                      · exact sim_args_nil
                      · exact (star_plain rfl)
                    · exact (plain_cons rfl plain_nil)
                  · refine sim_target ok ?_
                    · exact (.inl (by kernel_rfl))
                  · refine sim_cons ?_ ?_
                    · refine sim_AssignTuple ?_ ?_ ?_ ?_
                      · refine sim_Call ok (u := .ref 61) ?_ ?_ ?_ ?_ ?_ call_name
                        · refine sim_Global ok ?_ ?_ ?_
                          · kernel_rfl
                          · kernel_rfl
                          · kernel_rfl
                        · refine sim_args_cons ?_ ?_ ?_
                          · refine sim_Name ok ?_ ?_
                            · kernel_rfl
                            · kernel_rfl
                          · refine sim_args_cons ?_ ?_ ?_
                            · refine sim_Subscript ok ?_ ?_ ?_
                              · refine sim_Name ok ?_ ?_
                                · kernel_rfl
                                · kernel_rfl
                              · refine sim_Name ok ?_ ?_
                                · kernel_rfl
                                · kernel_rfl
                              · exact fun _ _ => rfl
                            · refine sim_args_cons ?_ ?_ ?_
                              · refine sim_Name ok ?_ ?_
                                · kernel_rfl
                                · kernel_rfl
                              · refine sim_args_cons ?_ ?_ ?_
                                · refine sim_Name ok ?_ ?_
                                  · kernel_rfl
                                  · kernel_rfl
                                · exact sim_args_nil
                                · exact (star_plain rfl)
                              · exact (star_plain rfl)
                            · exact (star_plain rfl)
                          · exact (star_plain rfl)
                        · exact (keep_K (by kernel_rfl))
                        · exact (pc_user ok (k := 1) (Nat.le_of_ble_eq_true (by kernel_rfl)) (fn_rule _ rfl rfl rfl rfl))
                        · exact (plain_cons rfl (plain_cons rfl (plain_cons rfl (plain_cons rfl plain_nil))))
                      · refine sim_unpack ok ?_
                        · refine sim_tgts_cons ?_ ?_ ?_
                          · refine sim_target ok ?_
                            · exact (.inl (by kernel_rfl))
                          · refine sim_tgts_cons ?_ ?_ ?_
                            · refine sim_target ok ?_
                              · exact (.inl (by kernel_rfl))
                            · exact sim_tgts_nil
                            · exact rfl
                          · exact rfl
                      · kernel_rfl
                      · kernel_rfl
                    · refine sim_cons ?_ ?_
                      · refine sim_Expr ?_ ?_ ?_ ?_
                        · refine sim_ML ok PySem.F.slot_list_append ?_ pc_append ?_ ?_ ?_ ?_ ?_ ?_
                          · exact rfl
                          · refine sim_Name ok ?_ ?_
                            · kernel_rfl
                            · kernel_rfl
                          · refine sim_args_cons ?_ ?_ ?_
                            · refine sim_Name ok ?_ ?_
                              · kernel_rfl
                              · kernel_rfl
                            · exact sim_args_nil
                            · exact (star_plain rfl)
                          · exact (plain_cons rfl plain_nil)
                          · exact rfl
                          · exact rfl
                          · exact rfl
                        · kernel_rfl
                        · kernel_rfl
                        · exact fun _ => by kernel_rfl
                      · refine sim_one ?_
                        · refine sim_Expr ?_ ?_ ?_ ?_
                          · refine sim_ML ok PySem.F.slot_list_append ?_ pc_append ?_ ?_ ?_ ?_ ?_ ?_
                            · exact rfl
                            · refine sim_Name ok ?_ ?_
                              · kernel_rfl
                              · kernel_rfl
                            · refine sim_args_cons ?_ ?_ ?_
                              · refine sim_Tuple ?_
                                · refine sim_args_cons ?_ ?_ ?_
                                  · refine sim_Name ok ?_ ?_
                                    · kernel_rfl
                                    · kernel_rfl
                                  · refine sim_args_cons ?_ ?_ ?_
                                    · refine sim_Compare ?_ ?_ ?_ ?_
                                      · refine sim_BinOp ?_ ?_ p_mod
                                        · refine sim_Subscript ok ?_ ?_ ?_
                                          · refine sim_Name ok ?_ ?_
                                            · kernel_rfl
                                            · kernel_rfl
                                          · refine sim_Name ok ?_ ?_
                                            · kernel_rfl
                                            · kernel_rfl
                                          · exact fun _ _ => rfl
                                        · exact sim_int
                                      · exact sim_int
                                      · exact (p_eq ok)
                                      · exact rfl
                                    · exact sim_args_nil
                                    · exact (star_plain rfl)
                                  · exact (star_plain rfl)
                              · exact sim_args_nil
                              · exact (star_plain rfl)
                            · exact (plain_cons rfl plain_nil)
                            · exact rfl
                            · exact rfl
                            · exact rfl
                          · kernel_rfl
                          · kernel_rfl
                          · exact fun _ => by kernel_rfl
                  · exact fun _ => rfl
                · refine sim_cons ?_ ?_
                  · refine sim_Assign ok ?_ ?_ ?_
                    · refine sim_Call ok (u := .type "list") ?_ ?_ keep_type pc_list ?_ call_name
                      · refine sim_Builtin ok ?_ ?_ ?_ ?_ ?_
                        · kernel_rfl
                        · kernel_rfl
                        · kernel_rfl
                        · exact (by decide)
                        · kernel_rfl
                      · refine sim_args_cons ?_ ?_ ?_
                        · refine sim_Name ok ?_ ?_
                          · kernel_rfl
                          · kernel_rfl
                        · exact sim_args_nil
                        · exact (star_plain rfl)
                      · exact (plain_cons rfl plain_nil)
                    · exact (.inl (by kernel_rfl))
                    · kernel_rfl
                  · refine sim_cons ?_ ?_
                    · refine sim_For ok ?_ ?_ ?_ ?_
                      · refine sim_Call ok (u := .type "range") ?_ ?_ keep_type pc_range ?_ call_name
                        · refine sim_Builtin ok ?_ ?_ ?_ ?_ ?_
                          · kernel_rfl
                          · kernel_rfl
                          · kernel_rfl
                          · exact (by decide)
                          · kernel_rfl
                        · refine sim_args_cons ?_ ?_ ?_
                          · exact sim_int
                          · exact sim_args_nil
                          · exact (star_plain rfl)
                        · exact (plain_cons rfl plain_nil)
                      · refine sim_target ok ?_
                        · exact (.inr ⟨by kernel_rfl, by kernel_rfl, rfl⟩)
                      · refine sim_cons ?_ ?_
                        · refine del_all ok ?_
                          · refine sim_Name ok ?_ ?_
                            · kernel_rfl
                            · kernel_rfl
                        · refine sim_cons ?_ ?_
                          · refine sim_Assign ok ?_ ?_ ?_
                            · refine sim_MI ok 49 ?_ ?_ ?_ ?_ ?_ ?_ ?_ ?_ ?_ ?_ ?_
                              · kernel_rfl
                              · kernel_rfl
                              · kernel_rfl
                              · kernel_rfl
                              · exact (pc_user ok (k := 2) (Nat.le_of_ble_eq_true (by kernel_rfl)) (fn_allow _ rfl rfl rfl rfl))
                              · refine sim_Name ok ?_ ?_
                                · kernel_rfl
                                · kernel_rfl
                              · refine sim_args_cons ?_ ?_ ?_
                                · refine sim_Subscript ok ?_ ?_ ?_
                                  · refine sim_Name ok ?_ ?_
                                    · kernel_rfl
                                    · kernel_rfl
                                  · refine sim_Name ok ?_ ?_
                                    · kernel_rfl
                                    · kernel_rfl
                                  · exact fun _ _ => rfl
                                · exact sim_args_nil
                                · exact (star_plain rfl)
                              · exact (plain_cons rfl plain_nil)
                              · exact rfl
                              · exact rfl
                              · exact rfl
                            · exact (.inl (by kernel_rfl))
                            · kernel_rfl
                          · refine sim_cons ?_ ?_
                            · refine sim_If ?_ ?_ ?_
                              · refine sim_test_Compare ?_ ?_ ?_ p_truthy ?_
                                · refine sim_Name ok ?_ ?_
                                  · kernel_rfl
                                  · kernel_rfl
                                · refine sim_ListComp ok (fr := ["names", "j"]) ?_ ?_ ?_ ?_ ?_ ?_
                                  · exact ⟨by kernel_rfl, by kernel_rfl, by kernel_rfl, by kernel_rfl, by kernel_rfl, by kernel_rfl, by kernel_rfl⟩
                                  · refine sim_Call ok (u := .type "range") ?_ ?_ keep_type pc_range ?_ call_name
                                    · refine sim_Builtin ok ?_ ?_ ?_ ?_ ?_
                                      · kernel_rfl
                                      · kernel_rfl
                                      · kernel_rfl
                                      · exact (by decide)
                                      · kernel_rfl
                                    · refine sim_args_cons ?_ ?_ ?_
                                      · refine sim_Call ok (u := .builtin "len") ?_ ?_ keep_builtin pc_len ?_ call_name
                                        · refine sim_Builtin ok ?_ ?_ ?_ ?_ ?_
                                          · kernel_rfl
                                          · kernel_rfl
                                          · kernel_rfl
                                          · exact (by decide)
                                          · kernel_rfl
                                        · refine sim_args_cons ?_ ?_ ?_
                                          · refine sim_Name ok ?_ ?_
                                            · kernel_rfl
                                            · kernel_rfl
                                          · exact sim_args_nil
                                          · exact (star_plain rfl)
                                        · exact (plain_cons rfl plain_nil)
                                      · exact sim_args_nil
                                      · exact (star_plain rfl)
                                    · exact (plain_cons rfl plain_nil)
                                  · kernel_rfl
                                  · intro _ _ ok
                                    exact sim_tests_nil
                                  · intro _ _ ok
                                    refine sim_Tuple ?_
                                    · refine sim_args_cons ?_ ?_ ?_
                                      · refine sim_Name ok ?_ ?_
                                        · kernel_rfl
                                        · kernel_rfl
                                      · refine sim_args_cons ?_ ?_ ?_
                                        · refine sim_Subscript ok ?_ ?_ ?_
                                          · refine sim_Name ok ?_ ?_
                                            · kernel_rfl
                                            · kernel_rfl
                                          · refine sim_Name ok ?_ ?_
                                            · kernel_rfl
                                            · kernel_rfl
                                          · exact fun _ _ => rfl
                                        · exact sim_args_nil
                                        · exact (star_plain rfl)
                                      · exact (star_plain rfl)
                                  · exact (fun _ => rfl)
                                · exact (p_ne ok)
                                · exact rfl
                              · refine sim_one ?_
                                · refine sim_Return ?_
                                  · exact sim_bool
                              · exact sim_nil
                            · refine sim_cons ?_ ?_
                              · refine sim_Assign ok ?_ ?_ ?_
                                · exact sim_bool
                                · exact (.inl (by kernel_rfl))
                                · kernel_rfl
                              · refine sim_cons ?_ ?_
                                · refine sim_For ok ?_ ?_ ?_ ?_
                                  · refine sim_Call ok (u := .type "range") ?_ ?_ keep_type pc_range ?_ call_name
                                    · refine sim_Builtin ok ?_ ?_ ?_ ?_ ?_
                                      · kernel_rfl
                                      · kernel_rfl
                                      · kernel_rfl
                                      · exact (by decide)
                                      · kernel_rfl
                                    · refine sim_args_cons ?_ ?_ ?_
                                      · exact sim_int
                                      · refine sim_args_cons ?_ ?_ ?_
                                        · exact sim_int
                                        · exact sim_args_nil
                                        · exact (star_plain rfl)
                                      · exact (star_plain rfl)
                                    · exact (plain_cons rfl (plain_cons rfl plain_nil))
                                  · refine sim_target ok ?_
                                    · exact (.inr ⟨by kernel_rfl, by kernel_rfl, rfl⟩)
                                  · refine sim_cons ?_ ?_
                                    · refine sim_AssignComp ok (fr := ["table", "j", "far"]) ?_ ?_ ?_ ?_ ?_ ?_ ?_ ?_
                                      · exact ⟨by kernel_rfl, by kernel_rfl, by kernel_rfl, by kernel_rfl, by kernel_rfl, by kernel_rfl, by kernel_rfl⟩
                                      · refine sim_Call ok (u := .type "range") ?_ ?_ keep_type pc_range ?_ call_name
                                        · refine sim_Builtin ok ?_ ?_ ?_ ?_ ?_
                                          · kernel_rfl
                                          · kernel_rfl
                                          · kernel_rfl
                                          · exact (by decide)
                                          · kernel_rfl
                                        · refine sim_args_cons ?_ ?_ ?_
                                          · refine sim_Call ok (u := .builtin "len") ?_ ?_ keep_builtin pc_len ?_ call_name
                                            · refine sim_Builtin ok ?_ ?_ ?_ ?_ ?_
                                              · kernel_rfl
                                              · kernel_rfl
                                              · kernel_rfl
                                              · exact (by decide)
                                              · kernel_rfl
                                            · refine sim_args_cons ?_ ?_ ?_
                                              · refine sim_Name ok ?_ ?_
                                                · kernel_rfl
                                                · kernel_rfl
                                              · exact sim_args_nil
                                              · exact (star_plain rfl)
                                            · exact (plain_cons rfl plain_nil)
                                          · exact sim_args_nil
                                          · exact (star_plain rfl)
                                        · exact (plain_cons rfl plain_nil)
                                      · kernel_rfl
                                      · intro _ _ ok
                                        refine sim_tests_one ?_
                                        · refine sim_test_Compare ?_ ?_ ?_ p_truthy ?_
                                          · refine sim_Subscript ok ?_ ?_ ?_
                                            · refine sim_Subscript ok ?_ ?_ ?_
                                              · refine sim_Subscript ok ?_ ?_ ?_
                                                · refine sim_Name ok ?_ ?_
                                                  · kernel_rfl
                                                  · kernel_rfl
                                                · refine sim_Name ok ?_ ?_
                                                  · kernel_rfl
                                                  · kernel_rfl
                                                · exact fun _ _ => rfl
                                              · exact sim_int
                                              · exact fun _ _ => rfl
                                            · refine sim_Name ok ?_ ?_
                                              · kernel_rfl
                                              · kernel_rfl
                                            · exact fun _ _ => rfl
                                          · refine sim_Name ok ?_ ?_
                                            · kernel_rfl
                                            · kernel_rfl
                                          · exact (p_eq ok)
                                          · exact rfl
                                      · intro _ _ ok
                                        refine sim_Name ok ?_ ?_
                                        · kernel_rfl
                                        · kernel_rfl
                                      · exact (fun _ => rfl)
                                      · exact (.inl (by kernel_rfl))
                                      · kernel_rfl
                                    · refine sim_one ?_
                                      · refine sim_If ?_ ?_ ?_
                                        · refine sim_test_Compare ?_ ?_ ?_ p_truthy ?_
                                          · refine sim_Name ok ?_ ?_
                                            · kernel_rfl
                                            · kernel_rfl
                                          · refine sim_List ?_
                                            · exact sim_args_nil
                                          · exact (p_ne ok)
                                          · exact rfl
                                        · refine sim_cons ?_ ?_
                                          · refine sim_AssignComp ok (fr := ["table"]) ?_ ?_ ?_ ?_ ?_ ?_ ?_ ?_
                                            · exact ⟨by kernel_rfl, by kernel_rfl, by kernel_rfl, by kernel_rfl, by kernel_rfl, by kernel_rfl, by kernel_rfl⟩
                                            · refine sim_Name ok ?_ ?_
                                              · kernel_rfl
                                              · kernel_rfl
                                            · kernel_rfl
                                            · intro _ _ ok
                                              refine sim_tests_one ?_
                                              · refine sim_test ?_ p_truthy
                                                · refine sim_Subscript ok ?_ ?_ ?_
                                                  · refine sim_Subscript ok ?_ ?_ ?_
                                                    · refine sim_Name ok ?_ ?_
                                                      · kernel_rfl
                                                      · kernel_rfl
                                                    · refine sim_Name ok ?_ ?_
                                                      · kernel_rfl
                                                      · kernel_rfl
                                                    · exact fun _ _ => rfl
                                                  · exact sim_int
                                                  · exact fun _ _ => rfl
                                            · intro _ _ ok
                                              refine sim_Name ok ?_ ?_
                                              · kernel_rfl
                                              · kernel_rfl
                                            · exact (fun _ => rfl)
                                            · exact (.inl (by kernel_rfl))
                                            · kernel_rfl
                                          · refine sim_one ?_
                                            · refine sim_Assign ok ?_ ?_ ?_
                                              · refine sim_IfExp ?_ ?_ ?_
                                                · refine sim_test_Compare ?_ ?_ ?_ p_truthy ?_
                                                  · refine sim_Name ok ?_ ?_
                                                    · kernel_rfl
                                                    · kernel_rfl
                                                  · refine sim_List ?_
                                                    · exact sim_args_nil
                                                  · exact (p_ne ok)
                                                  · exact rfl
                                                · refine sim_BinOp ?_ ?_ p_mul
                                                  · exact sim_str
                                                  · refine sim_BinOp ?_ ?_ p_add
                                                    · refine sim_Subscript ok ?_ ?_ ?_
                                                      · refine sim_Name ok ?_ ?_
                                                        · kernel_rfl
                                                        · kernel_rfl
                                                      · exact sim_int
                                                      · exact fun _ _ => rfl
                                                    · exact sim_int
                                                · exact sim_str
                                              · exact (.inl (by kernel_rfl))
                                              · kernel_rfl
                                        · exact sim_nil
                                  · exact fun _ => rfl
                                · refine sim_cons ?_ ?_
                                  · refine sim_If ?_ ?_ ?_
                                    · refine sim_test_BoolOp ?_
                                      · refine sim_all_or ?_ ?_
                                        · refine sim_test_Compare ?_ ?_ ?_ p_truthy ?_
                                          · refine sim_Name ok ?_ ?_
                                            · kernel_rfl
                                            · kernel_rfl
                                          · refine sim_Name ok ?_ ?_
                                            · kernel_rfl
                                            · kernel_rfl
                                          · exact (p_ne ok)
                                          · exact rfl
                                        · refine sim_all_or ?_ ?_
                                          · refine sim_test_Compare ?_ ?_ p_isnot p_truthy ?_
                                            · refine sim_Call ok (u := .type "type") ?_ ?_ keep_type pc_type ?_ call_name
                                              · refine sim_Builtin ok ?_ ?_ ?_ ?_ ?_
                                                · kernel_rfl
                                                · kernel_rfl
                                                · kernel_rfl
                                                · exact (by decide)
                                                · kernel_rfl
                                              · refine sim_args_cons ?_ ?_ ?_
                                                · refine sim_Name ok ?_ ?_
                                                  · kernel_rfl
                                                  · kernel_rfl
                                                · exact sim_args_nil
                                                · exact (star_plain rfl)
                                              · exact (plain_cons rfl plain_nil)
                                            · refine sim_Call ok (u := .type "type") ?_ ?_ keep_type pc_type ?_ call_name
                                              · refine sim_Builtin ok ?_ ?_ ?_ ?_ ?_
                                                · kernel_rfl
                                                · kernel_rfl
                                                · kernel_rfl
                                                · exact (by decide)
                                                · kernel_rfl
                                              · refine sim_args_cons ?_ ?_ ?_
                                                · refine sim_Name ok ?_ ?_
                                                  · kernel_rfl
                                                  · kernel_rfl
                                                · exact sim_args_nil
                                                · exact (star_plain rfl)
                                              · exact (plain_cons rfl plain_nil)
                                            · exact rfl
                                          · exact sim_all_nil_or
                                    · refine sim_one ?_
                                      · refine sim_Return ?_
                                        · exact sim_bool
                                    · exact sim_nil
                                  · refine sim_cons ?_ ?_
                                    · refine sim_If ?_ ?_ ?_
                                      · refine sim_test_BoolOp ?_
                                        · refine sim_all_or ?_ ?_
                                          · refine sim_test_Compare ?_ ?_ p_isnot p_truthy ?_
                                            · refine sim_Attribute ok ?_ ?_
                                              · refine sim_Name ok ?_ ?_
                                                · kernel_rfl
                                                · kernel_rfl
                                              · kernel_rfl
                                            · refine sim_Name ok ?_ ?_
                                              · kernel_rfl
                                              · kernel_rfl
                                            · exact rfl
                                          · refine sim_all_or ?_ ?_
                                            · refine sim_test_Compare ?_ ?_ ?_ p_truthy ?_
                                              · refine sim_Name ok ?_ ?_
                                                · kernel_rfl
                                                · kernel_rfl
                                              · refine sim_Name ok ?_ ?_
                                                · kernel_rfl
                                                · kernel_rfl
                                              · exact (p_neX ok)
                                              · exact rfl
                                            · exact sim_all_nil_or
                                      · refine sim_one ?_
                                        · refine sim_Return ?_
                                          · exact sim_bool
                                      · exact sim_nil
                                    · refine sim_one ?_
                                      · refine sim_For ok ?_ ?_ ?_ ?_
                                        · refine sim_Call ok (u := .type "range") ?_ ?_ keep_type pc_range ?_ call_name
                                          · refine sim_Builtin ok ?_ ?_ ?_ ?_ ?_
                                            · kernel_rfl
                                            · kernel_rfl
                                            · kernel_rfl
                                            · exact (by decide)
                                            · kernel_rfl
                                          · refine sim_args_cons ?_ ?_ ?_
                                            · refine sim_Call ok (u := .builtin "len") ?_ ?_ keep_builtin pc_len ?_ call_name
                                              · refine sim_Builtin ok ?_ ?_ ?_ ?_ ?_
                                                · kernel_rfl
                                                · kernel_rfl
                                                · kernel_rfl
                                                · exact (by decide)
                                                · kernel_rfl
                                              · refine sim_args_cons ?_ ?_ ?_
                                                · refine sim_Name ok ?_ ?_
                                                  · kernel_rfl
                                                  · kernel_rfl
                                                · exact sim_args_nil
                                                · exact (star_plain rfl)
                                              · exact (plain_cons rfl plain_nil)
                                            · exact sim_args_nil
                                            · exact (star_plain rfl)
                                          · exact (plain_cons rfl plain_nil)
                                        · refine sim_target ok ?_
                                          · exact (.inl (by kernel_rfl))
                                        · refine sim_one ?_
                                          · refine sim_If ?_ ?_ ?_
                                            · refine sim_test_Compare ?_ ?_ ?_ p_truthy ?_
                                              · refine sim_Attribute ok ?_ ?_
                                                · refine sim_Subscript ok ?_ ?_ ?_
                                                  · refine sim_Name ok ?_ ?_
                                                    · kernel_rfl
                                                    · kernel_rfl
                                                  · refine sim_Name ok ?_ ?_
                                                    · kernel_rfl
                                                    · kernel_rfl
                                                  · exact fun _ _ => rfl
                                                · kernel_rfl
                                              · refine sim_IfExp ?_ ?_ ?_
                                                · refine sim_test ?_ p_truthy
                                                  · refine sim_Subscript ok ?_ ?_ ?_
                                                    · refine sim_Subscript ok ?_ ?_ ?_
                                                      · refine sim_Name ok ?_ ?_
                                                        · kernel_rfl
                                                        · kernel_rfl
                                                      · refine sim_Name ok ?_ ?_
                                                        · kernel_rfl
                                                        · kernel_rfl
                                                      · exact fun _ _ => rfl
                                                    · exact sim_int
                                                    · exact fun _ _ => rfl
                                                · refine sim_BinOp ?_ ?_ p_mul
                                                  · exact sim_str
                                                  · refine sim_BinOp ?_ ?_ p_add
                                                    · refine sim_Name ok ?_ ?_
                                                      · kernel_rfl
                                                      · kernel_rfl
                                                    · exact sim_int
                                                · exact sim_str
                                              · exact (p_ne ok)
                                              · exact rfl
                                            · refine sim_one ?_
                                              · refine sim_Return ?_
                                                · exact sim_bool
                                            · exact sim_nil
                                        · exact fun _ => rfl
                      · exact fun _ => rfl
                    · refine sim_one ?_
                      · refine sim_Return ?_
                        · exact sim_bool
  · exact Mine.law10_true a xs (by omega)
  · intro s' F hg' hos hgr
    obtain ⟨_, _, F⟩ := F
    refine ⟨goodW_bool F hg' ?_ ?_ hos, hgr⟩
    · first | exact fun _ => rfl | exact raisesW_false (by wrow_none_raised)
    · first | rfl | exact postW_of (by wrow_shape) (by wtm_val) (by str_meet; first | done | w_fin)
