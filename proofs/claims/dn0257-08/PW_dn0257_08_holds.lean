import PyProof.Rows.All
import Wide.All
import OpenK.AllK
import Wide.FinOn
import PySem.Challenge.RW_dn0257_08
open PySem PySem.W PySem.Calls PyProof.Rows
set_option Elab.async false
namespace Mine
theorem runs_toks {M : Model} {Γ : Ctx} {p : Pos} {t : Sem Fin} {fs : List Frame} {s s' : Shared} {e : End} (h : Runs M Γ p t fs s e s') : s.toks ≤ s'.toks := by
  induction h with
  | done => exact Nat.le_refl _
  | raise => exact Nat.le_refl _
  | yield => exact Nat.le_refl _
  | fresh _ ih => exact Nat.le_trans (Nat.le_succ _) ih
  | call _ _ ih1 ih2 => exact Nat.le_trans ih1 ih2
  | resumeFresh _ _ _ _ ih1 ih2 => exact Nat.le_trans ih1 ih2
  | resumeSuspended _ _ _ _ ih1 ih2 => exact Nat.le_trans ih1 ih2
  | segRet _ _ ih1 ih2 => exact Nat.le_trans ih1 ih2
  | segGen _ _ ih1 ih2 => exact Nat.le_trans ih1 ih2
  | segSuspGen _ _ _ _ ih1 ih2 => exact Nat.le_trans ih1 ih2
  | _ => first | assumption | (rename_i ih; exact ih)
theorem wakes_toks {M : Model} {Γ : Ctx} {p : Pos} {g : Nat} {r : Resume} {s s' : Shared} {res : GenResult} (h : Wakes M Γ p g r s res s') : s.toks ≤ s'.toks := by
  unfold Wakes at h
  split at h
  · exact h.elim
  · split at h
    · obtain ⟨e₁, s₁, h1, _, _, rfl⟩ := h; have h2 := runs_toks h1; exact h2
    · rw [h.2]; exact Nat.le_refl _
    · rw [h.2]; exact Nat.le_refl _
  · obtain ⟨e₁, s₁, h1, _, _, rfl⟩ := h; have h2 := runs_toks h1; exact h2
  · rw [h.2]; exact Nat.le_refl _
  · rw [h.2]; exact Nat.le_refl _
theorem wp_toks {X : Type} (M : Model) (Γ : Ctx) (tree : Sem X) (n : Nat) {post : X → Pos → Shared → Prop} {exc : Value → Pos → Shared → Prop} : ∀ (pos : Pos) (sh : Shared), n ≤ sh.toks →
    Sem.wp M Γ tree post exc pos sh → Sem.wp M Γ tree (fun x p s => post x p s ∧ n ≤ s.toks) (fun v p s => exc v p s ∧ n ≤ s.toks) pos sh := by
  induction tree with
  | pure x => exact fun p s h k => ⟨k, h⟩
  | raise v => exact fun p s h k => ⟨k, h⟩
  | unsupported | finish | yield | fork | await | register => exact fun _ _ _ k => k
  | rule _ k ih | «at» _ k ih | alloc _ k ih | loadIfAlive _ k ih | point _ k ih | ask k ih | os _ _ k ih | handled _ k ih | newGen _ k ih | stack k ih | thread k ih => exact fun p s h k => ih _ _ _ h k
  | fresh k ih => exact fun p s h k => ih _ _ _ (Nat.le_trans h (Nat.le_succ _)) k
  | load a _ k ih | genState a k ih => exact fun p s hn ⟨o, ho, h⟩ => ⟨o, ho, ih _ _ _ hn h⟩
  | update a _ f k ih | choose _ _ k ih => exact fun p s hn ⟨ha, h⟩ => ⟨ha, ih _ _ _ hn h⟩
  | call c h g l k ih => exact fun p s hn ⟨r, s', hr, hk⟩ => ⟨r, s', hr, ih _ _ _ (Nat.le_trans hn (runs_toks hr)) hk⟩
  | resume g r l k ih => exact fun p s hn ⟨res, s', hw, h⟩ => ⟨res, s', hw, ih _ _ _ (Nat.le_trans hn (wakes_toks hw)) h⟩
theorem wpAny_toks {α : Type} {M : Model} {A : Around} {t : Sem α} {Q : α → Shared → Prop} {E : Value → Shared → Prop} {s : Shared} {n : Nat} (hn : n ≤ s.toks) (h : wpAny M A t (fun a s' => n ≤ s'.toks → Q a s') (fun e s' => n ≤ s'.toks → E e s') s) : wpAny M A t Q E s := fun Γ p hΓ =>
  Sem.wp_mono M Γ t (fun _ _ _ k => k.1 k.2) (fun _ _ _ k => k.1 k.2) p s (wp_toks M Γ t n p s hn (h Γ p hΓ))
end Mine
namespace Mine
/-- abstract values -/
inductive V where
  | none
  | bool (b : Bool)
  | int (i : Int)
  | str (s : List Nat)
  | byt (b : Array UInt8)
  | obj (i : Nat)
  | glob (v : Value)
/-- abstract objects -/
inductive O where
  | list (xs : List V)
  | tuple (xs : List V)
  | inst (as : List (String × V))
  | dict (es : List (List Nat × V))
  | range (a b st : Int)
  | slice (a b st : V)
  | clos (cs : List (String × V))
  | ctab
structure St where
  loc : String → Option V
  sto : List O
inductive Res (α : Type) where
  | ok (a : α) (st : St)
  | exc (k : String) (st : St)
  | fail
abbrev PM (α : Type) := St → Res α
def PM.pure {α : Type} (a : α) : PM α := fun st => .ok a st
def PM.bind {α β : Type} (m : PM α) (f : α → PM β) : PM β := fun st => match m st with
  | .ok a st' => f a st'
  | .exc k st' => .exc k st'
  | .fail => .fail
def PM.fail {α : Type} : PM α := fun _ => .fail
theorem bind_ok {α β : Type} {m : PM α} {f : α → PM β} {st st' : St} {b : β} (h : PM.bind m f st = .ok b st') : ∃ a st₁, m st = .ok a st₁ ∧ f a st₁ = .ok b st' := by
  unfold PM.bind at h
  cases e : m st with
  | ok a st₁ => rw [e] at h; exact ⟨a, st₁, rfl, h⟩
  | exc k st₁ => rw [e] at h; cases h
  | fail => rw [e] at h; cases h
theorem pure_ok {α : Type} {a b : α} {st st' : St} (h : PM.pure a st = .ok b st') : b = a ∧ st' = st := by cases h; exact ⟨rfl, rfl⟩
abbrev Map := List (Addr × Addr)
abbrev Led := List (Addr × Obj)
/-- what a step must leave as it is: hidden objects, frozen ones -/
structure Hd where
  h : Led
  z : Led
def okS (l : List Nat) : Prop := ∀ c ∈ l, c < 1114112
inductive VR (ρ : Map) : V → Value → Prop
  | none : VR ρ .none .none
  | bool (b : Bool) : VR ρ (.bool b) (.bool b)
  | int (i : Int) (t : Tok) : VR ρ (.int i) (.int i t)
  | str (l : List Nat) (t : Tok) : okS l → VR ρ (.str l) (.str ⟨l.toArray⟩ t)
  | byt (b : Array UInt8) (t : Tok) : VR ρ (.byt b) (.bytes b t)
  | obj {i : Nat} {p : Addr × Addr} : ρ[i]? = some p → VR ρ (.obj i) (.ref p.1)
  | glob (v : Value) : VR ρ (.glob v) v
theorem get_mono {ρ ρ' : Map} (h : ρ <+: ρ') {i : Nat} {p : Addr × Addr} (e : ρ[i]? = some p) : ρ'[i]? = some p := by
  obtain ⟨t, rfl⟩ := h
  have hi : i < ρ.length := by
    rcases Nat.lt_or_ge i ρ.length with q | q
    · exact q
    · rw [List.getElem?_eq_none q] at e; cases e
  rw [List.getElem?_append_left hi]; exact e
theorem VR.mono {ρ ρ' : Map} (h : ρ <+: ρ') {v : V} {u : Value} (x : VR ρ v u) : VR ρ' v u := by
  cases x with
  | none => exact .none
  | bool b => exact .bool b
  | int i t => exact .int i t
  | str l t h => exact .str l t h
  | byt b t => exact .byt b t
  | obj e => exact .obj (get_mono h e)
  | glob _ => exact .glob _
abbrev VRs (ρ : Map) := Paired (VR ρ)
theorem Paired.imp {α β : Type} {F G : α → β → Prop} (h : ∀ a b, F a b → G a b) : ∀ {l₁ : List α} {l₂ : List β}, Paired F l₁ l₂ → Paired G l₁ l₂
  | _, _, .nil => .nil
  | _, _, .cons x t => .cons (h _ _ x) (Paired.imp h t)
theorem VRs.mono {ρ ρ' : Map} (h : ρ <+: ρ') {vs : List V} {us : List Value} (x : VRs ρ vs us) : VRs ρ' vs us := Paired.imp (fun _ _ => VR.mono h) x
/-- an attribute table and the entries of its dict -/
def AR (ρ : Map) (a : String × V) (e : DictEntry) : Prop := (∃ t, e.key = .str (Str.ofString a.1) t) ∧ VR ρ a.2 e.val
/-- a dict by texts -/
def DR (ρ : Map) (a : List Nat × V) (e : Str × Value) : Prop := e.1 = ⟨a.1.toArray⟩ ∧ VR ρ a.2 e.2
abbrev tupleObj (its : List Value) (n : Nat) : Obj := { cls := .type "tuple", data := .seq its.toArray n }
abbrev listObj (its : List Value) (n : Nat) : Obj := { cls := .type "list", data := .seq its.toArray n }
structure Cx where
  prog : Program
  w : World
  K : Frag
  C : Addr
  p : Program
  loose : List Str
  mg : Str → Option Value
  mb : Str → Option Value
  h₀ : Heap
  L : Addr
  A : Around
  fenv : Env
  env : Env
  base : Heap
  outer : List Env
  os : OsState
  n : Nat
  fm : Str → Option Value
  fzn : Bool
  lam : FuncBody × Arguments × Scope × Str
  tab : Addr × Array Value × Pos
abbrev Cx.M (cx : Cx) : Model := model cx.prog cx.w
/-- a function made in a call: its body, its parameters, its scope, its qualified name; what its cells hold -/
def Lam (ρ : Map) (fz : Led) (f : FuncBody × Arguments × Scope × Str) (cs : List (String × V)) (fd : FuncData) : Prop :=
  fd.body = f.1 ∧ fd.params = f.2.1 ∧ fd.scope = f.2.2.1 ∧ fd.qualname = f.2.2.2 ∧ fd.globals = mainGlobals ∧ fd.builtins = builtinsNs ∧ fd.defaults = .none ∧ fd.kwdefaults = .none ∧
  (∃ c o, fd.code = .ref c ∧ (c, o) ∈ fz ∧ (∃ t vs, o.data = .fields vs ∧ vs[1]? = some (.str fd.qualname t))) ∧
  (∀ n v, cs.lookup n = some v → f.2.2.1.names.lookup (Str.ofString n) = some .free) ∧
  (∀ n v, cs.lookup n = some v → ∃ c o V, fd.closure.lookup (Str.ofString n) = some c ∧ (c, o) ∈ fz ∧ o.data = .cell (some V) ∧ VR ρ v V) ∧
  (∀ x c, fd.closure.lookup x = some c → ∃ o V, (c, o) ∈ fz ∧ o.data = .cell V) ∧ (∀ x y c, fd.closure.lookup x = some c → fd.closure.lookup y = some c → x = y)
def OAt (cx : Cx) (ρ : Map) (fz led : Led) (p : Addr × Addr) : O → Prop
  | .list xs => ∃ Xs n, VRs ρ xs Xs ∧ (p.1, listObj Xs n) ∈ led
  | .tuple xs => ∃ Xs n, VRs ρ xs Xs ∧ (p.1, tupleObj Xs n) ∈ led
  | .inst as => ∃ Es n, Paired (AR ρ) as Es ∧ Es.length ≤ 100 ∧ (p.1, instObj cx.C p.2) ∈ led ∧ (p.2, dictOf Es n) ∈ led
  | .dict es => ∃ o kvs, Paired (DR ρ) es kvs ∧ o.IsDictOf (PySem.strKind cx.prog cx.w) kvs ∧ p.1 ≠ sysModules ∧ (p.1, o) ∈ led
  | .range a b st => ∃ A B S, VR ρ (.int a) A ∧ VR ρ (.int b) B ∧ VR ρ (.int st) S ∧ (p.1, ({ cls := .type "range", data := .fields #[A, B, S] } : Obj)) ∈ led
  | .slice a b st => ∃ A B S, VR ρ a A ∧ VR ρ b B ∧ VR ρ st S ∧ (p.1, ({ cls := .type "slice", data := .fields #[A, B, S] } : Obj)) ∈ led
  | .clos cs => ∃ fd, (p.1, ({ cls := .type "function", data := .func fd } : Obj)) ∈ led ∧ Lam ρ fz cx.lam cs fd
  | .ctab => p.1 = cx.tab.1 ∧ ∃ ps more, ps = cx.tab.2.1 ++ more ∧ TriplesOk ps.toList ∧ (p.1, ({ cls := .none, data := .fields ps } : Obj)) ∈ led ∧
      (codeAmong cx.tab.2.2 ps.toList = none ∨ ∃ c o, codeAmong cx.tab.2.2 ps.toList = some (.ref c) ∧ (c, o) ∈ fz ∧ (∃ t vs, o.data = .fields vs ∧ vs[1]? = some (.str cx.lam.2.2.2 t)))
/-- where the built-in names' module lies -/
def BM (mg : Str → Option Value) (h : Heap) : Prop := ∃ bm ob, mg "__builtins__" = some (.ref bm) ∧ bm ≠ builtinsNs ∧ h.get? bm = some ob ∧ ob.cls = .type "module" ∧ ob.dict = some builtinsNs ∧ ob.data = .plain
theorem BM.keeps {mg : Str → Option Value} {h h' : Heap} (x : BM mg h) (k : ∀ b o, h.get? b = some o → h'.get? b = some o) : BM mg h' := by
  obtain ⟨bm, ob, a1, a2, a3, a4⟩ := x
  exact ⟨bm, ob, a1, a2, k _ _ a3, a4⟩
structure Cx.Ok (cx : Cx) : Prop where
  bmain : BM cx.mg cx.h₀
  kin : cx.K.In cx.h₀
  top : TopRead cx.p cx.loose cx.mg cx.mb cx.h₀
  below : ∃ A₀, Below A₀ cx.base cx.outer cx.h₀
  frames : cx.A.frames = some (cx.fenv :: cx.outer)
  fframe : cx.fenv.frame = some cx.L
  fkind : cx.fenv.scope.kind = .function
  kind : cx.env.scope.kind = .function
  globals : cx.env.globals = mainGlobals
  builtins : cx.env.builtins = builtinsNs
  handled : cx.A.handled = none
  depth : cx.A.depth + 4 * cx.n + 4 < recursionLimit
  units : cx.A.units + 40 * cx.n + 200 < cLine
  cinj : ∀ x y c, cx.env.cells.lookup x = some c → cx.env.cells.lookup y = some c → x = y
def BoundTo (env : Env) (mloc : Str → Option Value) (led : Led) (x : Str) (V : Value) : Prop :=
  (env.kindOf x = some .local ∧ mloc x = some V) ∨
  ((env.kindOf x = some .cell ∨ env.kindOf x = some .free) ∧ ∃ c o, env.cells.lookup x = some c ∧ (c, o) ∈ led ∧ o.data = .cell (some V))
/-- where the current block's own names lie: in the function's frame, or in the dict of a comprehension -/
def LocNs (cx : Cx) (ρ : Map) (hid : Hd) (fz led : Led) (m mloc : Str → Option Value) : Prop :=
  (cx.env.locals = cx.L ∧ mloc = m) ∨
  (cx.env.locals ≠ cx.L ∧ ∃ o es ep, (cx.env.locals, o) ∈ led ∧ o.data = .dict es ep ∧ StrKeys es ∧ (∀ name, nsFind es name = mloc name) ∧
    (∀ p ∈ ρ, p.1 ≠ cx.env.locals ∧ p.2 ≠ cx.env.locals) ∧ (∀ q ∈ hid.h, q.1 ≠ cx.env.locals) ∧ (∀ q ∈ fz, q.1 ≠ cx.env.locals) ∧ (∀ x, cx.env.cells.lookup x ≠ some cx.env.locals))
structure Bear (cx : Cx) (ρ : Map) (hid : Hd) (fz led : Led) (m mloc : Str → Option Value) (st : St) : Prop where
  nd : (led.map (·.1)).Nodup
  cm : cx.env.locals ≠ cx.L → m = cx.fm
  ln : LocNs cx ρ hid fz led m mloc
  len : ρ.length = st.sto.length
  own : ∀ p ∈ ρ, p.1 ∈ led.map (·.1) ∧ p.2 ∈ led.map (·.1)
  obj : ∀ (i : Nat) (o : O) (p : Addr × Addr), st.sto[i]? = some o → ρ[i]? = some p → OAt cx ρ fz led p o
  sep : ∀ (i j : Nat) (p q : Addr × Addr), ρ[i]? = some p → ρ[j]? = some q → i ≠ j → p.1 ≠ q.1 ∧ p.1 ≠ q.2 ∧ p.2 ≠ q.1 ∧ p.2 ≠ q.2
  hin : ∀ q ∈ hid.h, q ∈ led
  hsep : ∀ q ∈ hid.h, ∀ p ∈ ρ, q.1 ≠ p.1 ∧ q.1 ≠ p.2
  cel : ∀ x c, cx.env.cells.lookup x = some c → ∃ o v, (c, o) ∈ led ∧ o.data = .cell v
  csep : ∀ x c, cx.env.cells.lookup x = some c → (∀ q ∈ hid.h, q.1 ≠ c) ∧ (∀ p ∈ ρ, p.1 ≠ c ∧ p.2 ≠ c)
  fin : ∀ q ∈ fz, q ∈ led
  fz0 : ∀ q ∈ hid.z, q ∈ fz
  hfz : ∀ q ∈ hid.h, ∀ r ∈ fz, r.1 ≠ q.1
  fsep : ∀ q ∈ fz, ∀ p ∈ ρ, q.1 ≠ p.1 ∧ q.1 ≠ p.2
  fcel : cx.fzn = false → ∀ q ∈ fz, ∀ x, cx.env.kindOf x = some .cell → cx.env.cells.lookup x ≠ some q.1
  loc : ∀ n v, st.loc n = some v → ∃ V, VR ρ v V ∧ BoundTo cx.env mloc led (Str.ofString n) V
structure RelD (cx : Cx) (ρ : Map) (hid : Hd) (fz led : Led) (m mloc : Str → Option Value) (st : St) (s : Shared) : Prop where
  F : Fr cx.h₀ cx.L s.heap m
  N : News cx.h₀ cx.L s.heap led
  B : Bear cx ρ hid fz led m mloc st
  gens : s.gens = #[]
  os : s.os = cx.os
  tk : 0 < s.toks
def Rel (cx : Cx) (ρ : Map) (hid : Hd) (st : St) (s : Shared) : Prop := ∃ fz led m mloc, RelD cx ρ hid fz led m mloc st s
theorem Rel.pos {cx : Cx} {ρ : Map} {hid : Hd} {st : St} {s : Shared} (x : Rel cx ρ hid st s) : 0 < s.toks := by
  obtain ⟨_, _, _, _, x⟩ := x
  exact x.tk
/-- tokens never shrink -/
theorem lf {α : Type} {M : Model} {A : Around} {t : Sem α} {Q : α → Shared → Prop} {E : Value → Shared → Prop} {s : Shared} (x : 0 < s.toks) (h : wpAny M A t (fun a s' => 0 < s'.toks → Q a s') E s) : wpAny M A t Q E s :=
  wpAny_toks x (wpAny_mono h (fun _ _ k => k) fun _ _ k _ => k)
def Sim {α β : Type} (cx : Cx) (t : Sem α) (m : PM β) (R : Map → β → α → Prop) : Prop :=
  ∀ ρ hid st s, Rel cx ρ hid st s → ∀ b st', m st = .ok b st' →
    wpAny cx.M cx.A t (fun a s' => ∃ ρ', ρ <+: ρ' ∧ Rel cx ρ' hid st' s' ∧ R ρ' b a) (fun _ _ => False) s
abbrev SimV (cx : Cx) (t : Sem Value) (m : PM V) : Prop := Sim cx t m VR
end Mine
namespace Mine
theorem AR.mono {ρ ρ' : Map} (h : ρ <+: ρ') {a : String × V} {e : DictEntry} (x : AR ρ a e) : AR ρ' a e := ⟨x.1, x.2.mono h⟩
theorem DR.mono {ρ ρ' : Map} (h : ρ <+: ρ') {a : List Nat × V} {e : Str × Value} (x : DR ρ a e) : DR ρ' a e := ⟨x.1, x.2.mono h⟩
theorem Lam.mono {ρ ρ' : Map} {fz fz' : Led} {f : FuncBody × Arguments × Scope × Str} {cs : List (String × V)} {fd : FuncData} (h : ρ <+: ρ') (hf : ∀ q ∈ fz, q ∈ fz') (x : Lam ρ fz f cs fd) : Lam ρ' fz' f cs fd := by
  obtain ⟨a1, a2, a3, a4, a5, a6, a7, a8, ⟨c, o, b1, b2, b3⟩, kf, k, kk, ki⟩ := x
  refine ⟨a1, a2, a3, a4, a5, a6, a7, a8, ⟨c, o, b1, hf _ b2, b3⟩, kf, fun n v e => ?_, fun x c e => ?_, ki⟩
  · obtain ⟨c, o, V, k1, k2, k3, k4⟩ := k n v e
    exact ⟨c, o, V, k1, hf _ k2, k3, k4.mono h⟩
  · obtain ⟨o, V, k1, k2⟩ := kk x c e
    exact ⟨o, V, hf _ k1, k2⟩
theorem OAt.mono {cx : Cx} {ρ ρ' : Map} {fz fz' led led' : Led} {p : Addr × Addr} {o : O} (h : ρ <+: ρ') (hf : ∀ q ∈ fz, q ∈ fz')
    (hl : ∀ b ob, (b, ob) ∈ led → b = p.1 ∨ b = p.2 → (b, ob) ∈ led') (x : OAt cx ρ fz led p o) : OAt cx ρ' fz' led' p o := by
  cases o with
  | list xs => obtain ⟨Xs, n, a, b⟩ := x; exact ⟨Xs, n, a.mono h, hl _ _ b (.inl rfl)⟩
  | tuple xs => obtain ⟨Xs, n, a, b⟩ := x; exact ⟨Xs, n, a.mono h, hl _ _ b (.inl rfl)⟩
  | inst as => obtain ⟨Es, n, a, c, b, d⟩ := x; exact ⟨Es, n, Paired.imp (fun _ _ => AR.mono h) a, c, hl _ _ b (.inl rfl), hl _ _ d (.inr rfl)⟩
  | dict es => obtain ⟨o, kvs, a, d, c, b⟩ := x; exact ⟨o, kvs, Paired.imp (fun _ _ => DR.mono h) a, d, c, hl _ _ b (.inl rfl)⟩
  | range a b c => obtain ⟨A, B, S, x1, x2, x3, x4⟩ := x; exact ⟨A, B, S, x1.mono h, x2.mono h, x3.mono h, hl _ _ x4 (.inl rfl)⟩
  | slice a b c => obtain ⟨A, B, S, x1, x2, x3, x4⟩ := x; exact ⟨A, B, S, x1.mono h, x2.mono h, x3.mono h, hl _ _ x4 (.inl rfl)⟩
  | clos cs => obtain ⟨fd, x1, x2⟩ := x; exact ⟨fd, hl _ _ x1 (.inl rfl), x2.mono h hf⟩
  | ctab =>
    obtain ⟨x0, ps, more, x1, x2, x3, x4⟩ := x
    refine ⟨x0, ps, more, x1, x2, hl _ _ x3 (.inl rfl), ?_⟩
    rcases x4 with x4 | ⟨c, o, y1, y2, y3⟩
    · exact .inl x4
    · exact .inr ⟨c, o, y1, hf _ y2, y3⟩
theorem BoundTo.mono {env : Env} {mloc : Str → Option Value} {led led' : Led} {x : Str} {V : Value} (hl : ∀ c o, env.cells.lookup x = some c → (c, o) ∈ led → (c, o) ∈ led') (h : BoundTo env mloc led x V) : BoundTo env mloc led' x V := by
  rcases h with h | ⟨hk, c, o, h1, h2, h3⟩
  · exact .inl h
  · exact .inr ⟨hk, c, o, h1, hl c o h1 h2, h3⟩
theorem mem_of_get {ρ : Map} {i : Nat} {p : Addr × Addr} (h : ρ[i]? = some p) : p ∈ ρ := List.mem_of_getElem? h
/-- one object's place in the ledger bears another object -/
def updL (d : Addr) (ob : Obj) (led : Led) : Led := led.map fun q => if q.1 = d then (d, ob) else q
theorem updL_fst (d : Addr) (ob : Obj) (led : Led) : (updL d ob led).map (·.1) = led.map (·.1) := by
  unfold updL
  rw [List.map_map]
  refine List.map_congr_left fun q _ => ?_
  show (if q.1 = d then (d, ob) else q).1 = q.1
  split
  · rename_i h; exact h.symm
  · rfl
theorem mem_updL_ne {d b : Addr} {ob o : Obj} {led : Led} (h : (b, o) ∈ led) (hne : b ≠ d) : (b, o) ∈ updL d ob led := by
  refine List.mem_map.mpr ⟨(b, o), h, ?_⟩
  show (if b = d then (d, ob) else (b, o)) = (b, o)
  rw [if_neg hne]
theorem mem_updL_self {d : Addr} {ob o : Obj} {led : Led} (h : (d, o) ∈ led) : (d, ob) ∈ updL d ob led := by
  refine List.mem_map.mpr ⟨(d, o), h, ?_⟩
  show (if d = d then (d, ob) else (d, o)) = (d, ob)
  rw [if_pos rfl]
theorem upd_of {d : Addr} {o : Obj} (ob : Obj) : ∀ {led : Led}, (d, o) ∈ led → (led.map (·.1)).Nodup → Upd d o ob led (updL d ob led)
  | q :: r, hm, hn => by
    rw [List.map_cons, List.nodup_cons] at hn
    by_cases hq : q.1 = d
    · have hr : ∀ p ∈ r, p.1 ≠ d := fun p hp e => hn.1 (by rw [hq, ← e]; exact List.mem_map_of_mem hp)
      have hqe : q = (d, o) := by
        rcases List.mem_cons.mp hm with e | e
        · exact e.symm
        · exact absurd rfl (hr _ e)
      subst hqe
      have e : updL d ob ((d, o) :: r) = (d, ob) :: r := by
        unfold updL
        rw [List.map_cons]
        have : r.map (fun q => if q.1 = d then (d, ob) else q) = r := by
          conv => rhs; rw [← List.map_id r]
          exact List.map_congr_left fun p hp => by rw [if_neg (hr p hp)]; rfl
        rw [this]; simp
      rw [e]
      exact .head hr
    · have hm' : (d, o) ∈ r := by
        rcases List.mem_cons.mp hm with e | e
        · exact absurd (by rw [← e]) hq
        · exact e
      have e : updL d ob (q :: r) = q :: updL d ob r := by unfold updL; rw [List.map_cons, if_neg hq]
      rw [e]
      exact .tail hq (upd_of ob hm' hn.2)
theorem nodup_mem {led : Led} (hn : (led.map (·.1)).Nodup) {b : Addr} {o o' : Obj} (h : (b, o) ∈ led) (h' : (b, o') ∈ led) : o = o' := by
  induction led with
  | nil => cases h
  | cons q r ih =>
    rw [List.map_cons, List.nodup_cons] at hn
    rcases List.mem_cons.mp h with e | e <;> rcases List.mem_cons.mp h' with e' | e'
    · exact (Prod.mk.inj (e.trans e'.symm)).2
    · exact absurd (List.mem_map_of_mem (f := (·.1)) e') (by rw [← e] at hn; exact hn.1)
    · exact absurd (List.mem_map_of_mem (f := (·.1)) e) (by rw [← e'] at hn; exact hn.1)
    · exact ih hn.2 e e'
section
variable {cx : Cx} {ρ : Map} {hid : Hd} {fz led : Led} {m mloc : Str → Option Value} {st : St}
/-- an object of the store changes -/
theorem Bear.upd (B : Bear cx ρ hid fz led m mloc st) {i : Nat} {p : Addr × Addr} {d : Addr} {ob : Obj} {o : O} (hp : ρ[i]? = some p) (hd : d = p.1 ∨ d = p.2)
    (ho : OAt cx ρ fz (updL d ob led) p o) : Bear cx ρ hid fz (updL d ob led) m mloc { st with sto := st.sto.set i o } := by
  have hpm := mem_of_get hp
  refine ⟨by rw [updL_fst]; exact B.nd, B.cm, ?_, by rw [List.length_set]; exact B.len, fun q hq => by rw [updL_fst]; exact B.own q hq, fun j o' q hj hq => ?_, B.sep, fun q hq => ?_, B.hsep, fun x c hc => ?_, B.csep, fun q hq => ?_, B.fz0, B.hfz, B.fsep, B.fcel, fun n v hv => ?_⟩
  · rcases B.ln with h | ⟨h1, o', es, ep, h2, h3, h4, h5, h6, h7, h8, h9⟩
    · exact .inl h
    · refine .inr ⟨h1, o', es, ep, mem_updL_ne h2 fun e => ?_, h3, h4, h5, h6, h7, h8, h9⟩
      rcases hd with hd | hd
      · exact (h6 p hpm).1 (hd.symm.trans e.symm)
      · exact (h6 p hpm).2 (hd.symm.trans e.symm)
  · by_cases hij : j = i
    · subst hij
      have : q = p := Option.some.inj (hq.symm.trans hp)
      subst this
      have hlt : j < st.sto.length := by
        rcases Nat.lt_or_ge j st.sto.length with z | z
        · exact z
        · rw [← B.len] at z; rw [List.getElem?_eq_none z] at hp; cases hp
      rw [List.getElem?_set_self hlt] at hj
      cases hj
      exact ho
    · rw [List.getElem?_set_ne (Ne.symm hij)] at hj
      refine (B.obj j o' q hj hq).mono (List.prefix_refl _) (fun _ h => h) fun b ob' hb hbq => mem_updL_ne hb fun e => ?_
      have s := B.sep j i q p hq hp hij
      rcases hbq with rfl | rfl <;> rcases hd with rfl | rfl
      · exact s.1 e
      · exact s.2.1 e
      · exact s.2.2.1 e
      · exact s.2.2.2 e
  · refine mem_updL_ne (B.hin q hq) fun e => ?_
    have := B.hsep q hq p hpm
    rcases hd with rfl | rfl
    · exact this.1 e
    · exact this.2 e
  · obtain ⟨o', v, h1, h2⟩ := B.cel x c hc
    refine ⟨o', v, mem_updL_ne h1 fun e => ?_, h2⟩
    have := (B.csep x c hc).2 p hpm
    rcases hd with rfl | rfl
    · exact this.1 e.symm
    · exact this.2 e.symm
  · refine mem_updL_ne (B.fin q hq) fun e => ?_
    have := B.fsep q hq p hpm
    rcases hd with rfl | rfl
    · exact this.1 e
    · exact this.2 e
  · obtain ⟨V, h1, h2⟩ := B.loc n v hv
    refine ⟨V, h1, h2.mono fun c o' hc hm => mem_updL_ne hm fun e => ?_⟩
    have := (B.csep _ c hc).2 p hpm
    rcases hd with rfl | rfl
    · exact this.1 e.symm
    · exact this.2 e.symm
/-- the ledger grows by something that is not told -/
theorem Bear.more (B : Bear cx ρ hid fz led m mloc st) {a : Addr} {ob : Obj} (ha : ∀ q ∈ led, q.1 ≠ a) : Bear cx ρ hid fz ((a, ob) :: led) m mloc st := by
  refine ⟨?_, B.cm, ?_, B.len, fun q hq => ⟨.tail _ (B.own q hq).1, .tail _ (B.own q hq).2⟩, fun i o p h1 h2 => (B.obj i o p h1 h2).mono (List.prefix_refl _) (fun _ h => h) fun _ _ h _ => .tail _ h, B.sep, fun q hq => .tail _ (B.hin q hq), B.hsep, fun x c hc => ?_, B.csep, fun q hq => .tail _ (B.fin q hq), B.fz0, B.hfz, B.fsep, B.fcel, fun n v hv => ?_⟩
  · rw [List.map_cons, List.nodup_cons]
    refine ⟨fun h => ?_, B.nd⟩
    obtain ⟨q, hq, e⟩ := List.mem_map.mp h
    exact ha q hq e
  · rcases B.ln with h | ⟨h1, o', es, ep, h2, r⟩
    · exact .inl h
    · exact .inr ⟨h1, o', es, ep, .tail _ h2, r⟩
  · obtain ⟨o', v, h1, h2⟩ := B.cel x c hc
    exact ⟨o', v, .tail _ h1, h2⟩
  · obtain ⟨V, h1, h2⟩ := B.loc n v hv
    exact ⟨V, h1, h2.mono fun c o' hc hm => .tail _ hm⟩
/-- something of the ledger enters the store -/
theorem Bear.enter (B : Bear cx ρ hid fz led m mloc st) {p : Addr × Addr} {o : O} (h1 : p.1 ∈ led.map (·.1)) (h2 : p.2 ∈ led.map (·.1)) (hs : ∀ q ∈ ρ, p.1 ≠ q.1 ∧ p.1 ≠ q.2 ∧ p.2 ≠ q.1 ∧ p.2 ≠ q.2)
    (hh : ∀ q ∈ hid.h, q.1 ≠ p.1 ∧ q.1 ≠ p.2) (hf : ∀ q ∈ fz, q.1 ≠ p.1 ∧ q.1 ≠ p.2) (hc : ∀ x c, cx.env.cells.lookup x = some c → p.1 ≠ c ∧ p.2 ≠ c) (hl : cx.env.locals ≠ cx.L → p.1 ≠ cx.env.locals ∧ p.2 ≠ cx.env.locals)
    (ho : OAt cx (ρ ++ [p]) fz led p o) : Bear cx (ρ ++ [p]) hid fz led m mloc { st with sto := st.sto ++ [o] } := by
  have hpre : ρ <+: ρ ++ [p] := List.prefix_append _ _
  have hmem : ∀ q, q ∈ ρ ++ [p] → q ∈ ρ ∨ q = p := fun q hq => by
    rcases List.mem_append.mp hq with h | h
    · exact .inl h
    · exact .inr (List.mem_singleton.mp h)
  have hget : ∀ {i : Nat} {q : Addr × Addr}, (ρ ++ [p])[i]? = some q → (i < ρ.length ∧ ρ[i]? = some q) ∨ (i = ρ.length ∧ q = p) := fun {i q} e => by
    rcases Nat.lt_trichotomy i ρ.length with z | z | z
    · rw [List.getElem?_append_left z] at e; exact .inl ⟨z, e⟩
    · subst z; rw [List.getElem?_append_right (Nat.le_refl _), Nat.sub_self] at e; cases e; exact .inr ⟨rfl, rfl⟩
    · rw [List.getElem?_eq_none (by rw [List.length_append]; exact z)] at e; cases e
  refine ⟨B.nd, B.cm, ?_, by rw [List.length_append, List.length_append, B.len]; rfl, fun q hq => ?_, fun i o' q hi hq => ?_, fun i j q r hq hr hij => ?_, B.hin, fun q hq r hr => ?_, B.cel, fun x c hx => ⟨(B.csep x c hx).1, fun q hq => ?_⟩, B.fin, B.fz0, B.hfz, fun q hq r hr => ?_, B.fcel, fun n v hv => ?_⟩
  · rcases B.ln with h | ⟨g1, o', es, ep, g2, g3, g4, g5, g6, g7⟩
    · exact .inl h
    · refine .inr ⟨g1, o', es, ep, g2, g3, g4, g5, fun q hq => ?_, g7⟩
      rcases hmem q hq with h | rfl
      · exact g6 q h
      · exact hl g1
  · rcases hmem q hq with h | rfl
    · exact B.own q h
    · exact ⟨h1, h2⟩
  · rcases hget hq with ⟨z, e⟩ | ⟨z, rfl⟩
    · rw [List.getElem?_append_left (by rw [← B.len]; exact z)] at hi
      exact (B.obj i o' q hi e).mono hpre (fun _ h => h) fun _ _ h _ => h
    · rw [z, B.len, List.getElem?_append_right (Nat.le_refl _), Nat.sub_self] at hi
      cases hi
      exact ho
  · rcases hget hq with ⟨z, e⟩ | ⟨z, rfl⟩ <;> rcases hget hr with ⟨z', e'⟩ | ⟨z', rfl⟩
    · exact B.sep i j q r e e' hij
    · have := hs q (mem_of_get e); exact ⟨Ne.symm this.1, Ne.symm this.2.2.1, Ne.symm this.2.1, Ne.symm this.2.2.2⟩
    · exact hs r (mem_of_get e')
    · exact absurd (z.trans z'.symm) hij
  · rcases hmem r hr with h | rfl
    · exact B.hsep q hq r h
    · exact hh q hq
  · rcases hmem q hq with h | rfl
    · exact (B.csep x c hx).2 q h
    · exact hc x c hx
  · rcases hmem r hr with h | rfl
    · exact B.fsep q hq r h
    · exact hf q hq
  · obtain ⟨V, a, b⟩ := B.loc n v hv
    exact ⟨V, a.mono hpre, b⟩
/-- a new object of one address -/
theorem Bear.alloc (B : Bear cx ρ hid fz led m mloc st) {a : Addr} {ob : Obj} {o : O} (ha : ∀ q ∈ led, q.1 ≠ a)
    (ho : OAt cx (ρ ++ [(a, a)]) fz ((a, ob) :: led) (a, a) o) : Bear cx (ρ ++ [(a, a)]) hid fz ((a, ob) :: led) m mloc { st with sto := st.sto ++ [o] } := by
  have hin : ∀ b, b ∈ led.map (·.1) → b ≠ a := fun b hb => by
    obtain ⟨q, hq, rfl⟩ := List.mem_map.mp hb
    exact ha q hq
  refine (B.more ha).enter (.head _) (.head _) (fun q hq => ?_) (fun q hq => ?_) (fun q hq => ?_) (fun x c hc => ?_) (fun hl => ?_) ho
  · have := B.own q hq
    exact ⟨Ne.symm (hin _ this.1), Ne.symm (hin _ this.2), Ne.symm (hin _ this.1), Ne.symm (hin _ this.2)⟩
  · exact ⟨ha q (B.hin q hq), ha q (B.hin q hq)⟩
  · exact ⟨ha q (B.fin q hq), ha q (B.fin q hq)⟩
  · obtain ⟨o', v, h1, _⟩ := B.cel x c hc
    exact ⟨Ne.symm (ha _ h1), Ne.symm (ha _ h1)⟩
  · rcases B.ln with h | ⟨_, o', es, ep, h2, _⟩
    · exact absurd h.1 hl
    · exact ⟨Ne.symm (ha _ h2), Ne.symm (ha _ h2)⟩
end
end Mine
namespace Mine
theorem char_inj {a b : Char} (h : a.toNat = b.toNat) : a = b := by
  apply Char.ext
  apply UInt32.toNat_inj.mp
  exact h
theorem ofString_inj {a b : String} (h : Str.ofString a = Str.ofString b) : a = b := by
  rw [Str.ofString_eq_toList, Str.ofString_eq_toList] at h
  have h1 : (a.toList.map Char.toNat) = (b.toList.map Char.toNat) := by
    have := congrArg Str.cps h
    simpa using this
  have h2 : a.toList = b.toList := by
    have : ∀ (l l' : List Char), l.map Char.toNat = l'.map Char.toNat → l = l' := by
      intro l
      induction l with
      | nil => intro l' e; cases l' with | nil => rfl | cons x r => simp at e
      | cons x r ih => intro l' e; cases l' with
        | nil => simp at e
        | cons y r' =>
          simp only [List.map_cons, List.cons.injEq] at e
          rw [char_inj e.1, ih r' e.2]
    exact this _ _ h1
  exact String.toList_inj.mp h2
/-- going on behind a step -/
theorem wp_seq {α β : Type} {cx : Cx} {A : Around} {t : Sem α} {ρ : Map} {hid : Hd} {st' : St} {b : β} {R : Map → β → α → Prop} {s : Shared} {Q : α → Shared → Prop} {E : Value → Shared → Prop}
    (h : wpAny cx.M A t (fun a s' => ∃ ρ', ρ <+: ρ' ∧ Rel cx ρ' hid st' s' ∧ R ρ' b a) (fun _ _ => False) s)
    (k : ∀ a s' ρ', ρ <+: ρ' → Rel cx ρ' hid st' s' → R ρ' b a → Q a s') : wpAny cx.M A t Q E s :=
  wpAny_mono h (fun a s' x => let ⟨ρ', h1, h2, h3⟩ := x; k a s' ρ' h1 h2 h3) (fun _ _ f => f.elim)
theorem pre_refl (ρ : Map) : ρ <+: ρ := List.prefix_refl ρ
theorem pre_trans {a b c : Map} (x : a <+: b) (y : b <+: c) : a <+: c := List.IsPrefix.trans x y
section
variable {cx : Cx} {ρ : Map} {hid : Hd} {fz led : Led} {m mloc : Str → Option Value} {st : St} {s : Shared}
theorem RelD.nl (r : RelD cx ρ hid fz led m mloc st s) : s.heap.Ns cx.env.locals mloc := by
  rcases r.B.ln with ⟨h1, h2⟩ | ⟨_, o, es, ep, h2, h3, h4, h5, _⟩
  · rw [h1, h2]; exact r.F.ns
  · exact ⟨o, es, ep, (r.N _ h2).1, h3, h4, h5⟩
theorem RelD.rel (r : RelD cx ρ hid fz led m mloc st s) : Rel cx ρ hid st s := ⟨fz, led, m, mloc, r⟩
/-- only the heap and the tokens change -/
theorem RelD.go {h' : Heap} {tk : Nat} {ρ' : Map} {fz' led' : Led} {m' mloc' : Str → Option Value} {st' : St} (r : RelD cx ρ hid fz led m mloc st s)
    (F : Fr cx.h₀ cx.L h' m') (N : News cx.h₀ cx.L h' led') (B : Bear cx ρ' hid fz' led' m' mloc' st') (htk : 0 < tk := by first | assumption | exact Nat.succ_pos _ | exact Rel.pos (by assumption) | exact RelD.tk (by assumption)) : RelD cx ρ' hid fz' led' m' mloc' st' { s with heap := h', toks := tk } :=
  ⟨F, N, B, r.gens, r.os, htk⟩
theorem Rel.toks (r : Rel cx ρ hid st s) (tk : Nat) (htk : 0 < tk := by first | assumption | exact Nat.succ_pos _ | exact Rel.pos (by assumption) | exact RelD.tk (by assumption)) : Rel cx ρ hid st { s with toks := tk } := by
  obtain ⟨fz, led, m, mloc, r⟩ := r
  exact ⟨fz, led, m, mloc, r.F, r.N, r.B, r.gens, r.os, htk⟩
theorem News.updL {h₀ h h' : Heap} {L d : Addr} {led : Led} {o ob : Obj} (N : News h₀ L h led) (hm : (d, o) ∈ led) (hs : Heap.SameBut d h h') (ho : h'.get? d = some ob) : News h₀ L h' (updL d ob led) := fun q hq => by
  obtain ⟨p, hp, e⟩ := List.mem_map.mp hq
  by_cases hd : p.1 = d
  · rw [if_pos hd] at e
    subst e
    have := N _ hm
    exact ⟨ho, this.2.1, this.2.2⟩
  · rw [if_neg hd] at e
    subst e
    have := N _ hp
    exact ⟨(hs.2 _ hd).trans this.1, this.2⟩
theorem Fr.sameBut {h₀ h h' : Heap} {L d : Addr} {m : Str → Option Value} (F : Fr h₀ L h m) (hs : Heap.SameBut d h h') (hd : d ≠ L) (hn : h₀.get? d = none) : Fr h₀ L h' m :=
  ⟨F.ns.sameBut hs (Ne.symm hd), fun b o e => (hs.2 b (fun q => by rw [q, hn] at e; cases e)).trans (F.keep b o e), F.above⟩
theorem Bear.setF (B : Bear cx ρ hid fz led m mloc st) (hL : cx.env.locals = cx.L) {n : String} {v : V} {W : Value} (hk : cx.env.kindOf (Str.ofString n) = some .local) (hv : VR ρ v W) :
    Bear cx ρ hid fz led (fun y => if y = Str.ofString n then some W else m y) (fun y => if y = Str.ofString n then some W else m y) { st with loc := fun k => if k = n then some v else st.loc k } := by
  have hm : mloc = m := by
    rcases B.ln with h | h
    · exact h.2
    · exact absurd hL h.1
  refine ⟨B.nd, fun h => absurd hL h, .inl ⟨hL, rfl⟩, B.len, B.own, B.obj, B.sep, B.hin, B.hsep, B.cel, B.csep, B.fin, B.fz0, B.hfz, B.fsep, B.fcel, fun k w hw => ?_⟩
  by_cases hkn : k = n
  · subst hkn
    simp only [if_true] at hw
    cases hw
    exact ⟨W, hv, .inl ⟨hk, by simp⟩⟩
  · simp only [if_neg hkn] at hw
    obtain ⟨V', h1, h2⟩ := B.loc k w hw
    refine ⟨V', h1, ?_⟩
    rcases h2 with ⟨a, b⟩ | b
    · exact .inl ⟨a, (if_neg (fun e => hkn (ofString_inj e))).trans (by rw [← hm]; exact b)⟩
    · exact .inr b
theorem Bear.setC (B : Bear cx ρ hid fz led m mloc st) (hL : cx.env.locals ≠ cx.L) {n : String} {v : V} {W : Value} {o' : Obj} {es' : Array DictEntry} {ep' : Nat} (hk : cx.env.kindOf (Str.ofString n) = some .local) (hv : VR ρ v W)
    (hd : o'.data = .dict es' ep') (hs : StrKeys es') (hf : ∀ y, nsFind es' y = if y = Str.ofString n then some W else mloc y) :
    Bear cx ρ hid fz (Mine.updL cx.env.locals o' led) m (fun y => if y = Str.ofString n then some W else mloc y) { st with loc := fun k => if k = n then some v else st.loc k } := by
  rcases B.ln with h | ⟨_, o, es, ep, g2, g3, g4, g5, g6, g7, g8, g9⟩
  · exact absurd h.1 hL
  refine ⟨by rw [updL_fst]; exact B.nd, B.cm, .inr ⟨hL, o', es', ep', mem_updL_self g2, hd, hs, hf, g6, g7, g8, g9⟩, B.len, fun q hq => by rw [updL_fst]; exact B.own q hq, fun i ob p h1 h2 => ?_, B.sep, fun q hq => mem_updL_ne (B.hin q hq) (g7 q hq), B.hsep, fun x c hc => ?_, B.csep, fun q hq => mem_updL_ne (B.fin q hq) (g8 q hq), B.fz0, B.hfz, B.fsep, B.fcel, fun k w hw => ?_⟩
  · refine (B.obj i ob p h1 h2).mono (pre_refl _) (fun _ h => h) fun b ob' hb hbp => mem_updL_ne hb ?_
    have := g6 p (mem_of_get h2)
    rcases hbp with rfl | rfl
    · exact this.1
    · exact this.2
  · obtain ⟨ob, v', h1, h2⟩ := B.cel x c hc
    exact ⟨ob, v', mem_updL_ne h1 fun e => g9 x (e ▸ hc), h2⟩
  · by_cases hkn : k = n
    · subst hkn
      simp only [if_true] at hw
      cases hw
      exact ⟨W, hv, .inl ⟨hk, by simp⟩⟩
    · simp only [if_neg hkn] at hw
      obtain ⟨V', h1, h2⟩ := B.loc k w hw
      refine ⟨V', h1, ?_⟩
      rcases h2 with ⟨a, b⟩ | ⟨a, c, ob, b1, b2, b3⟩
      · exact .inl ⟨a, (if_neg (fun e => hkn (ofString_inj e))).trans b⟩
      · exact .inr ⟨a, c, ob, b1, mem_updL_ne b2 fun e => g9 _ (e ▸ b1), b3⟩
theorem Bear.setCell (B : Bear cx ρ hid fz led m mloc st) (hci : ∀ x y c, cx.env.cells.lookup x = some c → cx.env.cells.lookup y = some c → x = y) (hfzn : cx.fzn = false) {n : String} {v : V} {W : Value} {c : Addr} {o' : Obj}
    (hk : cx.env.kindOf (Str.ofString n) = some .cell) (hc : cx.env.cells.lookup (Str.ofString n) = some c) (hv : VR ρ v W) (hd : o'.data = .cell (some W)) :
    Bear cx ρ hid fz (Mine.updL c o' led) m mloc { st with loc := fun k => if k = n then some v else st.loc k } := by
  obtain ⟨oc, vc, hcm, hcd⟩ := B.cel _ _ hc
  have hcs := B.csep _ _ hc
  refine ⟨by rw [updL_fst]; exact B.nd, B.cm, ?_, B.len, fun q hq => by rw [updL_fst]; exact B.own q hq, fun i ob p h1 h2 => ?_, B.sep, fun q hq => mem_updL_ne (B.hin q hq) (hcs.1 q hq), B.hsep, fun x d hx => ?_, B.csep, fun q hq => mem_updL_ne (B.fin q hq) fun e => B.fcel hfzn q hq _ hk (e ▸ hc), B.fz0, B.hfz, B.fsep, B.fcel, fun k w hw => ?_⟩
  · rcases B.ln with h | ⟨g1, o, es, ep, g2, g3, g4, g5, g6, g7, g8, g9⟩
    · exact .inl h
    · exact .inr ⟨g1, o, es, ep, mem_updL_ne g2 fun e => g9 _ (e ▸ hc), g3, g4, g5, g6, g7, g8, g9⟩
  · refine (B.obj i ob p h1 h2).mono (pre_refl _) (fun _ h => h) fun b ob' hb hbp => mem_updL_ne hb ?_
    have := hcs.2 p (mem_of_get h2)
    rcases hbp with rfl | rfl
    · exact this.1
    · exact this.2
  · by_cases hdc : d = c
    · subst hdc
      exact ⟨o', some W, mem_updL_self hcm, hd⟩
    · obtain ⟨ob, v', h1, h2⟩ := B.cel x d hx
      exact ⟨ob, v', mem_updL_ne h1 hdc, h2⟩
  · by_cases hkn : k = n
    · subst hkn
      simp only [if_true] at hw
      cases hw
      exact ⟨W, hv, .inr ⟨.inl hk, c, o', hc, mem_updL_self hcm, hd⟩⟩
    · simp only [if_neg hkn] at hw
      obtain ⟨V', h1, h2⟩ := B.loc k w hw
      refine ⟨V', h1, ?_⟩
      rcases h2 with h2 | ⟨a, d, ob, b1, b2, b3⟩
      · exact .inl h2
      · exact .inr ⟨a, d, ob, b1, mem_updL_ne b2 (fun e => hkn (ofString_inj (hci _ _ d b1 (e ▸ hc)))), b3⟩
end
/-- locals -/
def getL (n : String) : PM V := fun st => match st.loc n with
  | some v => .ok v st
  | none => .fail
def setL (n : String) (v : V) : PM Unit := fun st => .ok () { st with loc := fun k => if k = n then some v else st.loc k }
theorem load_name {cx : Cx} (ok : cx.Ok) {n : String} {ρ : Map} {hid : Hd} {st : St} {s : Shared} (r : Rel cx ρ hid st s) {v : V} (hv : st.loc n = some v) (hcd : (Str.ofString n == ("__classdict__" : Str)) = false) {Q : Value → Shared → Prop} {E : Value → Shared → Prop} {A : Around}
    (h : ∀ W, VR ρ v W → Q W s) : wpAny cx.M A (loadName cx.env (Str.ofString n)) Q E s := by
  obtain ⟨fz, led, m, mloc, r⟩ := r
  obtain ⟨W, hw, hb⟩ := r.B.loc n v hv
  rcases hb with ⟨hk, hm⟩ | ⟨hk | hk, c, o, h1, h2, h3⟩
  · exact wpAny_loadName_local ok.kind hk r.nl hm (h W hw)
  · exact wpAny_loadName_cell ok.kind hk h1 ⟨o, (r.N _ h2).1, h3⟩ (h W hw)
  · exact wpAny_loadName_free ok.kind hk h1 ⟨o, (r.N _ h2).1, h3⟩ (h W hw) hcd
theorem sim_Name {cx : Cx} (ok : cx.Ok) {n : String} {pos : Pos} (hd : (Str.ofString n == ("__debug__" : Str)) = false) (hcd : (Str.ofString n == ("__classdict__" : Str)) = false) : SimV cx (eval (.Name (Str.ofString n) pos) cx.env) (getL n) := by
  intro ρ hid st s r v st' e
  unfold getL at e
  cases hv : st.loc n with
  | none => rw [hv] at e; cases e
  | some w =>
    rw [hv] at e
    cases e
    exact wpAny_Name (load_name ok r hv hcd fun W hw => ⟨ρ, pre_refl ρ, r, hw⟩) hd
/-- a name that may be bound: of the block's own, or a cell that no function made here keeps -/
abbrev Asg (cx : Cx) (n : String) : Prop := cx.env.kindOf (Str.ofString n) = some .local ∨ (cx.env.kindOf (Str.ofString n) = some .cell ∧ (cx.env.cells.lookup (Str.ofString n)).isSome = true ∧ cx.fzn = false)
theorem store_name {cx : Cx} (ok : cx.Ok) {n : String} {ρ : Map} {hid : Hd} {st : St} {s : Shared} {v : V} {W : Value} (r : Rel cx ρ hid st s) (hv : VR ρ v W)
    (hk : Asg cx n) {Q : Unit → Shared → Prop} {E : Value → Shared → Prop} {A : Around}
    (h : ∀ s', Rel cx ρ hid { st with loc := fun k => if k = n then some v else st.loc k } s' → Q () s') : wpAny cx.M A (storeName cx.env (Str.ofString n) W) Q E s := by
  obtain ⟨fz, led, m, mloc, r⟩ := r
  rcases hk with hk | ⟨hk, hc, hfzn⟩
  · by_cases hL : cx.env.locals = cx.L
    · refine wpAny_storeName_local hk r.nl (fun h' hn hs => h _ ?_) (by rw [ok.kind]; rfl)
      have hm : mloc = m := by
        rcases r.B.ln with z | z
        · exact z.2
        · exact absurd hL z.1
      subst hm
      refine RelD.rel (r.go ?_ (r.N.set (hL ▸ hs)) (r.B.setF hL hk hv))
      exact r.F.set (hL ▸ hn) (hL ▸ hs)
    · refine wpAny_storeName_local hk r.nl (fun h' hn hs => h _ ?_) (by rw [ok.kind]; rfl)
      obtain ⟨o', es', ep', q1, q2, q3, q4⟩ := hn
      rcases r.B.ln with z | ⟨_, o, es, ep, g2, _⟩
      · exact absurd z.1 hL
      have hg := r.N _ g2
      exact RelD.rel (r.go (Fr.sameBut r.F hs hL hg.2.2) (News.updL r.N g2 hs q1) (r.B.setC hL hk hv q2 q3 q4))
  · obtain ⟨c, hc⟩ := Option.isSome_iff_exists.mp hc
    obtain ⟨o, v₀, g1, g2⟩ := r.B.cel _ _ hc
    have hg := r.N _ g1
    refine wpAny_storeName_cell ok.kind hk hc ⟨o, hg.1, g2⟩ fun h' hcell hs => h _ ?_
    obtain ⟨o', q1, q2⟩ := hcell
    exact RelD.rel (r.go (tk := s.toks) (Fr.sameBut r.F hs hg.2.1 hg.2.2) (News.updL r.N g1 hs q1) (r.B.setCell ok.cinj hfzn hk hc hv q2))
/-- globals and built-ins -/
theorem sim_Global {cx : Cx} (ok : cx.Ok) {x : Str} {pos : Pos} {u : Value} (hx : cx.env.kindOf x = some .globalImplicit) (e : nsIn cx.K mainGlobals x = some (some u)) (hd : (x == ("__debug__" : Str)) = false) :
    SimV cx (eval (.Name x pos) cx.env) (PM.pure (.glob u)) := by
  intro ρ hid st s r v st' h
  cases h
  obtain ⟨fz, led, m, mloc, r'⟩ := id r
  refine Name_function_global ok.kind hx (loadGlobal_global (mg := cx.mg) (v := u) (by rw [ok.globals]; exact ok.top.g.keeps r'.F.keep) (mg_of ok.kin ok.top.g e) ⟨ρ, pre_refl ρ, r, .glob u⟩) hd
theorem sim_Builtin {cx : Cx} (ok : cx.Ok) {x : Str} {pos : Pos} {u : Value} (hx : cx.env.kindOf x = some .globalImplicit) (e : nsIn cx.K mainGlobals x = some none) (hb : bootBuiltins x = some u) (hn : x ≠ "__name__") (hd : (x == ("__debug__" : Str)) = false) :
    SimV cx (eval (.Name x pos) cx.env) (PM.pure (.glob u)) := by
  intro ρ hid st s r v st' h
  cases h
  obtain ⟨fz, led, m, mloc, r'⟩ := id r
  refine Name_function_global ok.kind hx (loadGlobal_builtin (mg := cx.mg) (mb := cx.mb) (v := u) (by rw [ok.globals]; exact ok.top.g.keeps r'.F.keep) (mg_none_of ok.kin ok.top.g e) (by rw [ok.builtins]; exact ok.top.b.keeps r'.F.keep) ((ok.top.builtins x hn).trans hb) ⟨ρ, pre_refl ρ, r, .glob u⟩) hd
/-- literals -/
theorem sim_int {cx : Cx} {i : Int} {k : Nat} {pos : Pos} : SimV cx (eval (.Constant (.int i) k pos) cx.env) (PM.pure (.int i)) := by
  intro ρ hid st s r v st' h; cases h
  exact fun _ _ _ => ⟨ρ, pre_refl ρ, r.toks _, .int i s.toks⟩
theorem sim_bool {cx : Cx} {b : Bool} {k : Nat} {pos : Pos} : SimV cx (eval (.Constant (.bool b) k pos) cx.env) (PM.pure (.bool b)) := by
  intro ρ hid st s r v st' h; cases h
  exact fun _ _ _ => ⟨ρ, pre_refl ρ, r, .bool b⟩
theorem sim_none {cx : Cx} {k : Nat} {pos : Pos} : SimV cx (eval (.Constant .none k pos) cx.env) (PM.pure .none) := by
  intro ρ hid st s r v st' h; cases h
  exact fun _ _ _ => ⟨ρ, pre_refl ρ, r, .none⟩
/-- the signs of a text -/
abbrev cps (x : String) : List Nat := (Str.ofString x).cps.toList
theorem str_cps (x : Str) : x = ⟨x.cps.toList.toArray⟩ := by cases x; simp
theorem cps_ok (x : String) : okS (cps x) := by
  intro c hc
  unfold cps at hc
  rw [Str.ofString_eq_toList] at hc
  simp only [List.mem_map] at hc
  obtain ⟨ch, _, rfl⟩ := hc
  have h := ch.valid
  simp only [UInt32.isValidChar, Nat.isValidChar] at h
  have e : ch.toNat = ch.val.toNat := rfl
  omega
theorem sim_str {cx : Cx} {x : String} {k : Nat} {pos : Pos} : SimV cx (eval (.Constant (.str (Str.ofString x)) k pos) cx.env) (PM.pure (.str (cps x))) := by
  intro ρ hid st s r v st' h; cases h
  refine fun _ _ _ => ⟨ρ, pre_refl ρ, r.toks _, ?_⟩
  have := VR.str (ρ := ρ) (cps x) s.toks (cps_ok x)
  rwa [← str_cps] at this
end Mine
namespace Mine
inductive Fl where
  | next | brk | cont
  | ret (v : V)
inductive FR (ρ : Map) : Fl → Flow → Prop
  | next : FR ρ .next .next
  | brk : FR ρ .brk .brk
  | cont : FR ρ .cont .cont
  | ret {v : V} {W : Value} : VR ρ v W → FR ρ (.ret v) (.ret W)
def BR (_ : Map) (a b : Bool) : Prop := a = b
def UR (_ : Map) (_ _ : Unit) : Prop := True
/-- a primitive of one, of two arguments, of a list of them -/
def P1 {α β : Type} (cx : Cx) (t : Value → Sem α) (f : V → PM β) (R : Map → β → α → Prop) : Prop :=
  ∀ ρ hid st s, Rel cx ρ hid st s → ∀ a A, VR ρ a A → ∀ v st', f a st = .ok v st' →
    wpAny cx.M cx.A (t A) (fun V s' => ∃ ρ', ρ <+: ρ' ∧ Rel cx ρ' hid st' s' ∧ R ρ' v V) (fun _ _ => False) s
def P2 {α β : Type} (cx : Cx) (t : Value → Value → Sem α) (f : V → V → PM β) (R : Map → β → α → Prop) : Prop :=
  ∀ ρ hid st s, Rel cx ρ hid st s → ∀ a A b B, VR ρ a A → VR ρ b B → ∀ v st', f a b st = .ok v st' →
    wpAny cx.M cx.A (t A B) (fun V s' => ∃ ρ', ρ <+: ρ' ∧ Rel cx ρ' hid st' s' ∧ R ρ' v V) (fun _ _ => False) s
def PL {α β : Type} (cx : Cx) (t : List Value → Sem α) (f : List V → PM β) (R : Map → β → α → Prop) : Prop :=
  ∀ ρ hid st s, Rel cx ρ hid st s → ∀ vs Vs, VRs ρ vs Vs → ∀ v st', f vs st = .ok v st' →
    wpAny cx.M cx.A (t Vs) (fun V s' => ∃ ρ', ρ <+: ρ' ∧ Rel cx ρ' hid st' s' ∧ R ρ' v V) (fun _ _ => False) s
section
variable {cx : Cx}
theorem sim_BinOp {l r : Expr} {op : Operator} {pos : Pos} {ma mb : PM V} {f : V → V → PM V} (h1 : SimV cx (eval l cx.env) ma) (h2 : SimV cx (eval r cx.env) mb) (hp : P2 cx (binaryOp op) f VR) :
    SimV cx (eval (.BinOp l op r pos) cx.env) (PM.bind ma fun a => PM.bind mb fun b => f a b) := by
  intro ρ hid st s x v st' h
  obtain ⟨a, st1, e1, h⟩ := bind_ok h
  obtain ⟨b, st2, e2, h⟩ := bind_ok h
  refine wpAny_BinOp (wp_seq (h1 ρ hid st s x a st1 e1) fun A s1 ρ1 p1 r1 v1 => wp_seq (h2 ρ1 hid st1 s1 r1 b st2 e2) fun B s2 ρ2 p2 r2 v2 => wp_seq (hp ρ2 hid st2 s2 r2 a A b B (v1.mono p2) v2 v st' h) fun W s3 ρ3 p3 r3 v3 => ?_)
  exact ⟨ρ3, pre_trans p1 (pre_trans p2 p3), r3, v3⟩
theorem sim_Compare {l r : Expr} {op : CmpOp} {pos : Pos} {ma mb : PM V} {f : V → V → PM V} (h1 : SimV cx (eval l cx.env) ma) (h2 : SimV cx (eval r cx.env) mb) (hp : P2 cx (compareOp op) f VR) (hm : behindInMarks op r = false) :
    SimV cx (eval (.Compare l [op] [r] pos) cx.env) (PM.bind ma fun a => PM.bind mb fun b => f a b) := by
  intro ρ hid st s x v st' h
  obtain ⟨a, st1, e1, h⟩ := bind_ok h
  obtain ⟨b, st2, e2, h⟩ := bind_ok h
  refine wpAny_Compare1 (wp_seq (h1 ρ hid st s x a st1 e1) fun A s1 ρ1 p1 r1 v1 => wp_seq (h2 ρ1 hid st1 s1 r1 b st2 e2) fun B s2 ρ2 p2 r2 v2 => wp_seq (hp ρ2 hid st2 s2 r2 a A b B (v1.mono p2) v2 v st' h) fun W s3 ρ3 p3 r3 v3 => ?_) hm
  exact ⟨ρ3, pre_trans p1 (pre_trans p2 p3), r3, v3⟩
/-- tests -/
abbrev SimT (cx : Cx) (e : Expr) (m : PM Bool) : Prop := Sim cx (isTrue e cx.env (eval e cx.env)) m BR
theorem sim_test_Compare {l r : Expr} {op : CmpOp} {pos : Pos} {ma mb : PM V} {f : V → V → PM V} {g : V → PM Bool} (h1 : SimV cx (eval l cx.env) ma) (h2 : SimV cx (eval r cx.env) mb) (hp : P2 cx (compareOp op) f VR) (ht : P1 cx truthy g BR) (hm : behindInMarks op r = false) :
    SimT cx (.Compare l [op] [r] pos) (PM.bind ma fun a => PM.bind mb fun b => PM.bind (f a b) g) := by
  intro ρ hid st s x v st' h
  obtain ⟨a, st1, e1, h⟩ := bind_ok h
  obtain ⟨b, st2, e2, h⟩ := bind_ok h
  obtain ⟨c, st3, e3, h⟩ := bind_ok h
  refine wpAny_isTrue_Compare1 (wp_seq (h1 ρ hid st s x a st1 e1) fun A s1 ρ1 p1 r1 v1 => wp_seq (h2 ρ1 hid st1 s1 r1 b st2 e2) fun B s2 ρ2 p2 r2 v2 => wp_seq (hp ρ2 hid st2 s2 r2 a A b B (v1.mono p2) v2 c st3 e3) fun W s3 ρ3 p3 r3 v3 => wp_seq (ht ρ3 hid st3 s3 r3 c W v3 v st' h) fun W s4 ρ4 p4 r4 v4 => ?_) hm
  exact ⟨ρ4, pre_trans p1 (pre_trans p2 (pre_trans p3 p4)), r4, v4⟩
def andP (m k : PM Bool) : PM Bool := PM.bind m fun b => match b with | true => k | false => PM.pure false
def orP (m k : PM Bool) : PM Bool := PM.bind m fun b => match b with | true => PM.pure true | false => k
abbrev SimA (cx : Cx) (op : BoolOp) (es : List Expr) (m : PM Bool) : Prop := Sim cx (allTrue op es cx.env) m BR
theorem sim_all_nil_or : SimA cx .Or [] (PM.pure false) := by
  intro ρ hid st s x v st' h; cases h
  exact wpAny_pure ⟨ρ, pre_refl ρ, x, rfl⟩
theorem sim_all_or {e : Expr} {es : List Expr} {m k : PM Bool} (h1 : SimT cx e m) (h2 : SimA cx .Or es k) : SimA cx .Or (e :: es) (orP m k) := by
  intro ρ hid st s x v st' h
  obtain ⟨b, st1, e1, h⟩ := bind_ok h
  rw [arm_allTrue_cons]
  refine wpAny_bind (wp_seq (h1 ρ hid st s x b st1 e1) fun c s1 ρ1 p1 r1 v1 => ?_)
  cases v1
  cases b with
  | false => exact wp_seq (h2 ρ1 hid st1 s1 r1 v st' h) fun d s2 ρ2 p2 r2 v2 => ⟨ρ2, pre_trans p1 p2, r2, v2⟩
  | true => cases h; exact wpAny_pure ⟨ρ1, p1, r1, rfl⟩
theorem sim_test_BoolOp {op : BoolOp} {es : List Expr} {pos : Pos} {m : PM Bool} (h : SimA cx op es m) : SimT cx (.BoolOp op es pos) m := h
def iteP {α : Type} (m : PM Bool) (a b : PM α) : PM α := PM.bind m fun c => match c with | true => a | false => b
theorem sim_IfExp {t a b : Expr} {pos : Pos} {m : PM Bool} {ma mb : PM V} (h : SimT cx t m) (h1 : SimV cx (eval a cx.env) ma) (h2 : SimV cx (eval b cx.env) mb) : SimV cx (eval (.IfExp t a b pos) cx.env) (iteP m ma mb) := by
  intro ρ hid st s x v st' e
  obtain ⟨c, st1, e1, e⟩ := bind_ok e
  rw [arm_eval_IfExp]
  refine wpAny_bind (wp_seq (h ρ hid st s x c st1 e1) fun c' s1 ρ1 p1 r1 v1 => ?_)
  cases v1
  cases c with
  | true => exact wp_seq (h1 ρ1 hid st1 s1 r1 v st' e) fun d s2 ρ2 p2 r2 v2 => ⟨ρ2, pre_trans p1 p2, r2, v2⟩
  | false => exact wp_seq (h2 ρ1 hid st1 s1 r1 v st' e) fun d s2 ρ2 p2 r2 v2 => ⟨ρ2, pre_trans p1 p2, r2, v2⟩
/-- lists of arguments -/
abbrev SimL (cx : Cx) (pos : Pos) (es : List Expr) (m : PM (List V)) : Prop := Sim cx (spliced (backTo pos (starEach es cx.env))) m VRs
theorem sim_args_nil {pos : Pos} : SimL cx pos [] (PM.pure []) := by
  intro ρ hid st s x v st' h; cases h
  exact spliced_nil ⟨ρ, pre_refl ρ, x, .nil⟩
theorem sim_args_cons {pos : Pos} {e : Expr} {es : List Expr} {m : PM V} {k : PM (List V)} (h1 : SimV cx (eval e cx.env) m) (h2 : SimL cx pos es k) (he : starEach (e :: es) cx.env = (false, eval e cx.env) :: starEach es cx.env) :
    SimL cx pos (e :: es) (PM.bind m fun v => PM.bind k fun vs => PM.pure (v :: vs)) := by
  intro ρ hid st s x v st' h
  obtain ⟨a, st1, e1, h⟩ := bind_ok h
  obtain ⟨b, st2, e2, h⟩ := bind_ok h
  obtain ⟨rfl, rfl⟩ := pure_ok h
  rw [he]
  refine spliced_cons (wp_seq (h1 ρ hid st s x a st1 e1) fun A s1 ρ1 p1 r1 v1 => ?_)
  refine wp_seq (h2 ρ1 hid st1 s1 r1 b st' e2) fun Bs s2 ρ2 p2 r2 v2 => ?_
  exact ⟨ρ2, pre_trans p1 p2, r2, .cons (v1.mono p2) v2⟩
/-- displays -/
def alloc (o : O) : PM V := fun st => .ok (.obj st.sto.length) { st with sto := st.sto ++ [o] }
def allocList (vs : List V) : PM V := fun st => if vs.length ≤ 1000000 then alloc (.list vs) st else .fail
def allocTuple (vs : List V) : PM V := fun st => if vs.length ≤ 1000000 then alloc (.tuple vs) st else .fail
theorem alloc_get (ρ : Map) (p : Addr × Addr) : (ρ ++ [p])[ρ.length]? = some p := by
  rw [List.getElem?_append_right (Nat.le_refl _), Nat.sub_self]; rfl
theorem news_fresh {h₀ h : Heap} {L : Addr} {led : Led} (N : News h₀ L h led) : ∀ q ∈ led, q.1 ≠ h.objs.size := fun q hq => Nat.ne_of_lt (Heap.lt_size (N q hq).1)
/-- a new object, one address, by a step that pushes it -/
theorem rel_push {ρ : Map} {hid : Hd} {st : St} {s : Shared} (x : Rel cx ρ hid st s) {ob : Obj} {o : O} {tk : Nat} (hf : ob.isFreed = false)
    (ho : ∀ fz led, OAt cx (ρ ++ [(s.heap.objs.size, s.heap.objs.size)]) fz ((s.heap.objs.size, ob) :: led) (s.heap.objs.size, s.heap.objs.size) o) (htk : 0 < tk := by first | assumption | exact Nat.succ_pos _ | exact Rel.pos (by assumption) | exact RelD.tk (by assumption)) :
    Rel cx (ρ ++ [(s.heap.objs.size, s.heap.objs.size)]) hid { st with sto := st.sto ++ [o] } { s with heap := s.heap.push ob, toks := tk } ∧
      VR (ρ ++ [(s.heap.objs.size, s.heap.objs.size)]) (.obj st.sto.length) (.ref s.heap.objs.size) := by
  obtain ⟨fz, led, m, mloc, x⟩ := x
  refine ⟨RelD.rel (x.go (tk := tk) (x.F.push ob) (x.N.push x.F ob hf) (x.B.alloc (news_fresh x.N) (ho fz led))), ?_⟩
  have := VR.obj (alloc_get ρ (s.heap.objs.size, s.heap.objs.size))
  rw [x.B.len] at this
  exact this
/-- a new object that is not told -/
theorem rel_garbage {ρ : Map} {hid : Hd} {st : St} {s : Shared} (x : Rel cx ρ hid st s) {ob : Obj} {tk : Nat} (hf : ob.isFreed = false) (htk : 0 < tk := by first | assumption | exact Nat.succ_pos _ | exact Rel.pos (by assumption) | exact RelD.tk (by assumption)) : Rel cx ρ hid st { s with heap := s.heap.push ob, toks := tk } := by
  obtain ⟨fz, led, m, mloc, x⟩ := x
  exact RelD.rel (x.go (tk := tk) (x.F.push ob) (x.N.push x.F ob hf) (x.B.more (news_fresh x.N)))
theorem new_list {ρ : Map} {hid : Hd} {st st' : St} {s : Shared} (x : Rel cx ρ hid st s) {vs : List V} {Vs : List Value} {v : V} (hv : VRs ρ vs Vs) (h : allocList vs st = .ok v st') {Q : Value → Shared → Prop} {E : Value → Shared → Prop} {A : Around}
    (k : ∀ ρ' W s', ρ <+: ρ' → Rel cx ρ' hid st' s' → VR ρ' v W → Q W s') : wpAny cx.M A (newList Vs) Q E s := by
  unfold allocList at h
  split at h
  · rename_i hl
    cases h
    have hlen : Vs.length ≤ sizeLine := by rw [← hv.length]; exact Nat.le_trans hl (by decide)
    refine wpAny_newObj_type ?_ (by show Vs.toArray.size ≤ sizeLine; rw [List.size_toArray]; exact hlen)
    obtain ⟨a, b⟩ := rel_push (tk := s.toks) x (ob := listObj Vs 0) (o := .list vs) rfl fun fz led => ⟨Vs, 0, hv.mono (List.prefix_append _ _), .head _⟩
    exact k _ _ _ (List.prefix_append _ _) a b
  · cases h
theorem new_tuple {ρ : Map} {hid : Hd} {st st' : St} {s : Shared} (x : Rel cx ρ hid st s) {vs : List V} {Vs : List Value} {v : V} (hv : VRs ρ vs Vs) (h : allocTuple vs st = .ok v st') {Q : Value → Shared → Prop} {E : Value → Shared → Prop} {A : Around}
    (k : ∀ ρ' W s', ρ <+: ρ' → Rel cx ρ' hid st' s' → VR ρ' v W → Q W s') : wpAny cx.M A (newTuple Vs) Q E s := by
  unfold allocTuple at h
  split at h
  · rename_i hl
    cases h
    have hlen : Vs.length ≤ sizeLine := by rw [← hv.length]; exact Nat.le_trans hl (by decide)
    refine wpAny_newObj_type ?_ (by show Vs.toArray.size ≤ sizeLine; rw [List.size_toArray]; exact hlen)
    obtain ⟨a, b⟩ := rel_push (tk := s.toks) x (ob := tupleObj Vs 0) (o := .tuple vs) rfl fun fz led => ⟨Vs, 0, hv.mono (List.prefix_append _ _), .head _⟩
    exact k _ _ _ (List.prefix_append _ _) a b
  · cases h
theorem sim_List {es : List Expr} {pos : Pos} {m : PM (List V)} (h1 : SimL cx pos es m) : SimV cx (eval (.List es pos) cx.env) (PM.bind m allocList) := by
  intro ρ hid st s x v st' h
  obtain ⟨vs, st1, e1, h⟩ := bind_ok h
  refine List_ (wp_seq (h1 ρ hid st s x vs st1 e1) fun Vs s1 ρ1 p1 r1 v1 => new_list r1 v1 h fun ρ' W s' p2 r2 v2 => ⟨ρ', pre_trans p1 p2, r2, v2⟩)
theorem sim_Tuple {es : List Expr} {k : Nat} {pos : Pos} {m : PM (List V)} (h1 : SimL cx pos es m) : SimV cx (eval (.Tuple es k pos) cx.env) (PM.bind m allocTuple) := by
  intro ρ hid st s x v st' h
  obtain ⟨vs, st1, e1, h⟩ := bind_ok h
  refine Tuple_ (wp_seq (h1 ρ hid st s x vs st1 e1) fun Vs s1 ρ1 p1 r1 v1 => new_tuple r1 v1 h fun ρ' W s' p2 r2 v2 => ⟨ρ', pre_trans p1 p2, r2, v2⟩)
/-- statements -/
abbrev SimS (cx : Cx) (s : Stmt) (m : PM Fl) : Prop := Sim cx (exec s cx.env) m FR
abbrev SimSs (cx : Cx) (ss : List Stmt) (m : PM Fl) : Prop := Sim cx (execs ss cx.env) m FR
def seqF (m k : PM Fl) : PM Fl := PM.bind m fun f => match f with
  | .next => k
  | .brk => PM.pure .brk
  | .cont => PM.pure .cont
  | .ret v => PM.pure (.ret v)
theorem sim_nil : SimSs cx [] (PM.pure .next) := by
  intro ρ hid st s x v st' h; cases h
  exact wpAny_execs_nil ⟨ρ, pre_refl ρ, x, .next⟩
theorem sim_cons {a : Stmt} {r : List Stmt} {m k : PM Fl} (h1 : SimS cx a m) (h2 : SimSs cx r k) : SimSs cx (a :: r) (seqF m k) := by
  intro ρ hid st s x v st' h
  obtain ⟨f, st1, e1, h⟩ := bind_ok h
  refine wpAny_execs_cons (wp_seq (h1 ρ hid st s x f st1 e1) fun g s1 ρ1 p1 r1 v1 => ?_)
  cases v1 with
  | next => exact wp_seq (h2 ρ1 hid st1 s1 r1 v st' h) fun d s2 ρ2 p2 r2 v2 => ⟨ρ2, pre_trans p1 p2, r2, v2⟩
  | brk => cases h; exact ⟨ρ1, p1, r1, .brk⟩
  | cont => cases h; exact ⟨ρ1, p1, r1, .cont⟩
  | ret hv => cases h; exact ⟨ρ1, p1, r1, .ret hv⟩
theorem sim_one {a : Stmt} {m : PM Fl} (h1 : SimS cx a m) : SimSs cx [a] m := by
  intro ρ hid st s x v st' h
  refine wpAny_execs_cons (wp_seq (h1 ρ hid st s x v st' h) fun g s1 ρ1 p1 r1 v1 => ?_)
  cases v1 with
  | next => exact wpAny_execs_nil ⟨ρ1, p1, r1, .next⟩
  | brk => exact ⟨ρ1, p1, r1, .brk⟩
  | cont => exact ⟨ρ1, p1, r1, .cont⟩
  | ret hv => exact ⟨ρ1, p1, r1, .ret hv⟩
theorem sim_If {t : Expr} {a b : List Stmt} {pos : Pos} {m : PM Bool} {ma mb : PM Fl} (h : SimT cx t m) (h1 : SimSs cx a ma) (h2 : SimSs cx b mb) : SimS cx (.If t a b pos) (iteP m ma mb) := by
  intro ρ hid st s x v st' e
  obtain ⟨c, st1, e1, e⟩ := bind_ok e
  refine wpAny_If (wp_seq (h ρ hid st s x c st1 e1) fun c' s1 ρ1 p1 r1 v1 => ?_)
  cases v1
  cases c with
  | true => exact wp_seq (h1 ρ1 hid st1 s1 r1 v st' e) fun d s2 ρ2 p2 r2 v2 => ⟨ρ2, pre_trans p1 p2, r2, v2⟩
  | false => exact wp_seq (h2 ρ1 hid st1 s1 r1 v st' e) fun d s2 ρ2 p2 r2 v2 => ⟨ρ2, pre_trans p1 p2, r2, v2⟩
theorem sim_Return {e : Expr} {pos : Pos} {m : PM V} (h : SimV cx (eval e cx.env) m) : SimS cx (.Return (some e) pos) (PM.bind m fun v => PM.pure (.ret v)) := by
  intro ρ hid st s x v st' e
  obtain ⟨a, st1, e1, e⟩ := bind_ok e
  obtain ⟨rfl, rfl⟩ := pure_ok e
  exact wpAny_Return_some (wp_seq (h ρ hid st s x a st' e1) fun A s1 ρ1 p1 r1 v1 => ⟨ρ1, p1, r1, .ret v1⟩)
theorem sim_Assign (ok : cx.Ok) {n : String} {e : Expr} {pos' pos : Pos} {m : PM V} (h : SimV cx (eval e cx.env) m)
    (hk : Asg cx n)
    (hs : swapsWith e (some (.Name (Str.ofString n) pos')) pos.line cx.env = pure false) : SimS cx (.Assign [.Name (Str.ofString n) pos'] e pos) (PM.bind m fun v => PM.bind (setL n v) fun _ => PM.pure .next) := by
  intro ρ hid st s x v st' e
  obtain ⟨a, st1, e1, e⟩ := bind_ok e
  cases e
  exact wpAny_Assign_Name (wp_seq (h ρ hid st s x a st1 e1) fun A s1 ρ1 p1 r1 v1 => store_name ok r1 v1 hk fun s' r' => ⟨ρ1, p1, r', .next⟩) hs
end
end Mine
namespace Mine
def pAdd : V → V → PM V
  | .int a, .int b => PM.pure (.int (a + b))
  | .str a, .str b => fun st => if a.length + b.length ≤ 1000000 then .ok (.str (a ++ b)) st else .fail
  | .obj i, .obj j => fun st => match st.sto[i]?, st.sto[j]? with
    | some (.list xs), some (.list ys) => allocList (xs ++ ys) st
    | _, _ => .fail
  | _, _ => PM.fail
def pSub : V → V → PM V
  | .int a, .int b => PM.pure (.int (a - b))
  | _, _ => PM.fail
def small (a : Int) : Bool := decide (-18446744073709551616 < a) && decide (a < 18446744073709551616)
def pDiv : V → V → PM V
  | .int a, .int b => fun st => if 0 < b ∧ b < 1000000000 then .ok (.int (a / b)) st else .fail
  | _, _ => PM.fail
def pMod : V → V → PM V
  | .int a, .int b => fun st => if 0 < b then .ok (.int (a % b)) st else .fail
  | _, _ => PM.fail
def pPow : V → V → PM V
  | .int a, .int b => fun st => if small a && (decide (0 ≤ b) && decide (b ≤ 1000)) then .ok (.int (a ^ b.toNat)) st else .fail
  | _, _ => PM.fail
def pNeg : V → PM V
  | .int a => PM.pure (.int (-a))
  | _ => PM.fail
theorem vr_int {ρ : Map} {i : Int} {W : Value} (h : VR ρ (.int i) W) : ∃ t, W = .int i t := by cases h; exact ⟨_, rfl⟩
theorem vr_str {ρ : Map} {l : List Nat} {W : Value} (h : VR ρ (.str l) W) : ∃ t, W = .str ⟨l.toArray⟩ t := by cases h; exact ⟨_, rfl⟩
theorem vr_ok {ρ : Map} {l : List Nat} {W : Value} (h : VR ρ (.str l) W) : okS l := by cases h; assumption
theorem vr_bool {ρ : Map} {b : Bool} {W : Value} (h : VR ρ (.bool b) W) : W = .bool b := by cases h; rfl
theorem vr_none {ρ : Map} {W : Value} (h : VR ρ .none W) : W = .none := by cases h; rfl
theorem vr_obj {ρ : Map} {i : Nat} {W : Value} (h : VR ρ (.obj i) W) : ∃ p, ρ[i]? = some p ∧ W = .ref p.1 := by cases h; rename_i p e; exact ⟨p, e, rfl⟩
theorem vr_glob {ρ : Map} {u W : Value} (h : VR ρ (.glob u) W) : W = u := by cases h; rfl
theorem str_len (a : List Nat) : (⟨a.toArray⟩ : Str).length = a.length := by simp [Str.length]
section
variable {cx : Cx}
/-- the end of a step that makes a plain value -/
theorem fin_toks {β : Type} {ρ : Map} {hid : Hd} {st : St} {s : Shared} (x : Rel cx ρ hid st s) {tk : Nat} {R : Map → β → Value → Prop} {b : β} {W : Value} (h : R ρ b W) (htk : 0 < tk := by first | assumption | exact Nat.succ_pos _ | exact Rel.pos (by assumption) | exact RelD.tk (by assumption)) :
    ∃ ρ', ρ <+: ρ' ∧ Rel cx ρ' hid st { s with toks := tk } ∧ R ρ' b W := ⟨ρ, pre_refl ρ, x.toks tk, h⟩
theorem fin_same {β α : Type} {ρ : Map} {hid : Hd} {st : St} {s : Shared} (x : Rel cx ρ hid st s) {R : Map → β → α → Prop} {b : β} {W : α} (h : R ρ b W) :
    ∃ ρ', ρ <+: ρ' ∧ Rel cx ρ' hid st s ∧ R ρ' b W := ⟨ρ, pre_refl ρ, x, h⟩
theorem p_mod : P2 cx (binaryOp .Mod) pMod VR := by
  intro ρ hid st s x a A b B ha hb v st' h
  unfold pMod at h
  split at h
  · rename_i a b
    obtain ⟨t, rfl⟩ := vr_int ha; obtain ⟨u, rfl⟩ := vr_int hb
    split at h
    · rename_i hp
      cases h
      refine PyProof.Rows.mod_int (by omega) ?_
      rw [Int.fmod_eq_emod_of_nonneg _ (by omega)]
      exact fin_toks x (.int _ _)
    · cases h
  · cases h
/-- comparisons of ints -/
def pLt : V → V → PM V
  | .int a, .int b => PM.pure (.bool (decide (a < b)))
  | _, _ => PM.fail
def pLe : V → V → PM V
  | .int a, .int b => PM.pure (.bool (decide (a ≤ b)))
  | _, _ => PM.fail
/-- the int that a value counts as in a comparison -/
def asI : V → Option Int
  | .int a => some a
  | .bool b => some (if b then 1 else 0)
  | _ => none
def pGt (a b : V) : PM V := match a, b with
  | .int a, .int b => PM.pure (.bool (decide (b < a)))
  | .bool a, .int b => PM.pure (.bool (decide (b < (if a then 1 else 0))))
  | .int a, .bool b => PM.pure (.bool (decide ((if b then 1 else 0) < a)))
  | .bool a, .bool b => PM.pure (.bool (decide ((if b then (1 : Int) else 0) < (if a then 1 else 0))))
  | _, _ => PM.fail
def pGe : V → V → PM V
  | .int a, .int b => PM.pure (.bool (decide (b ≤ a)))
  | _, _ => PM.fail
theorem p_lt : P2 cx (compareOp .Lt) pLt VR := by
  intro ρ hid st s x a A b B ha hb v st' h
  unfold pLt at h
  split at h
  · obtain ⟨t, rfl⟩ := vr_int ha; obtain ⟨u, rfl⟩ := vr_int hb
    cases h
    exact PyProof.Rows.lt_int (fin_same x (.bool _))
  · cases h
/-- identity -/
def isP : V → V → Option Bool
  | .none, .none => some true
  | .bool _, .none => some false
  | .int _, .none => some false
  | .str _, .none => some false
  | .obj _, .none => some false
  | .bool a, .bool b => some (a == b)
  | .obj i, .obj j => if i = j then some true else none
  | .glob (.type a), .glob (.type b) => some (a == b)
  | _, _ => none
def pIs (a b : V) : PM V := fun st => match isP a b with | some c => .ok (.bool c) st | none => .fail
def pIsNot (a b : V) : PM V := fun st => match isP a b with | some c => .ok (.bool (!c)) st | none => .fail
theorem same_sem {ρ : Map} {a b : V} {A B : Value} {c : Bool} (ha : VR ρ a A) (hb : VR ρ b B) (h : isP a b = some c) {M : Model} {Ar : Around} {Q : Bool → Shared → Prop} {E : Value → Shared → Prop} {s : Shared} (hq : Q c s) :
    wpAny M Ar (isSame A B) Q E s := by
  unfold isP at h
  split at h
  · cases vr_none ha; cases vr_none hb; cases h; exact wpAny_pure hq
  · cases vr_bool ha; cases vr_none hb; cases h; exact wpAny_pure hq
  · obtain ⟨t, rfl⟩ := vr_int ha; cases vr_none hb; cases h; exact wpAny_pure hq
  · obtain ⟨t, rfl⟩ := vr_str ha; cases vr_none hb; cases h; exact wpAny_pure hq
  · obtain ⟨p, _, rfl⟩ := vr_obj ha; cases vr_none hb; cases h; exact wpAny_pure hq
  · rename_i a b
    cases vr_bool ha; cases vr_bool hb; cases h
    have e : (Value.bool a == Value.bool b) = (a == b) := by cases a <;> cases b <;> rfl
    exact wpAny_pure (a := (Value.bool a == Value.bool b)) (by rw [e]; exact hq)
  · split at h
    · rename_i i j e
      subst e
      obtain ⟨p, e1, rfl⟩ := vr_obj ha; obtain ⟨q, e2, rfl⟩ := vr_obj hb
      have : p = q := Option.some.inj (e1.symm.trans e2)
      subst this
      cases h
      unfold isSame
      dsimp only
      rw [if_pos (beq_self_eq_true _)]
      exact wpAny_pure hq
    · cases h
  · rename_i a b
    cases vr_glob ha; cases vr_glob hb; cases h
    have e : (Value.type a == Value.type b) = (a == b) := by
      cases q : a == b with
      | true => rw [beq_iff_eq] at q; subst q; exact beq_self_eq_true _
      | false => rw [beq_eq_false_iff_ne] at q ⊢; exact fun e => q (Value.type.inj e)
    exact wpAny_pure (a := (Value.type a == Value.type b)) (by rw [e]; exact hq)
  · cases h
theorem p_isnot : P2 cx (compareOp .IsNot) pIsNot VR := by
  intro ρ hid st s x a A b B ha hb v st' h
  unfold pIsNot at h
  split at h
  · rename_i c e
    cases h
    exact wpAny_bind (same_sem ha hb e (wpAny_pure (fin_same x (.bool _))))
  · cases h
end
end Mine
namespace Mine
section
variable {cx : Cx} {ρ : Map} {hid : Hd} {fz led : Led} {m mloc : Str → Option Value} {st : St} {s : Shared}
theorem RelD.list_at (x : RelD cx ρ hid fz led m mloc st s) {i : Nat} {xs : List V} {p : Addr × Addr} (hi : st.sto[i]? = some (.list xs)) (hp : ρ[i]? = some p) : ∃ Xs n, VRs ρ xs Xs ∧ (p.1, listOf Xs.toArray n) ∈ led := x.B.obj i _ p hi hp
theorem RelD.tuple_at (x : RelD cx ρ hid fz led m mloc st s) {i : Nat} {xs : List V} {p : Addr × Addr} (hi : st.sto[i]? = some (.tuple xs)) (hp : ρ[i]? = some p) : ∃ Xs n, VRs ρ xs Xs ∧ (p.1, tupleObj Xs n) ∈ led := x.B.obj i _ p hi hp
theorem RelD.put_list (x : RelD cx ρ hid fz led m mloc st s) {i : Nat} {p : Addr × Addr} {ys : List V} {Ys : List Value} {n' : Nat} {h' : Heap} {tk : Nat} {o : Obj} (hp : ρ[i]? = some p) (hm : (p.1, o) ∈ led) (hv : VRs ρ ys Ys)
    (F : Fr cx.h₀ cx.L h' m) (N : News cx.h₀ cx.L h' (updL p.1 (listOf Ys.toArray n') led)) (htk : 0 < tk := by first | assumption | exact Nat.succ_pos _ | exact Rel.pos (by assumption) | exact RelD.tk (by assumption)) : Rel cx ρ hid { st with sto := st.sto.set i (.list ys) } { s with heap := h', toks := tk } :=
  RelD.rel (x.go F N (x.B.upd hp (.inl rfl) ⟨Ys, n', hv, mem_updL_self hm⟩))
end
theorem vrs_append {ρ : Map} : ∀ {a : List V} {A : List Value} {b : List V} {B : List Value}, VRs ρ a A → VRs ρ b B → VRs ρ (a ++ b) (A ++ B)
  | _, _, _, _, .nil, h => h
  | _, _, _, _, .cons x t, h => .cons x (vrs_append t h)
theorem vrs_get {ρ : Map} : ∀ {a : List V} {A : List Value} {k : Nat} {v : V}, VRs ρ a A → a[k]? = some v → ∃ W, A[k]? = some W ∧ VR ρ v W
  | _, _, 0, v, .cons x t, h => by simp at h; subst h; exact ⟨_, rfl, x⟩
  | _, _, k + 1, v, .cons x t, h => by
    simp only [List.getElem?_cons_succ] at h ⊢
    exact vrs_get t h
theorem vrs_take {ρ : Map} : ∀ {a : List V} {A : List Value} (k : Nat), VRs ρ a A → VRs ρ (a.take k) (A.take k)
  | _, _, 0, _ => by simp only [List.take_zero]; exact .nil
  | _, _, k + 1, .nil => by simp only [List.take_nil]; exact .nil
  | _, _, k + 1, .cons x t => by simp only [List.take_succ_cons]; exact .cons x (vrs_take k t)
theorem vrs_drop {ρ : Map} : ∀ {a : List V} {A : List Value} (k : Nat), VRs ρ a A → VRs ρ (a.drop k) (A.drop k)
  | _, _, 0, h => by simp only [List.drop_zero]; exact h
  | _, _, k + 1, .nil => by simp only [List.drop_nil]; exact .nil
  | _, _, k + 1, .cons x t => by simp only [List.drop_succ_cons]; exact vrs_drop k t
/-- methods of lists -/
def cAppend : List V → PM V
  | [.obj i, v] => fun st => match st.sto[i]? with
    | some (.list xs) => if xs.length ≤ 1000000 then .ok .none { st with sto := st.sto.set i (.list (xs ++ [v])) } else .fail
    | _ => .fail
  | _ => PM.fail
def cExtend : List V → PM V
  | [.obj i, .obj j] => fun st => match st.sto[i]?, st.sto[j]? with
    | some (.list xs), some (.list ys) => if xs.length + ys.length ≤ 1000000 ∧ ys ≠ [] then .ok .none { st with sto := st.sto.set i (.list (xs ++ ys)) } else .fail
    | _, _ => .fail
  | _ => PM.fail
abbrev PC (cx : Cx) (u : Value) (f : List V → PM V) : Prop := PL cx (fun Vs => call u Vs) f VR
theorem vrs_two {ρ : Map} {a b : V} {Vs : List Value} (h : VRs ρ [a, b] Vs) : ∃ A B, Vs = [A, B] ∧ VR ρ a A ∧ VR ρ b B := by
  cases h with | cons x t => cases t with | cons y r => cases r; exact ⟨_, _, rfl, x, y⟩
theorem vrs_one {ρ : Map} {a : V} {Vs : List Value} (h : VRs ρ [a] Vs) : ∃ A, Vs = [A] ∧ VR ρ a A := by
  cases h with | cons x t => cases t; exact ⟨_, rfl, x⟩
theorem list_fits {n : Nat} (h : n ≤ 1000000) : n ≤ sizeLine := Nat.le_trans h (by decide)
theorem size_push_eq (Xs : List Value) (W : Value) : Xs.toArray.push W = (Xs ++ [W]).toArray := by simp
section
variable {cx : Cx}
theorem pc_extend : PC cx (.builtin "list.extend") cExtend := by
  intro ρ hid st s x vs Vs hv v st' h
  unfold cExtend at h
  split at h
  · rename_i i j
    obtain ⟨A, B, rfl, ha, hb⟩ := vrs_two hv
    obtain ⟨p, hp, rfl⟩ := vr_obj ha
    obtain ⟨q, hq, rfl⟩ := vr_obj hb
    split at h
    · rename_i xs ys hi hj
      split at h
      · rename_i hl
        cases h
        obtain ⟨fz, led, m, mloc, x⟩ := x
        obtain ⟨Xs, n, h1, h2⟩ := x.list_at hi hp
        obtain ⟨Ys, n2, g1, g2⟩ := x.list_at hj hq
        have hlen := h1.length
        have hlen2 := g1.length
        have hsz : sizeLine = 16777216 := by decide
        refine kl_extend x.F x.N g2 (l := Xs ++ Ys) rfl (by intro e; exact hl.2 (List.length_eq_zero_iff.mp (by rw [hlen2]; exact e))) (upd_of _ h2 x.B.nd) ?_ (by show Xs.length ≤ _; omega) (by rw [List.size_toArray, List.size_toArray]; omega) (fun h' F' N' => ?_)
        · simp only [Builtin.List.listTooLong, List.size_toArray]
          simp; omega
        · exact ⟨ρ, pre_refl ρ, x.put_list (tk := s.toks) hp h2 (vrs_append h1 g1) F' N', .none⟩
      · cases h
    · cases h
  · cases h
/-- len -/
def cLen : List V → PM V
  | [.obj i] => fun st => match st.sto[i]? with
    | some (.list xs) => if xs.length ≤ 1000000 then .ok (.int xs.length) st else .fail
    | some (.tuple xs) => if xs.length ≤ 1000000 then .ok (.int xs.length) st else .fail
    | _ => .fail
  | [.str l] => fun st => if l.length ≤ 1000000 then .ok (.int l.length) st else .fail
  | _ => PM.fail
end
end Mine
namespace Mine
theorem okS_sub {a b : List Nat} (h : okS a) (hs : ∀ c ∈ b, c ∈ a) : okS b := fun c hc => h c (hs c hc)
theorem okS_take {a : List Nat} (k : Nat) (h : okS a) : okS (a.take k) := okS_sub h fun _ hc => List.mem_of_mem_take hc
theorem okS_drop {a : List Nat} (k : Nat) (h : okS a) : okS (a.drop k) := okS_sub h fun _ hc => List.mem_of_mem_drop hc
/-- a value read as data -/
def toDs (f : V → Option PyData) : List V → Option (List PyData)
  | [] => some []
  | v :: r => match f v, toDs f r with
    | some d, some ds => some (d :: ds)
    | _, _ => none
def toD : Nat → List O → V → Option PyData
  | _, _, .none => some .none
  | _, _, .bool b => some (.bool b)
  | _, _, .int i => some (.int i)
  | _, _, .str l => some (.str ⟨l.toArray⟩)
  | n + 1, sto, .obj i => match sto[i]? with
    | some (.list xs) => (toDs (toD n sto) xs).map .list
    | some (.tuple xs) => (toDs (toD n sto) xs).map .tuple
    | _ => none
  | _, _, _ => none
theorem okS_strOk {l : List Nat} (h : okS l) : PyData.strOk ⟨l.toArray⟩ = true := by
  unfold PyData.strOk
  simp only [List.all_toArray, List.all_eq_true, decide_eq_true_eq]
  exact fun c hc => h c hc
section
variable {cx : Cx} {ρ : Map} {hid : Hd} {fz led : Led} {m mloc : Str → Option Value} {st : St} {s : Shared}
theorem toDs_reads {n : Nat} {f : V → Option PyData} {h : Heap} (hf : ∀ v W d, VR ρ v W → f v = some d → ∃ as, Reads h W d as ∧ d.canLay0 = true ∧ d.depth ≤ n) :
    ∀ {vs : List V} {Vs : List Value} {ds : List PyData}, VRs ρ vs Vs → toDs f vs = some ds → ∃ as, ReadsAll h Vs ds as ∧ PyData.canLayAll0 ds = true ∧ PyData.depthAll ds ≤ n
  | _, _, _, .nil, e => by cases e; exact ⟨[], .nil, rfl, Nat.zero_le _⟩
  | _, _, _, .cons x t, e => by
    unfold toDs at e
    split at e
    · rename_i d ds h1 h2
      cases e
      obtain ⟨as, a1, a2, a3⟩ := hf _ _ _ x h1
      obtain ⟨bs, b1, b2, b3⟩ := toDs_reads hf t h2
      exact ⟨_, .cons a1 b1, by simp [PyData.canLayAll0, a2, b2], by simp only [PyData.depthAll]; omega⟩
    · cases e
theorem toD_reads (x : RelD cx ρ hid fz led m mloc st s) : ∀ (n : Nat) (v : V) (W : Value) (d : PyData), VR ρ v W → toD n st.sto v = some d → ∃ as, Reads s.heap W d as ∧ d.canLay0 = true ∧ d.depth ≤ n
  | n, .none, W, d, h, e => by cases vr_none h; cases n <;> cases e <;> exact ⟨_, .none, rfl, Nat.zero_le _⟩
  | n, .bool b, W, d, h, e => by cases vr_bool h; cases n <;> cases e <;> exact ⟨_, .bool b, rfl, Nat.zero_le _⟩
  | n, .int i, W, d, h, e => by obtain ⟨t, rfl⟩ := vr_int h; cases n <;> cases e <;> exact ⟨_, .int i t, rfl, Nat.zero_le _⟩
  | n, .str l, W, d, h, e => by
    have ho := vr_ok h
    obtain ⟨t, rfl⟩ := vr_str h
    cases n <;> cases e <;> exact ⟨_, .str _ t, okS_strOk ho, Nat.zero_le _⟩
  | n, .byt _, W, d, h, e => by cases n <;> cases e
  | n, .glob _, W, d, h, e => by cases n <;> cases e
  | 0, .obj i, W, d, h, e => by cases e
  | n + 1, .obj i, W, d, h, e => by
    obtain ⟨p, hp, rfl⟩ := vr_obj h
    unfold toD at e
    split at e
    · rename_i xs hi
      obtain ⟨ds, h1, rfl⟩ := Option.map_eq_some_iff.mp e
      obtain ⟨Xs, k, g1, g2⟩ := x.list_at hi hp
      obtain ⟨as, a1, a2, a3⟩ := toDs_reads (fun v W d => toD_reads x n v W d) g1 h1
      exact ⟨_, .list (x.N _ g2).1 rfl rfl a1, a2, by simp only [PyData.depth]; omega⟩
    · rename_i xs hi
      obtain ⟨ds, h1, rfl⟩ := Option.map_eq_some_iff.mp e
      obtain ⟨Xs, k, g1, g2⟩ := x.tuple_at hi hp
      obtain ⟨as, a1, a2, a3⟩ := toDs_reads (fun v W d => toD_reads x n v W d) g1 h1
      exact ⟨_, .tuple (x.N _ g2).1 rfl rfl a1, a2, by simp only [PyData.depth]; omega⟩
    · cases e
end
def eqP (st : St) (a b : V) : Option Bool := match toD 4 st.sto a, toD 4 st.sto b with
  | some x, some y => some (PyData.eqv x y)
  | _, _ => none
def pEq (a b : V) : PM V := fun st => match eqP st a b with | some c => .ok (.bool c) st | none => .fail
def pNe (a b : V) : PM V := fun st => match eqP st a b with | some c => .ok (.bool (!c)) st | none => .fail
/-- is the first a piece of the second -/
def subIn (y x : List Nat) : Bool := (List.range (x.length + 1)).any fun i => (x.drop i).take y.length == y
theorem subIn_eq (y x : List Nat) : (!(Builtin.Str.occurrences ⟨x.toArray⟩ ⟨y.toArray⟩ 0 (⟨x.toArray⟩ : Str).length 1).isEmpty) = subIn y x := by
  have h := StrLaws.found_iff ⟨x.toArray⟩ ⟨y.toArray⟩
  rw [Bool.eq_iff_iff, h]
  unfold subIn
  simp only [List.any_eq_true, List.mem_range]
  constructor
  · rintro ⟨i, h1, h2⟩
    refine ⟨i, by simp only [str_len] at h1; omega, ?_⟩
    rw [StrLaws.subAt_eq] at h2
    simpa [Str.length] using h2
  · rintro ⟨i, h1, h2⟩
    have h3 : (x.drop i).take y.length = y := by simpa using h2
    refine ⟨i, ?_, ?_⟩
    · simp only [str_len]
      have := congrArg List.length h3
      simp only [List.length_take, List.length_drop] at this
      omega
    · rw [StrLaws.subAt_eq]
      simpa [Str.length] using h2
def inP (st : St) (a c : V) : Option Bool := match c with
  | .obj j => match st.sto[j]? with
    | some (.list xs) => match toDs (toD 4 st.sto) xs, toD 4 st.sto a with
      | some ds, some d => some (ds.any fun y => PyData.eqv y d)
      | _, _ => none
    | _ => none
  | .str l => match a with
    | .str k => some (subIn k l)
    | _ => none
  | _ => none
def pIn (a b : V) : PM V := fun st => match inP st a b with | some c => .ok (.bool c) st | none => .fail
def pNotIn (a b : V) : PM V := fun st => match inP st a b with | some c => .ok (.bool (!c)) st | none => .fail
section
variable {cx : Cx}
theorem p_ne (ok : cx.Ok) : P2 cx (compareOp .NotEq) pNe VR := by
  intro ρ hid st s x a A b B ha hb v st' h
  unfold pNe eqP at h
  split at h
  · rename_i c e
    split at e
    · rename_i d d' h1 h2
      cases h; cases e
      obtain ⟨fz, led, m, mloc, x'⟩ := id x
      obtain ⟨as, a1, a2, a3⟩ := toD_reads x' 4 a A d ha h1
      obtain ⟨bs, b1, b2, b3⟩ := toD_reads x' 4 b B d' hb h2
      have hu := ok.units
      refine ne_dataH a1 b1 ?_ ?_ (by omega) (fin_same x (.bool _))
      · unfold SeqAt.shaped; rw [a2, Bool.true_and]; exact decide_eq_true (by omega)
      · unfold SeqAt.shaped; rw [b2, Bool.true_and]; exact decide_eq_true (by omega)
    · cases e
  · cases h
theorem in_list {ρ : Map} {hid : Hd} {st : St} {s : Shared} (ok : cx.Ok) (x : Rel cx ρ hid st s) {a : V} {A : Value} {j : Nat} {B : Value} {xs : List V} {ds : List PyData} {d : PyData} (ha : VR ρ a A) (hb : VR ρ (.obj j) B) (hj : st.sto[j]? = some (.list xs))
    (h1 : toDs (toD 4 st.sto) xs = some ds) (h2 : toD 4 st.sto a = some d) : ∃ as bs, Reads s.heap B (.list ds) as ∧ Reads s.heap A d bs ∧ PyData.canLayAll0 ds = true ∧ d.canLay0 = true ∧ cx.A.units + 1 + min (PyData.depthAll ds) d.depth < cLine := by
  obtain ⟨fz, led, m, mloc, x⟩ := x
  obtain ⟨p, hp, rfl⟩ := vr_obj hb
  obtain ⟨Xs, k, g1, g2⟩ := x.list_at hj hp
  obtain ⟨as, a1, a2, a3⟩ := toDs_reads (fun v W d => toD_reads x 4 v W d) g1 h1
  obtain ⟨bs, b1, b2, b3⟩ := toD_reads x 4 a A d ha h2
  have hu := ok.units
  exact ⟨_, bs, .list (x.N _ g2).1 rfl rfl a1, b1, a2, b2, by omega⟩
theorem p_in (ok : cx.Ok) : P2 cx (compareOp .In) pIn VR := by
  intro ρ hid st s x a A b B ha hb v st' h
  unfold pIn inP at h
  split at h
  · rename_i c e
    split at e
    · split at e
      · rename_i xs hj
        split at e
        · rename_i ds d h1 h2
          cases h; cases e
          obtain ⟨as, bs, r1, r2, r3, r4, r5⟩ := in_list ok x ha hb hj h1 h2
          exact SeqAt.in_list_reads r1 r2 r3 r4 r5 (fin_same x (.bool _))
        · cases e
      · cases e
    · split at e
      · cases h; cases e
        obtain ⟨t, rfl⟩ := vr_str ha; obtain ⟨u, rfl⟩ := vr_str hb
        refine PyProof.Rows.in_str ?_
        rw [subIn_eq]
        exact fin_same x (.bool _)
      · cases e
    · cases e
  · cases h
theorem fits63 {n : Nat} (h : n ≤ 1000000) : (n : Int) < 2 ^ 63 := by omega
/-- truth -/
def pTruthy : V → PM Bool
  | .none => PM.pure false
  | .bool b => PM.pure b
  | .int i => PM.pure (i != 0)
  | .str l => fun st => if l.length ≤ 1000000 then .ok (!l.isEmpty) st else .fail
  | .obj i => fun st => match st.sto[i]? with
    | some (.list xs) => if xs.length ≤ 1000000 then .ok (!xs.isEmpty) st else .fail
    | some (.tuple xs) => if xs.length ≤ 1000000 then .ok (!xs.isEmpty) st else .fail
    | _ => .fail
  | _ => PM.fail
theorem vrs_empty {ρ : Map} {xs : List V} {Xs : List Value} (h : VRs ρ xs Xs) : Xs.toArray.isEmpty = xs.isEmpty := by cases h <;> simp
theorem p_truthy : P1 cx truthy pTruthy BR := by
  intro ρ hid st s x a A ha v st' h
  unfold pTruthy at h
  split at h
  · cases vr_none ha; cases h; exact PyProof.Rows.truthy_none (fin_same x rfl)
  · cases vr_bool ha; cases h; exact wpAny_truthy_bool (fin_same x rfl)
  · obtain ⟨t, rfl⟩ := vr_int ha; cases h; exact PyProof.Rows.truthy_int (fin_same x rfl)
  · obtain ⟨t, rfl⟩ := vr_str ha
    split at h
    · rename_i l hl
      cases h
      refine lf x.pos (PySem.W.KXt.truthy (b := !l.isEmpty) ?_ (by rw [str_len]; omega) fun k htk => ⟨ρ, pre_refl ρ, x.toks k htk, rfl⟩)
      rw [str_len]
      cases l <;> simp
      omega
    · cases h
  · rename_i i
    obtain ⟨p, hp, rfl⟩ := vr_obj ha
    obtain ⟨fz, led, m, mloc, x'⟩ := id x
    split at h
    · rename_i xs hi
      split at h
      · rename_i hl
        cases h
        obtain ⟨Xs, k, g1, g2⟩ := x'.list_at hi hp
        refine wpAny_truthy_list ⟨_, (x'.N _ g2).1, rfl, _, rfl⟩ (by rw [List.size_toArray, ← g1.length]; exact fits63 hl) ?_
        rw [vrs_empty g1]
        exact ⟨ρ, pre_refl ρ, x.toks _, rfl⟩
      · cases h
    · rename_i xs hi
      split at h
      · rename_i hl
        cases h
        obtain ⟨Xs, k, g1, g2⟩ := x'.tuple_at hi hp
        refine PyProof.Rows.truthy_tuple ⟨_, (x'.N _ g2).1, rfl, _, rfl⟩ (by rw [List.size_toArray, ← g1.length]; exact fits63 hl) ?_
        rw [vrs_empty g1]
        exact ⟨ρ, pre_refl ρ, x.toks _, rfl⟩
      · cases h
    · cases h
  · cases h
end
end Mine
namespace Mine
/-- attributes of instances -/
def putA (n : String) (v : V) : List (String × V) → List (String × V)
  | [] => [(n, v)]
  | a :: r => if a.1 = n then (n, v) :: r else a :: putA n v r
theorem isStr_key {e : DictEntry} {a n : String} {t : Tok} (h : e.key = .str (Str.ofString a) t) : e.key.isStr (Str.ofString n) = decide (a = n) := by
  rw [h]
  show (Str.ofString a == Str.ofString n) = decide (a = n)
  by_cases q : a = n
  · subst q; simp
  · rw [decide_eq_false q]
    rw [beq_eq_false_iff_ne]
    exact fun e => q (ofString_inj e)
theorem ar_get {ρ : Map} {n : String} {w : V} : ∀ {as : List (String × V)} {Es : List DictEntry}, Paired (AR ρ) as Es → as.lookup n = some w → ∃ e ∈ Es, Es.find? (·.key.isStr (Str.ofString n)) = some e ∧ VR ρ w e.val
  | _, _, .cons (a := a) (b := e) x t, h => by
    obtain ⟨⟨tk, hk⟩, hv⟩ := x
    rw [List.find?_cons, isStr_key hk]
    by_cases q : a.1 = n
    · rw [decide_eq_true q]
      rw [List.lookup_cons, beq_iff_eq.mpr q.symm] at h
      cases h
      exact ⟨e, .head _, rfl, hv⟩
    · rw [decide_eq_false q]
      rw [List.lookup_cons, beq_eq_false_iff_ne.mpr (Ne.symm q)] at h
      obtain ⟨e', h1, h2, h3⟩ := ar_get t h
      exact ⟨e', .tail _ h1, h2, h3⟩
theorem ar_noref {ρ : Map} : ∀ {as : List (String × V)} {Es : List DictEntry}, Paired (AR ρ) as Es → Es.any (·.refKey) = false
  | _, _, .nil => rfl
  | _, _, .cons x t => by
    obtain ⟨⟨tk, hk⟩, hv⟩ := x
    rw [List.any_cons, ar_noref t, Bool.or_false]
    unfold DictEntry.refKey
    rw [hk]
theorem ar_none {ρ : Map} {n : String} : ∀ {as : List (String × V)} {Es : List DictEntry}, Paired (AR ρ) as Es → as.lookup n = none → Es.find? (·.key.isStr (Str.ofString n)) = none
  | _, _, .nil, _ => rfl
  | _, _, .cons (a := a) (b := e) x t, h => by
    obtain ⟨⟨tk, hk⟩, hv⟩ := x
    rw [List.find?_cons, isStr_key hk]
    by_cases q : a.1 = n
    · rw [List.lookup_cons, beq_iff_eq.mpr q.symm] at h; cases h
    · rw [decide_eq_false q]
      rw [List.lookup_cons, beq_eq_false_iff_ne.mpr (Ne.symm q)] at h
      exact ar_none t h
theorem ar_put {ρ : Map} {n : String} {v : V} {W : Value} {hs : Int} {tk : Tok} (hv : VR ρ v W) : ∀ {as : List (String × V)} {Es : List DictEntry}, Paired (AR ρ) as Es → Paired (AR ρ) (putA n v as) (putL (Str.ofString n) hs (.str (Str.ofString n) tk) W Es)
  | _, _, .nil => .cons ⟨⟨tk, rfl⟩, hv⟩ .nil
  | _, _, .cons (a := a) (b := e) x t => by
    obtain ⟨⟨tk', hk⟩, hv'⟩ := id x
    unfold putA putL
    rw [isStr_key hk]
    by_cases q : a.1 = n
    · rw [decide_eq_true q, if_pos q, if_pos rfl]
      exact .cons ⟨⟨tk', by rw [hk, q]⟩, hv⟩ t
    · rw [decide_eq_false q, if_neg q, if_neg (by simp)]
      exact .cons x (ar_put hv t)
theorem putA_len (n : String) (v : V) : ∀ as : List (String × V), (putA n v as).length ≤ as.length + 1
  | [] => by simp [putA]
  | a :: r => by
    unfold putA
    split
    · simp
    · have := putA_len n v r
      simp only [List.length_cons]; omega
/-- what the class says of a name: nothing, or something that an instance's own value hides -/
def okAttr (K : Frag) (C : Addr) (name : Str) : Bool := plainGet K C name && hasDictIn K C && match findIn K (.ref C) name with
  | some none => true
  | some (some a) => (match specialIn K a "__get__" with
      | some none => true
      | some (some _) => takesIn K a == some false
      | none => false)
  | none => false
theorem findObj_hides {K : Frag} {C : Addr} {name : Str} {od : Obj} {v : Value} (h : okAttr K C name = true) (hl : lookIn name od = some (some v)) : findObj K C (some od) name = some (.value v) := by
  unfold okAttr at h
  rw [Bool.and_eq_true, Bool.and_eq_true] at h
  obtain ⟨⟨_, hh⟩, h⟩ := h
  obtain ⟨cd, hc, hd⟩ := any_some hh
  have ho : PySem.W.ownOf cd (some od) name = some (some v) := by unfold PySem.W.ownOf; rw [if_pos hd]; exact hl
  unfold findObj
  rw [hc, Option.bind_some]
  split at h
  · rename_i e; rw [e]; simp [ho]
  · rename_i a e
    rw [e, Option.bind_some]
    split at h
    · rename_i g; simp [g, ho]
    · rename_i g q
      have q' : takesIn K a = some false := beq_iff_eq.mp h
      simp [q, q', ho]
    · cases h
  · cases h
def gAttr (n : String) : V → PM V
  | .obj i => fun st => match st.sto[i]? with
    | some (.inst as) => (match as.lookup n with
      | some (.glob _) => .fail
      | some w => .ok w st
      | none => .fail)
    | _ => .fail
  | _ => PM.fail
def sAttr (n : String) (v : V) : V → PM Unit
  | .obj i => fun st => match st.sto[i]? with
    | some (.inst as) => if as.length ≤ 90 then .ok () { st with sto := st.sto.set i (.inst (putA n v as)) } else .fail
    | _ => .fail
  | _ => PM.fail
theorem handed_vr {ρ : Map} {w : V} {W : Value} (h : VR ρ w W) (hg : ∀ u, w ≠ .glob u) : handedIn W = true := by
  cases h with
  | glob _ => exact absurd rfl (hg _)
  | _ => rfl
section
variable {cx : Cx}
theorem inst_at {ρ : Map} {hid : Hd} {fz led : Led} {m mloc : Str → Option Value} {st : St} {s : Shared} (x : RelD cx ρ hid fz led m mloc st s) {i : Nat} {as : List (String × V)} {p : Addr × Addr} (hi : st.sto[i]? = some (.inst as)) (hp : ρ[i]? = some p) :
    ∃ Es n, Paired (AR ρ) as Es ∧ Es.length ≤ 100 ∧ (p.1, instObj cx.C p.2) ∈ led ∧ (p.2, dictOf Es n) ∈ led ∧ InstAt s.heap p.1 (instObj cx.C p.2) cx.C (some (dictOf Es n)) := by
  obtain ⟨Es, n, h1, h2, h3, h4⟩ := x.B.obj i _ p hi hp
  exact ⟨Es, n, h1, h2, h3, h4, InstAt.of_news x.N h3 h4⟩
theorem get_attr (ok : cx.Ok) {n : String} (hc : okAttr cx.K cx.C (Str.ofString n) = true) {ρ : Map} {hid : Hd} {st : St} {s : Shared} (x : Rel cx ρ hid st s) {a : V} {A : Value} (ha : VR ρ a A) {v : V} {st' : St} (h : gAttr n a st = .ok v st') {expr : Bool} {Ar : Around}
    {Q : Value → Shared → Prop} {E : Value → Shared → Prop} (k : ∀ W s', VR ρ v W → Rel cx ρ hid st' s' → Q W s') : wpAny cx.M Ar (getAttr A (Str.ofString n) expr) Q E s := by
  unfold gAttr at h
  split at h
  · rename_i i
    obtain ⟨p, hp, rfl⟩ := vr_obj ha
    split at h
    · rename_i as hi
      split at h
      · cases h
      · rename_i w hg hl
        cases h
        obtain ⟨fz, led, m, mloc, x'⟩ := id x
        obtain ⟨Es, n', h1, h2, h3, h4, I⟩ := inst_at x' hi hp
        obtain ⟨e, _, g1, g2⟩ := ar_get h1 hl
        have pg : plainGet cx.K cx.C (Str.ofString n) = true := by
          unfold okAttr at hc; rw [Bool.and_eq_true, Bool.and_eq_true] at hc; exact hc.1.1
        refine get_value (ok.kin.keeps x'.F.keep) I (plainGet_of pg).1 (findObj_hides hc ?_) (handed_vr g2 fun u e => hg u e) (k _ _ g2 (x.toks _))
        rw [lookIn_dict]
        show (match Es.find? (·.key.isStr (Str.ofString n)) with | some e => some (some e.val) | none => _) = _
        rw [g1]
      · cases h
    · cases h
  · cases h
theorem sim_Attribute {e : Expr} {n : String} {pos : Pos} {ma : PM V} (ok : cx.Ok) (h1 : SimV cx (eval e cx.env) ma) (hc : okAttr cx.K cx.C (Str.ofString n) = true)
    (he : eval (.Attribute e (Str.ofString n) pos) cx.env = (do
      let o ← eval e cx.env
      standAt pos.atName
      let r ← holding [o] (getAttr o (Str.ofString n) true)
      letTemporaryGo e o r
      pure r) := by with_unfolding_all rfl) : SimV cx (eval (.Attribute e (Str.ofString n) pos) cx.env) (PM.bind ma (gAttr n)) := by
  intro ρ hid st s x v st' h
  obtain ⟨a, st1, e1, h⟩ := bind_ok h
  refine Attribute_any_ (wp_seq (h1 ρ hid st s x a st1 e1) fun A s1 ρ1 p1 r1 v1 => ?_) he
  exact get_attr ok hc r1 v1 h fun W s' hw hr => ⟨ρ1, p1, hr, hw⟩
def okSet (K : Frag) (C : Addr) (name : Str) : Bool := (findIn K (.ref C) "__setattr__" == some (some (.builtin "object.__setattr__"))) && plainOver K C && (takerIn K C name == some none) && hasDictIn K C
theorem set_attr (ok : cx.Ok) {n : String} (hc : okSet cx.K cx.C (Str.ofString n) = true) {ρ : Map} {hid : Hd} {st : St} {s : Shared} (x : Rel cx ρ hid st s) {a : V} {A : Value} (ha : VR ρ a A) {w : V} {W : Value} (hw : VR ρ w W) {st' : St} (h : sAttr n w a st = .ok () st') {Ar : Around}
    {Q : Unit → Shared → Prop} {E : Value → Shared → Prop} (k : ∀ s', Rel cx ρ hid st' s' → Q () s') : wpAny cx.M Ar (setAttr A (Str.ofString n) W) Q E s := by
  unfold sAttr at h
  split at h
  · rename_i i
    obtain ⟨p, hp, rfl⟩ := vr_obj ha
    split at h
    · rename_i as hi
      split at h
      · rename_i hlen
        cases h
        obtain ⟨fz, led, m, mloc, x'⟩ := id x
        obtain ⟨Es, n', h1, h2, h3, h4, I⟩ := inst_at x' hi hp
        unfold okSet at hc
        rw [Bool.and_eq_true, Bool.and_eq_true, Bool.and_eq_true] at hc
        obtain ⟨⟨⟨c1, c2⟩, c3⟩, c4⟩ := hc
        have hgl : (PySem.W.getL (Str.ofString n) Es).isSome = true := by
          unfold PySem.W.getL
          cases q : Es.find? (·.key.isStr (Str.ofString n)) with
          | some e => rfl
          | none => rw [ar_noref h1]; rfl
        have hp2 := ar_put (n := n) (hs := PyData.keyHash cx.w.params (Str.ofString n)) (tk := s.toks + 1) hw h1
        have hl2 : (putL (Str.ofString n) (PyData.keyHash cx.w.params (Str.ofString n)) (.str (Str.ofString n) (s.toks + 1)) W Es).length ≤ 100 := by
          rw [← hp2.length]
          have := putA_len n w as
          omega
        refine set_dict x'.F ok.kin x'.N I rfl (beq_iff_eq.mp c1) c2 (beq_iff_eq.mp c3) c4 hgl rfl (upd_of _ h4 x'.B.nd) (by omega) fun h' F' N' => k _ ?_
        refine RelD.rel (x'.go F' N' (x'.B.upd hp (.inr rfl) ⟨_, _, hp2, hl2, ?_, mem_updL_self h4⟩))
        refine mem_updL_ne h3 fun e => ?_
        have : instObj cx.C p.2 = dictOf Es n' := nodup_mem x'.B.nd (e ▸ h3 : (p.2, _) ∈ led) h4
        cases this
      · cases h
    · cases h
  · cases h
theorem sim_AssignAttr (ok : cx.Ok) {o e : Expr} {n : String} {pos' pos : Pos} {mo me : PM V} (h1 : SimV cx (eval e cx.env) me) (h2 : SimV cx (eval o cx.env) mo) (hc : okSet cx.K cx.C (Str.ofString n) = true)
    (hs : swapsWith e (some (.Attribute o (Str.ofString n) pos')) pos.line cx.env = pure false) :
    SimS cx (.Assign [.Attribute o (Str.ofString n) pos'] e pos) (PM.bind me fun v => PM.bind mo fun a => PM.bind (sAttr n v a) fun _ => PM.pure .next) := by
  intro ρ hid st s x v st' h
  obtain ⟨w, st1, e1, h⟩ := bind_ok h
  obtain ⟨a, st2, e2, h⟩ := bind_ok h
  obtain ⟨u, st3, e3, h⟩ := bind_ok h
  cases h
  refine plainObj_wpAny_Assign_Attribute (wp_seq (h1 ρ hid st s x w st1 e1) fun W s1 ρ1 p1 r1 v1 => wp_seq (h2 ρ1 hid st1 s1 r1 a st2 e2) fun A s2 ρ2 p2 r2 v2 => ?_) hs
  exact set_attr ok hc r2 v2 (v1.mono p2) e3 fun s' hr => ⟨ρ2, pre_trans p1 p2, hr, .next⟩
end
end Mine
namespace Mine
/-- the context of a called def -/
abbrev Cx.inn (cx : Cx) (g : Heap) (L' : Addr) (env' : Env) (k : Nat) : Cx := { cx with h₀ := g, L := L', A := cx.A.deeper env', fenv := env', env := env', outer := cx.fenv :: cx.outer, n := k, fzn := false }
theorem cellsFrom_addr : ∀ (names : List (Str × NameKind)) (n : Nat) (acc : List (Str × Addr)), (∀ x ∈ acc, x.2 < n) → (acc.map (·.2)).Nodup →
    ((cellsFrom n names acc).map (·.2)).Nodup ∧ ∀ x ∈ cellsFrom n names acc, x ∈ acc ∨ n ≤ x.2
  | [], n, acc, _, h => ⟨h, fun x hx => .inl hx⟩
  | (y, k) :: r, n, acc, h1, h2 => by
    unfold cellsFrom
    split
    · have := cellsFrom_addr r (n + 1) ((y, n) :: acc) (fun x hx => by
        rcases List.mem_cons.mp hx with rfl | hx
        · exact Nat.lt_succ_self _
        · exact Nat.lt_succ_of_lt (h1 x hx)) (by
        rw [List.map_cons, List.nodup_cons]
        refine ⟨fun hm => ?_, h2⟩
        obtain ⟨x, hx, e⟩ := List.mem_map.mp hm
        exact absurd (h1 x hx) (by rw [e]; exact Nat.lt_irrefl _))
      refine ⟨this.1, fun x hx => ?_⟩
      rcases this.2 x hx with h | h
      · rcases List.mem_cons.mp h with rfl | h
        · exact .inr (Nat.le_refl _)
        · exact .inl h
      · exact .inr (Nat.le_of_succ_le h)
    · exact cellsFrom_addr r n acc h1 h2
theorem cellsAre_fst {cm : Str → Option Value} : ∀ {cs : List (Str × Addr)} {cells : Led}, CellsAre cm cs cells → cells.map (·.1) = cs.map (·.2)
  | _, _, .nil => rfl
  | _, _, .cons _ r => by simp [cellsAre_fst r]
theorem cellsAre_get {cm : Str → Option Value} : ∀ {cs : List (Str × Addr)} {cells : Led}, CellsAre cm cs cells → ∀ {x : Str} {c : Addr}, cs.lookup x = some c → ∃ o, (c, o) ∈ cells ∧ o.data = .cell (cm x)
  | _, _, .cons (n := n) (c := c') (o := o) h r, x, c, e => by
    rw [List.lookup_cons] at e
    cases q : x == n with
    | true =>
      rw [q] at e
      cases e
      rw [beq_iff_eq] at q
      subst q
      exact ⟨o, .head _, h⟩
    | false =>
      rw [q] at e
      obtain ⟨o', h1, h2⟩ := cellsAre_get r e
      exact ⟨o', .tail _ h1, h2⟩
theorem bindL_other {kf : Str → Option NameKind} {x : Str} : ∀ (bs : List (Str × Value)) (m : Str → Option Value), (∀ b ∈ bs, b.1 ≠ x) → bindL kf bs m x = m x
  | [], _, _ => rfl
  | (n, v) :: r, m, h => by
    unfold bindL
    rw [bindL_other r _ fun b hb => h b (.tail _ hb)]
    have hn : x ≠ n := Ne.symm (h (n, v) (.head _))
    split
    · exact if_neg hn
    · rfl
theorem bindC_other {kf : Str → Option NameKind} {x : Str} : ∀ (bs : List (Str × Value)) (m : Str → Option Value), (∀ b ∈ bs, b.1 ≠ x) → bindC kf bs m x = m x
  | [], _, _ => rfl
  | (n, v) :: r, m, h => by
    unfold bindC
    rw [bindC_other r _ fun b hb => h b (.tail _ hb)]
    have hn : x ≠ n := Ne.symm (h (n, v) (.head _))
    split
    · rfl
    · exact if_neg hn
theorem zip_fst {ps : List String} {Vs : List Value} {x : Str} (h : ∀ p ∈ ps, Str.ofString p ≠ x) : ∀ b ∈ (ps.map Str.ofString).zip Vs, b.1 ≠ x := fun b hb => by
  have := (List.of_mem_zip (a := b.1) (b := b.2) hb).1
  obtain ⟨p, hp, e⟩ := List.mem_map.mp this
  rw [← e]; exact h p hp
theorem bind_get {ρ : Map} {kf : Str → Option NameKind} {n : String} {v : V} : ∀ {ps : List String} {vs : List V} {Vs : List Value} (m cm : Str → Option Value), ps.Nodup → VRs ρ vs Vs → (ps.zip vs).lookup n = some v →
    ∃ W, VR ρ v W ∧ (kf (Str.ofString n) = some .local → bindL kf ((ps.map Str.ofString).zip Vs) m (Str.ofString n) = some W) ∧ (kf (Str.ofString n) ≠ some .local → bindC kf ((ps.map Str.ofString).zip Vs) cm (Str.ofString n) = some W)
  | [], _, _, _, _, _, _, h => by simp at h
  | p :: ps, _, _, _, _, _, .nil, h => by simp at h
  | p :: ps, _, _, m, cm, hnd, .cons (a := a) (b := b) x t, h => by
    rw [List.nodup_cons] at hnd
    rw [List.zip_cons_cons, List.lookup_cons] at h
    rw [List.map_cons, List.zip_cons_cons]
    by_cases q : n = p
    · subst q
      rw [beq_self_eq_true] at h
      cases h
      have hne : ∀ r ∈ ps, Str.ofString r ≠ Str.ofString n := fun r hr e => hnd.1 (ofString_inj e ▸ hr)
      refine ⟨b, x, fun hk => ?_, fun hk => ?_⟩
      · unfold bindL
        rw [bindL_other _ _ (zip_fst hne), if_pos hk, if_pos rfl]
      · unfold bindC
        rw [bindC_other _ _ (zip_fst hne), if_neg hk, if_pos rfl]
    · rw [beq_eq_false_iff_ne.mpr q] at h
      obtain ⟨W, h1, h2, h3⟩ := bind_get (kf := kf) (if kf (Str.ofString p) = some .local then fun y => if y = Str.ofString p then some b else m y else m) (if kf (Str.ofString p) = some .local then cm else fun y => if y = Str.ofString p then some b else cm y) hnd.2 t h
      exact ⟨W, h1, h2, h3⟩
/-- a def called: its parameters, its body -/
def callP (ps : List String) (mb : PM Fl) : List V → PM V := fun vs st => if vs.length = ps.length then
    (match mb ⟨fun n => (ps.zip vs).lookup n, st.sto⟩ with
      | .ok fl st' => .ok (match fl with | .ret v => v | _ => .none) ⟨st.loc, st'.sto⟩
      | .exc e st' => .exc e ⟨st.loc, st'.sto⟩
      | .fail => .fail)
  else .fail
open Classical in
noncomputable def hidOf (ρ : Map) (fz led : Led) : Hd := ⟨led.filter fun q => decide ((∀ p ∈ ρ, q.1 ≠ p.1 ∧ q.1 ≠ p.2) ∧ ∀ r ∈ fz, r.1 ≠ q.1), fz⟩
theorem mem_hidOf {ρ : Map} {fz led : Led} {q : Addr × Obj} : q ∈ (hidOf ρ fz led).h ↔ q ∈ led ∧ (∀ p ∈ ρ, q.1 ≠ p.1 ∧ q.1 ≠ p.2) ∧ ∀ r ∈ fz, r.1 ≠ q.1 := by
  unfold hidOf
  simp only [List.mem_filter, decide_eq_true_eq]
section
variable {cx : Cx}
theorem inn_ok (ok : cx.Ok) {k : Nat} (hd : cx.A.depth + 4 * k + 5 < recursionLimit) (hu : cx.A.units + 40 * k + 203 < cLine) {qual : Str} {scope : Scope} {f : Addr} {cdv : Value} {g : Heap} {L' : Addr} (hk : scope.kind = .function) (st : cx.h₀.StaysIn g) (B : Below cx.A cx.base (cx.fenv :: cx.outer) g) :
    (cx.inn g L' (envOfC qual scope L' f cdv) k).Ok where
  bmain := ok.bmain.keeps st
  kin := ok.kin.keeps st
  top := ok.top.keeps st
  below := ⟨cx.A, B⟩
  frames := Around.frames_deeper ok.frames
  fframe := rfl
  fkind := hk
  kind := hk
  globals := rfl
  builtins := rfl
  handled := ok.handled
  depth := by show cx.A.depth + 1 + 4 * k + 4 < recursionLimit; omega
  units := by show cx.A.units + 3 + 40 * k + 200 < cLine; omega
  cinj := by
    intro x y c hx hy
    have h := (cellsFrom_addr scope.names (L' + 1) [] (fun _ h => nomatch h) .nil).1
    have hm : ∀ {l : List (Str × Addr)} {x : Str} {c : Addr}, l.lookup x = some c → (x, c) ∈ l := by
      intro l
      induction l with
      | nil => intro x c e; cases e
      | cons a r ih =>
        intro x c e
        rw [List.lookup_cons] at e
        cases q : x == a.1 with
        | true => rw [q] at e; cases e; rw [beq_iff_eq] at q; rw [q]; exact .head _
        | false => rw [q] at e; exact .tail _ (ih e)
    have h1 := hm (l := cellsFrom (L' + 1) scope.names []) hx
    have h2 := hm (l := cellsFrom (L' + 1) scope.names []) hy
    generalize cellsFrom (L' + 1) scope.names [] = l at h h1 h2
    induction l with
    | nil => cases h1
    | cons a r ih =>
      rw [List.map_cons, List.nodup_cons] at h
      rcases List.mem_cons.mp h1 with e | e <;> rcases List.mem_cons.mp h2 with e' | e'
      · exact (Prod.mk.inj (e.trans e'.symm)).1
      · exact absurd (List.mem_map_of_mem (f := (·.2)) e') (by rw [← e] at h; exact h.1)
      · exact absurd (List.mem_map_of_mem (f := (·.2)) e) (by rw [← e'] at h; exact h.1)
      · exact ih h.2 e e'
/-- the called def's first state -/
theorem bear_inn {ρ : Map} {hid : Hd} {fz led cells : Led} {m mloc : Str → Option Value} {st : St} (B : Bear cx ρ hid fz led m mloc st) {k : Nat} {qual : Str} {scope : Scope} {f : Addr} {cdv : Value} {g : Heap} {L' : Addr} {ps : List String} {vs : List V} {Vs : List Value}
    (hlt : ∀ p ∈ led, p.1 < L') (hv : VRs ρ vs Vs) (hps : ps.Nodup)
    (hkind : ∀ p ∈ ps, scope.names.lookup (Str.ofString p) = some .local ∨ scope.names.lookup (Str.ofString p) = some .cell)
    (C : CellsAre (bindC (envOfC qual scope L' f cdv).kindOf ((ps.map Str.ofString).zip Vs) fun _ => none) (cellsFrom (L' + 1) scope.names []) cells) :
    Bear (cx.inn g L' (envOfC qual scope L' f cdv) k) ρ (hidOf ρ fz led) fz (cells ++ led) (bindL (envOfC qual scope L' f cdv).kindOf ((ps.map Str.ofString).zip Vs) fun _ => none)
      (bindL (envOfC qual scope L' f cdv).kindOf ((ps.map Str.ofString).zip Vs) fun _ => none) ⟨fun n => (ps.zip vs).lookup n, st.sto⟩ := by
  have ca := cellsFrom_addr scope.names (L' + 1) [] (fun _ h => nomatch h) .nil
  have cf := cellsAre_fst C
  have cgt : ∀ q ∈ cells, L' < q.1 := fun q hq => by
    have : q.1 ∈ cells.map (·.1) := List.mem_map_of_mem hq
    rw [cf] at this
    obtain ⟨x, hx, e⟩ := List.mem_map.mp this
    rcases ca.2 x hx with h | h
    · cases h
    · rw [← e]; exact h
  have cmem : ∀ {x : Str} {c : Addr}, (envOfC qual scope L' f cdv).cells.lookup x = some c → L' < c := fun {x c} h => by
    obtain ⟨o, h1, _⟩ := cellsAre_get C h
    exact cgt _ h1
  have olt : ∀ p ∈ ρ, p.1 < L' ∧ p.2 < L' := fun p hp => by
    have := B.own p hp
    obtain ⟨q, hq, e⟩ := List.mem_map.mp this.1
    obtain ⟨q', hq', e'⟩ := List.mem_map.mp this.2
    exact ⟨e ▸ hlt q hq, e' ▸ hlt q' hq'⟩
  refine ⟨?_, fun h => absurd rfl h, .inl ⟨rfl, rfl⟩, B.len, fun p hp => ?_, fun i o p h1 h2 => ?_, B.sep, fun q hq => ?_, fun q hq => (mem_hidOf.mp hq).2.1, fun x c hc => ?_, fun x c hc => ⟨fun q hq => ?_, fun p hp => ?_⟩, fun q hq => List.mem_append_right _ (B.fin q hq), fun q hq => hq, fun q hq => (mem_hidOf.mp hq).2.2, B.fsep, fun _ q hq x hx hc => ?_, fun n v hn => ?_⟩
  · rw [List.map_append]
    refine List.nodup_append.mpr ⟨by rw [cf]; exact ca.1, B.nd, fun a ha b hb e => ?_⟩
    obtain ⟨q, hq, rfl⟩ := List.mem_map.mp ha
    obtain ⟨r, hr, rfl⟩ := List.mem_map.mp hb
    have h1 := cgt q hq
    have h2 := hlt r hr
    rw [← e] at h2
    exact absurd h1 (Nat.lt_asymm h2)
  · rw [List.map_append]
    exact ⟨List.mem_append_right _ (B.own p hp).1, List.mem_append_right _ (B.own p hp).2⟩
  · exact (B.obj i o p h1 h2).mono (pre_refl _) (fun _ h => h) fun _ _ h _ => List.mem_append_right _ h
  · exact List.mem_append_right _ (mem_hidOf.mp hq).1
  · obtain ⟨o, h1, h2⟩ := cellsAre_get C hc
    exact ⟨o, _, List.mem_append_left _ h1, h2⟩
  · exact Nat.ne_of_lt (Nat.lt_trans (hlt q (mem_hidOf.mp hq).1) (cmem hc))
  · exact ⟨Nat.ne_of_lt (Nat.lt_trans (olt p hp).1 (cmem hc)), Nat.ne_of_lt (Nat.lt_trans (olt p hp).2 (cmem hc))⟩
  · have h1 := hlt q (B.fin q hq)
    have h2 := cmem hc
    exact absurd h1 (Nat.lt_asymm h2)
  · have hm : n ∈ ps := by
      have : ∀ {l : List (String × V)}, l.lookup n = some v → ∃ w, (n, w) ∈ l := by
        intro l
        induction l with
        | nil => intro e; cases e
        | cons a r ih =>
          intro e
          rw [List.lookup_cons] at e
          cases q : n == a.1 with
          | true => rw [beq_iff_eq] at q; exact ⟨a.2, by rw [q]; exact .head _⟩
          | false => rw [q] at e; obtain ⟨w, hw⟩ := ih e; exact ⟨w, .tail _ hw⟩
      obtain ⟨w, hw⟩ := this hn
      exact (List.of_mem_zip hw).1
    obtain ⟨W, h1, h2, h3⟩ := bind_get (kf := (envOfC qual scope L' f cdv).kindOf) (fun _ => none) (fun _ => none) hps hv hn
    refine ⟨W, h1, ?_⟩
    rcases hkind n hm with q | q
    · exact .inl ⟨q, h2 q⟩
    · refine .inr ⟨.inl q, ?_⟩
      have hs := cellsFrom_some (x := Str.ofString n) scope.names (L' + 1) [] (.inl q)
      obtain ⟨c, hc⟩ := Option.isSome_iff_exists.mp hs
      obtain ⟨o, g1, g2⟩ := cellsAre_get C hc
      exact ⟨c, o, hc, List.mem_append_left _ g1, by rw [g2, h3 (by show scope.names.lookup _ ≠ _; rw [q]; simp)]⟩
/-- back in the caller -/
theorem bear_back {cx' : Cx} {ρ ρ' : Map} {hid : Hd} {fz led fz' led' : Led} {m mloc m' mloc' : Str → Option Value} {st st' : St} (hC : cx'.C = cx.C) (hw : cx'.w = cx.w) (hpr : cx'.prog = cx.prog) (hlam : cx'.lam = cx.lam) (htab : cx'.tab = cx.tab) (B : Bear cx ρ hid fz led m mloc st) (hρ : ρ <+: ρ') (B' : Bear cx' ρ' (hidOf ρ fz led) fz' led' m' mloc' st') :
    Bear cx ρ' hid fz' led' m mloc ⟨st.loc, st'.sto⟩ := by
  have keep : ∀ q ∈ led, (∀ p ∈ ρ, q.1 ≠ p.1 ∧ q.1 ≠ p.2) → q ∈ led' := fun q hq hp => by
    by_cases hf : ∀ r ∈ fz, r.1 ≠ q.1
    · exact B'.hin q (mem_hidOf.mpr ⟨hq, hp, hf⟩)
    · obtain ⟨r, hr'⟩ := Classical.not_forall.mp hf
      obtain ⟨hr, e⟩ := Classical.not_imp.mp hr'
      clear hr'
      have e : r.1 = q.1 := Classical.not_not.mp e
      have : r = q := by
        have h1 := B.fin r hr
        obtain ⟨a, o⟩ := r
        obtain ⟨b, o'⟩ := q
        dsimp only at e
        subst e
        rw [nodup_mem B.nd h1 hq]
      subst this
      exact B'.fin _ (B'.fz0 _ hr)
  have off : ∀ q ∈ led, (∀ p ∈ ρ, q.1 ≠ p.1 ∧ q.1 ≠ p.2) → ∀ p ∈ ρ', q.1 ≠ p.1 ∧ q.1 ≠ p.2 := fun q hq hp => by
    by_cases hf : ∀ r ∈ fz, r.1 ≠ q.1
    · exact B'.hsep q (mem_hidOf.mpr ⟨hq, hp, hf⟩)
    · obtain ⟨r, hr'⟩ := Classical.not_forall.mp hf
      obtain ⟨hr, e⟩ := Classical.not_imp.mp hr'
      clear hr'
      have e : r.1 = q.1 := Classical.not_not.mp e
      intro p hp'
      rw [← e]
      exact B'.fsep r (B'.fz0 _ hr) p hp'
  have cellsOff : ∀ x c o, cx.env.cells.lookup x = some c → (c, o) ∈ led → ∀ p ∈ ρ, c ≠ p.1 ∧ c ≠ p.2 := fun x c o hc _ p hp => ⟨Ne.symm ((B.csep x c hc).2 p hp).1, Ne.symm ((B.csep x c hc).2 p hp).2⟩
  have oat : ∀ {p : Addr × Addr} {o : O}, OAt cx' ρ' fz' led' p o → OAt cx ρ' fz' led' p o := fun {p o} h => by
    cases o with
    | inst as => obtain ⟨Es, n, a, b, c, d⟩ := h; exact ⟨Es, n, a, b, hC ▸ c, d⟩
    | dict es =>
      obtain ⟨o, kvs, a, d, c, b⟩ := h
      refine ⟨o, kvs, a, ?_, c, b⟩
      obtain ⟨prog, w⟩ := cx'
      dsimp only at hw hpr
      subst hw hpr
      exact d
    | clos cs => obtain ⟨fd, a, b⟩ := h; exact ⟨fd, a, hlam ▸ b⟩
    | ctab =>
      obtain ⟨a, b⟩ := h
      rw [hlam, htab] at b
      exact ⟨htab ▸ a, b⟩
    | _ => exact h
  refine ⟨B'.nd, B.cm, ?_, B'.len, B'.own, fun i o p h1 h2 => oat (B'.obj i o p h1 h2), B'.sep, fun q hq => keep q (B.hin q hq) (B.hsep q hq), fun q hq => off q (B.hin q hq) (B.hsep q hq), fun x c hc => ?_, fun x c hc => ⟨(B.csep x c hc).1, ?_⟩, B'.fin, fun q hq => B'.fz0 q (B.fz0 q hq), fun q hq r hr => ?_, B'.fsep, fun hz q hq x hx hc => ?_, fun n v hn => ?_⟩
  · rcases B.ln with h | ⟨g1, o, es, ep, g2, g3, g4, g5, g6, g7, g8, g9⟩
    · exact .inl h
    · have hn : ∀ p ∈ ρ, cx.env.locals ≠ p.1 ∧ cx.env.locals ≠ p.2 := fun p hp => ⟨Ne.symm (g6 p hp).1, Ne.symm (g6 p hp).2⟩
      refine .inr ⟨g1, o, es, ep, keep _ g2 hn, g3, g4, g5, fun p hp => ⟨Ne.symm (off _ g2 hn p hp).1, Ne.symm (off _ g2 hn p hp).2⟩, g7, fun q hq => ?_, g9⟩
      exact B'.hfz (cx.env.locals, o) (mem_hidOf.mpr ⟨g2, hn, fun r hr => g8 r hr⟩) q hq
  · obtain ⟨o, v, h1, h2⟩ := B.cel x c hc
    exact ⟨o, v, keep _ h1 (cellsOff x c o hc h1), h2⟩
  · obtain ⟨o, v, h1, h2⟩ := B.cel x c hc
    exact fun p hp => ⟨Ne.symm (off _ h1 (cellsOff x c o hc h1) p hp).1, Ne.symm (off _ h1 (cellsOff x c o hc h1) p hp).2⟩
  · exact B'.hfz q (mem_hidOf.mpr ⟨B.hin q hq, B.hsep q hq, fun r hr => B.hfz q hq r hr⟩) r hr
  · obtain ⟨o, v, h1, h2⟩ := B.cel x _ hc
    refine B'.hfz (q.1, o) (mem_hidOf.mpr ⟨h1, cellsOff x q.1 o hc h1, fun r hr e => ?_⟩) q hq rfl
    exact B.fcel hz r hr x hx (by rw [e]; exact hc)
  · obtain ⟨W, h1, h2⟩ := B.loc n v hn
    exact ⟨W, h1.mono hρ, h2.mono fun c o hc hm => keep _ hm (cellsOff _ c o hc hm)⟩
/-- the tail of a body, in which the cells are not bound any more -/
abbrev Cx.frz (cx : Cx) : Cx := { cx with fzn := true }
theorem Bear.frz {ρ : Map} {hid : Hd} {fz led : Led} {m mloc : Str → Option Value} {st : St} (B : Bear cx ρ hid fz led m mloc st) : Bear cx.frz ρ hid fz led m mloc st := by
  have oat : ∀ {p : Addr × Addr} {o : O}, OAt cx ρ fz led p o → OAt cx.frz ρ fz led p o := fun {p o} h => by cases o <;> exact h
  exact ⟨B.nd, B.cm, B.ln, B.len, B.own, fun i o p h1 h2 => oat (B.obj i o p h1 h2), B.sep, B.hin, B.hsep, B.cel, B.csep, B.fin, B.fz0, B.hfz, B.fsep, (fun h => by cases h), B.loc⟩
theorem Rel.frz {ρ : Map} {hid : Hd} {st : St} {s : Shared} (x : Rel cx ρ hid st s) : Rel cx.frz ρ hid st s := by
  obtain ⟨fz, led, m, mloc, x⟩ := x
  exact ⟨fz, led, m, mloc, x.F, x.N, x.B.frz, x.gens, x.os, x.tk⟩
theorem frz_ok (ok : cx.Ok) : cx.frz.Ok := ⟨ok.bmain, ok.kin, ok.top, ok.below, ok.frames, ok.fframe, ok.fkind, ok.kind, ok.globals, ok.builtins, ok.handled, ok.depth, ok.units, ok.cinj⟩
/-- a body as a whole -/
def SimBd (cx : Cx) (ss : List Stmt) (m : PM Fl) : Prop := ∀ ρ hid st s, Rel cx ρ hid st s → ∀ f st', m st = .ok f st' →
  wpAny cx.M cx.A (execs ss cx.env) (fun a s' => ∃ ρ', ρ <+: ρ' ∧ Rel cx.frz ρ' hid st' s' ∧ FR ρ' f a) (fun _ _ => False) s
theorem body_of {ss : List Stmt} {m : PM Fl} (h : SimSs cx ss m) : SimBd cx ss m := fun ρ hid st s x f st' e => wp_seq (h ρ hid st s x f st' e) fun a s' ρ' p r v => ⟨ρ', p, r.frz, v⟩
/-- a call of a def, up to its body: the tokens that stand then are not none -/
theorem call_pos {prog : Program} {w : World} {A : Around} {R : Result → Shared → Prop} {s : Shared} {fd : FuncData} {body : List Stmt} {f : Addr} {fo : Obj} {args : Args} {binds : List (Str × Value)} (hpos : 0 < s.toks)
    (hroom : A.depth < recursionLimit) (ho : s.heap.get? f = some fo) (hd : fo.data = .func fd) (hbd : fd.body = .stmts body) (hcl : fd.closure = []) (hgl : fd.globals = mainGlobals) (hbn : fd.builtins = builtinsNs) (hlim : s.heap.NoLimit) (hcd : s.heap.CodeRec fd.code fd.qualname)
    (hbind : BindsTo s fd args binds) (hkind : ∀ n, ∀ x ∈ binds, fd.scope.names.lookup x.1 = some .local ∨ (fd.scope.names.lookup x.1 = some .cell ∧ ((cellsFrom n fd.scope.names []).lookup x.1).isSome = true))
    (hnd : ((cellsFrom 0 fd.scope.names []).map (·.1)).Nodup)
    (h : ∀ h₁ tk cells, 0 < tk → Fr s.heap s.heap.objs.size h₁ (bindL (envOfC fd.qualname fd.scope s.heap.objs.size f fd.code).kindOf binds fun _ => none) → News s.heap s.heap.objs.size h₁ cells →
      CellsAre (bindC (envOfC fd.qualname fd.scope s.heap.objs.size f fd.code).kindOf binds fun _ => none) (cellsFrom (s.heap.objs.size + 1) fd.scope.names []) cells →
      wpAny (model prog w) (A.deeper (envOfC fd.qualname fd.scope s.heap.objs.size f fd.code)) (execs body (envOfC fd.qualname fd.scope s.heap.objs.size f fd.code))
        (fun fl s' => R (.ok (.ret (match fl with | .ret v => v | _ => .none))) s') (fun _ _ => False) { s with heap := h₁, toks := tk })
    (hco : fd.scope.isCoroutine = false) (hgen : fd.scope.isGenerator = false) (hk : fd.scope.kind = .function) : codeAny (model prog w) A (.call (.ref f) args) R s := by
  obtain ⟨name, qualname, params, bd, scope, globals, closure, defaults, kwdefaults, doc, pyModule, annotations, code, closureTuple, builtins⟩ := fd
  dsimp only at *
  subst hbd hcl hgl hbn
  refine codeAny_call_function hroom ho hd hco hgen rfl hcd (hbind _ _ _ _ ?_)
  refine lf hpos (wpAny_newFunctionEnv_cells hk (hkind _) fun env' he s' x htk => ?_)
  subst he
  refine ⟨hlim.keeps x.toInCall.keep, codeAny_func ?_⟩
  obtain ⟨h₁, tk, rfl, _⟩ := x.done
  obtain ⟨cells, NC, Y⟩ := Cl.news (h₀ := s.heap) (Nat.le_refl _) fun n c hm => ⟨x.cell n c (lookup_of_mem_nodup (cellsFrom_names scope.names 0 (s.heap.objs.size + 1) [] [] rfl ▸ hnd) hm), x.above n c hm⟩
  exact wpAny_mono (h h₁ tk cells htk ⟨x.toInCall.ns, x.toInCall.keep, Nat.le_refl _⟩ NC Y) (fun fl s' hl => hl) fun _ _ y => y.elim
theorem code_user (ok : cx.Ok) {k : Nat} (hdp : cx.A.depth + 4 * k + 5 < recursionLimit) (hun : cx.A.units + 40 * k + 203 < cLine) {ps : List String} {mb : PM Fl} {name qual : Str} {params : Arguments} {body : List Stmt} {scope : Scope} {dV kV doc pm cdv ct oc : Value} {an od : Option Addr} {osl : Array (Option Value)} {f : Addr}
    (ho : cx.K.lookup f = some ⟨oc, od, .func (fnOf name qual params body scope dV kV doc pm an cdv ct), osl⟩) (hcd : codeIn cx.K cdv qual = true)
    (hb : ∀ Vs : List Value, Vs.length = ps.length → bindArgs (fnOf name qual params body scope dV kV doc pm an cdv ct) ⟨Vs, []⟩ = pure ((ps.map Str.ofString).zip Vs))
    (hkind : ∀ p ∈ ps, scope.names.lookup (Str.ofString p) = some .local ∨ scope.names.lookup (Str.ofString p) = some .cell) (hps : ps.Nodup) (hnd : ((cellsFrom 0 scope.names []).map (·.1)).Nodup)
    (hco : scope.isCoroutine = false) (hgen : scope.isGenerator = false) (hk : scope.kind = .function)
    (hbody : ∀ g L', (cx.inn g L' (envOfC qual scope L' f cdv) k).Ok → SimBd (cx.inn g L' (envOfC qual scope L' f cdv) k) body mb)
    {ρ : Map} {hid : Hd} {st st' : St} {s : Shared} (x : Rel cx ρ hid st s) {vs : List V} {Vs : List Value} (hv : VRs ρ vs Vs) {v : V} (h : callP ps mb vs st = .ok v st') {R : Result → Shared → Prop}
    (hR : ∀ ρ' W s', ρ <+: ρ' → Rel cx ρ' hid st' s' → VR ρ' v W → R (.ok (.ret W)) s') : codeAny cx.M cx.A (.call (.ref f) ⟨Vs, []⟩) R s := by
  unfold callP at h
  split at h
  · rename_i hlen
    split at h
    · rename_i fl st1 e1
      cases h
      obtain ⟨fz, led, m, mloc, x⟩ := x
      obtain ⟨A₀, hB⟩ := ok.below
      have hVl : Vs.length = ps.length := by rw [← hv.length]; exact hlen
      obtain ⟨FG, B', stays, lv⟩ := groundX (A := cx.A) (R := R) hB x.F x.N ok.frames ok.fframe ok.fkind
      refine call_pos x.tk (by have := ok.depth; omega) (ok.kin.keeps x.F.keep _ _ ho) rfl rfl rfl rfl rfl (ok.top.nolimit.keeps x.F.keep) (codeRec_of (ok.kin.keeps x.F.keep) hcd) (BindsTo.of_eq (hb Vs hVl)) (fun j y hy => ?_) hnd
        (fun h₁ tk cells htk F1 N1 C' => ?_) hco hgen hk
      · have := (List.of_mem_zip (a := y.1) (b := y.2) hy).1
        obtain ⟨p, hp, e⟩ := List.mem_map.mp this
        rw [← e]
        rcases hkind p hp with q | q
        · exact .inl q
        · exact .inr ⟨q, cellsFrom_some scope.names j [] (.inl q)⟩
      · have hlt : ∀ p ∈ led, p.1 < s.heap.objs.size := fun p hp => Heap.lt_size (x.N p hp).1
        have ok' := inn_ok (qual := qual) (f := f) (cdv := cdv) (L' := s.heap.objs.size) ok hdp hun hk stays B'
        have Br := bear_inn (k := k) (g := hideAll s.heap (led.map (·.1))) x.B hlt hv hps hkind C'
        have F' : Fr (hideAll s.heap (led.map (·.1))) s.heap.objs.size h₁ (bindL (envOfC qual scope s.heap.objs.size f cdv).kindOf ((ps.map Str.ofString).zip Vs) fun _ => none) := ⟨F1.ns, fun b o e => F1.keep b o (of_hideAll _ e), Nat.le_of_eq (hideAll_size _ _)⟩
        have N' : News (hideAll s.heap (led.map (·.1))) s.heap.objs.size h₁ (cells ++ led) := fun p hp => by
          rcases List.mem_append.mp hp with hp | hp
          · refine ⟨(N1 p hp).1, (N1 p hp).2.1, ?_⟩
            cases q : (hideAll s.heap (led.map (·.1))).get? p.1 with
            | none => rfl
            | some o => have := of_hideAll _ q; rw [(N1 p hp).2.2] at this; cases this
          · exact ⟨F1.keep _ _ (x.N p hp).1, Nat.ne_of_lt (hlt p hp), hideAll_none _ (List.mem_map_of_mem hp)⟩
        have R' : Rel (cx.inn (hideAll s.heap (led.map (·.1))) s.heap.objs.size (envOfC qual scope s.heap.objs.size f cdv) k) ρ (hidOf ρ fz led) ⟨fun n => (ps.zip vs).lookup n, st.sto⟩ { s with heap := h₁, toks := tk } := ⟨fz, cells ++ led, _, _, F', N', Br, x.gens, x.os, htk⟩
        refine wpAny_mono (hbody _ s.heap.objs.size ok' ρ _ _ _ R' fl st1 e1) (fun fw s' hq => ?_) fun _ _ z => z.elim
        obtain ⟨ρ', hρ, ⟨fz', led', m', mloc', r'⟩, hfl⟩ := hq
        refine lv _ _ (leaveK_ r'.F r'.N fun F'' N'' => ?_)
        refine hR ρ' _ s' hρ ⟨fz', led', m, mloc, F'', N'', bear_back (cx' := (cx.inn (hideAll s.heap (led.map (·.1))) s.heap.objs.size (envOfC qual scope s.heap.objs.size f cdv) k).frz) rfl rfl rfl rfl rfl x.B hρ r'.B, r'.gens, r'.os, r'.tk⟩ ?_
        cases hfl with
        | ret hv => exact hv
        | _ => exact .none
    · cases h
    · cases h
  · cases h
/-- another place around -/
abbrev Cx.at (cx : Cx) (A' : Around) : Cx := { cx with A := A', n := 0 }
theorem Bear.chA {A' : Around} {n' : Nat} {ρ : Map} {hid : Hd} {fz led : Led} {m mloc : Str → Option Value} {st : St} (B : Bear cx ρ hid fz led m mloc st) : Bear { cx with A := A', n := n' } ρ hid fz led m mloc st := by
  have oat : ∀ {p : Addr × Addr} {o : O}, OAt cx ρ fz led p o → OAt { cx with A := A', n := n' } ρ fz led p o := fun {p o} h => by cases o <;> exact h
  exact ⟨B.nd, B.cm, B.ln, B.len, B.own, fun i o p h1 h2 => oat (B.obj i o p h1 h2), B.sep, B.hin, B.hsep, B.cel, B.csep, B.fin, B.fz0, B.hfz, B.fsep, B.fcel, B.loc⟩
theorem Rel.chA {A' : Around} {n' : Nat} {ρ : Map} {hid : Hd} {st : St} {s : Shared} (x : Rel cx ρ hid st s) : Rel { cx with A := A', n := n' } ρ hid st s := by
  obtain ⟨fz, led, m, mloc, x⟩ := x
  exact ⟨fz, led, m, mloc, x.F, x.N, x.B.chA, x.gens, x.os, x.tk⟩
theorem Rel.unA {A' : Around} {ρ : Map} {hid : Hd} {st : St} {s : Shared} (x : Rel (cx.at A') ρ hid st s) : Rel cx ρ hid st s := Rel.chA (cx := cx.at A') (A' := cx.A) (n' := cx.n) x
/-- a def as a primitive -/
structure Fn (cx : Cx) (k : Nat) (f : Addr) (ps : List String) (mb : PM Fl) : Prop where
  run : ∀ A', (cx.at A').Ok → A'.depth + 4 * k + 5 < recursionLimit → A'.units + 40 * k + 203 < cLine → ∀ {ρ : Map} {hid : Hd} {st st' : St} {s : Shared}, Rel cx ρ hid st s → ∀ {vs : List V} {Vs : List Value}, VRs ρ vs Vs → ∀ {v : V}, callP ps mb vs st = .ok v st' →
    ∀ {R : Result → Shared → Prop}, (∀ ρ' W s', ρ <+: ρ' → Rel cx ρ' hid st' s' → VR ρ' v W → R (.ok (.ret W)) s') → codeAny cx.M A' (.call (.ref f) ⟨Vs, []⟩) R s
theorem fn_user {k : Nat} {ps : List String} {mb : PM Fl} {name qual : Str} {params : Arguments} {body : List Stmt} {scope : Scope} {dV kV doc pm cdv ct oc : Value} {an od : Option Addr} {osl : Array (Option Value)} {f : Addr}
    (ho : cx.K.lookup f = some ⟨oc, od, .func (fnOf name qual params body scope dV kV doc pm an cdv ct), osl⟩) (hcd : codeIn cx.K cdv qual = true)
    (hb : ∀ Vs : List Value, Vs.length = ps.length → bindArgs (fnOf name qual params body scope dV kV doc pm an cdv ct) ⟨Vs, []⟩ = pure ((ps.map Str.ofString).zip Vs))
    (hkind : ∀ p ∈ ps, scope.names.lookup (Str.ofString p) = some .local ∨ scope.names.lookup (Str.ofString p) = some .cell) (hps : ps.Nodup) (hnd : ((cellsFrom 0 scope.names []).map (·.1)).Nodup)
    (hco : scope.isCoroutine = false) (hgen : scope.isGenerator = false) (hk : scope.kind = .function)
    (hbody : ∀ A' g L', ((cx.at A').inn g L' (envOfC qual scope L' f cdv) k).Ok → SimBd ((cx.at A').inn g L' (envOfC qual scope L' f cdv) k) body mb) : Fn cx k f ps mb :=
  ⟨fun A' ok hd hu _ _ _ _ _ x _ _ hv _ h _ hR => code_user (cx := cx.at A') ok hd hu ho hcd hb hkind hps hnd hco hgen hk (hbody A') x.chA hv h fun ρ' W s' a b c => hR ρ' W s' a b.unA c⟩
theorem at_ok (ok : cx.Ok) : (cx.at cx.A).Ok := ⟨ok.bmain, ok.kin, ok.top, ok.below, ok.frames, ok.fframe, ok.fkind, ok.kind, ok.globals, ok.builtins, ok.handled, by have := ok.depth; show cx.A.depth + 4 * 0 + 4 < _; omega, by have := ok.units; show cx.A.units + 40 * 0 + 200 < _; omega, ok.cinj⟩
theorem pc_user (ok : cx.Ok) {k : Nat} (hn : k + 1 ≤ cx.n) {f : Addr} {ps : List String} {mb : PM Fl} (F : Fn cx k f ps mb) : PC cx (.ref f) (callP ps mb) := by
  intro ρ hid st s x vs Vs hv v st' h
  exact wpAny_call (F.run cx.A (at_ok ok) (by have := ok.depth; omega) (by have := ok.units; omega) x hv h fun ρ' W s' a b c => ⟨ρ', a, b, c⟩)
/-- an instance made -/
def newInst (mi : PM Fl) (ps : List String) : List V → PM V := fun vs => PM.bind (alloc (.inst [])) fun v => PM.bind (callP ps mi (v :: vs)) fun r => match r with
  | .none => PM.pure v
  | _ => PM.fail
theorem under_ok (ok : cx.Ok) {c : Code} (hf : c.envs = []) (hd : c.weight ≤ 2) (hu : c.cUnits ≤ 10) (hn : 1 ≤ cx.n) : (cx.at (cx.A.under c)).Ok where
  bmain := ok.bmain
  kin := ok.kin
  top := ok.top
  below := ok.below
  frames := by show pushEnvs c.envs cx.A.frames = _; rw [hf]; exact ok.frames
  fframe := ok.fframe
  fkind := ok.fkind
  kind := ok.kind
  globals := ok.globals
  builtins := ok.builtins
  handled := ok.handled
  depth := by have := ok.depth; show cx.A.depth + c.weight + 4 * 0 + 4 < _; omega
  units := by have := ok.units; show cx.A.units + c.cUnits + 40 * 0 + 200 < _; omega
  cinj := ok.cinj
theorem tc_envs (a : Args) : (Code.builtin "type.__call__" a).envs = [] := rfl
theorem tc_frames (a : Args) : (Code.builtin "type.__call__" a).frames = 0 := by
  unfold Code.frames
  rfl
theorem tc_weight (C : Addr) (r : List Value) (kw : List (Str × Value)) : (Code.builtin "type.__call__" ⟨.ref C :: r, kw⟩).weight ≤ 2 := by
  unfold Code.weight
  rw [tc_frames]
  have h1 : (Code.builtin "type.__call__" ⟨.ref C :: r, kw⟩).isGuard = false := by show guardIds.contains "type.__call__" = false; decide
  have h2 : (Code.builtin "type.__call__" ⟨.ref C :: r, kw⟩).isCaller = false := rfl
  rw [h1, h2]
  split <;> decide
theorem tc_units (C : Addr) (r : List Value) (kw : List (Str × Value)) : (Code.builtin "type.__call__" ⟨.ref C :: r, kw⟩).cUnits ≤ 10 := by
  show 1 + 3 * (Code.builtin "type.__call__" ⟨.ref C :: r, kw⟩).frames ≤ 10
  rw [tc_frames]; decide
theorem pc_class (ok : cx.Ok) {k : Nat} (hn : k + 1 ≤ cx.n) {fI : Addr} {ps : List String} {mi : PM Fl} (hm : makesIn cx.K cx.C = true) (hi : findIn cx.K (.ref cx.C) "__init__" = some (some (.ref fI))) (hf : isFn cx.K (.ref fI) = true) (F : Fn cx k fI ps mi) :
    PC cx (.ref cx.C) (newInst mi ps) := by
  intro ρ hid st s x vs Vs hv v st' h
  unfold newInst at h
  obtain ⟨o, st1, e1, h0⟩ := bind_ok h
  clear h
  obtain ⟨r, st2, e2, h⟩ := bind_ok h0
  clear h0
  cases e1
  split at h
  · cases h
    obtain ⟨fz, led, m, mloc, x⟩ := x
    refine call_cls x.F ok.kin x.N hm hi hf fun a dx h' F' N' hlt hlt' => ?_
    have B1 := x.B.more (ob := dictOf [] 0) fun q hq => Nat.ne_of_lt (hlt q hq)
    have B2 := B1.more (a := a) (ob := instObj cx.C dx) fun q hq => by
      rcases List.mem_cons.mp hq with rfl | hq
      · exact Nat.ne_of_lt hlt'
      · exact Nat.ne_of_lt (Nat.lt_trans (hlt q hq) hlt')
    have hin : ∀ b, b ∈ led.map (·.1) → b < dx := fun b hb => by
      obtain ⟨q, hq, rfl⟩ := List.mem_map.mp hb
      exact hlt q hq
    have B3 := B2.enter (p := (a, dx)) (o := .inst []) (.head _) (.tail _ (.head _)) (fun q hq => by
        have := x.B.own q hq
        have h1 := hin _ this.1
        have h2 := hin _ this.2
        exact ⟨Nat.ne_of_gt (Nat.lt_trans h1 hlt'), Nat.ne_of_gt (Nat.lt_trans h2 hlt'), Nat.ne_of_gt h1, Nat.ne_of_gt h2⟩)
      (fun q hq => by have h1 := hlt q (x.B.hin q hq); exact ⟨Nat.ne_of_lt (Nat.lt_trans h1 hlt'), Nat.ne_of_lt h1⟩)
      (fun q hq => by have h1 := hlt q (x.B.fin q hq); exact ⟨Nat.ne_of_lt (Nat.lt_trans h1 hlt'), Nat.ne_of_lt h1⟩)
      (fun y c hc => by obtain ⟨o', v', g1, _⟩ := x.B.cel y c hc; have h1 := hlt _ g1; exact ⟨Nat.ne_of_gt (Nat.lt_trans h1 hlt'), Nat.ne_of_gt h1⟩)
      (fun hl => by
        rcases x.B.ln with q | ⟨_, o', es, ep, g2, _⟩
        · exact absurd q.1 hl
        · have h1 := hlt _ g2; exact ⟨Nat.ne_of_gt (Nat.lt_trans h1 hlt'), Nat.ne_of_gt h1⟩)
      ⟨[], 0, .nil, Nat.zero_le _, .head _, .tail _ (.head _)⟩
    have R3 : Rel cx (ρ ++ [(a, dx)]) hid { st with sto := st.sto ++ [.inst []] } { s with heap := h' } := ⟨fz, _, m, mloc, F', N', B3, x.gens, x.os, x.tk⟩
    have hp : ρ <+: ρ ++ [(a, dx)] := List.prefix_append _ _
    have hov : VR (ρ ++ [(a, dx)]) (.obj st.sto.length) (.ref a) := by
      have := VR.obj (alloc_get ρ (a, dx))
      rw [x.B.len] at this
      exact this
    have hd := ok.depth
    have hu := ok.units
    have hw := tc_weight cx.C Vs []
    have hcu := tc_units cx.C Vs []
    refine F.run _ (under_ok ok (tc_envs _) hw hcu (by omega)) (by show cx.A.depth + (Code.builtin "type.__call__" ⟨.ref cx.C :: Vs, []⟩).weight + 4 * k + 5 < _; omega) (by show cx.A.units + (Code.builtin "type.__call__" ⟨.ref cx.C :: Vs, []⟩).cUnits + 40 * k + 203 < _; omega) R3 (.cons hov (hv.mono hp)) e2 fun ρ' W s' p1 r1 v1 => ?_
    cases vr_none v1
    exact ⟨rfl, ρ', pre_trans hp p1, r1, hov.mono p1⟩
  · cases h
end
end Mine
namespace Mine
section
variable {cx : Cx}
/-- a callee whose keeper is known -/
def KeepOk (cx : Cx) (u : Value) : Prop := ∀ h, cx.K.In h → ∃ k, (k = Keeper.frame ∨ k = Keeper.machine ∨ k = Keeper.boundFrame) ∧ Looks cx.M h (keeperOf u) k
theorem keep_builtin {id : String} : KeepOk cx (.builtin id) := fun _ _ => ⟨.machine, .inr (.inl rfl), Looks.of_pure rfl⟩
theorem keep_type {T : String} : KeepOk cx (.type T) := fun _ _ => ⟨.machine, .inr (.inl rfl), Looks.of_pure rfl⟩
theorem keep_K {u : Value} (hk : keepIn cx.K u = true) : KeepOk cx u := fun h X => keeps_K hk h X
theorem evalArgs_of {M : Model} {A : Around} {E : Value → Shared → Prop} {s : Shared} {f : Value} {args : List (Bool × Sem Value)} {Q : Args → Shared → Prop} (hplain : args.any (·.1) = false)
    (h : wpAny M A (spliced args) (fun vs s' => Q ⟨vs, []⟩ s') E s) : wpAny M A (evalArgs f true args []) Q E s := by
  cases args with
  | nil =>
    unfold evalArgs
    show wpAny M A (spliced [] >>= _) Q E s
    refine wpAny_bind (wpAny_mono h (fun vs s' h' => wpAny_bind (wpAny_pure (wpAny_holding ?_))) fun _ _ x => x)
    exact wpAny_bind (wpAny_pure (wpAny_bind (wpAny_pure (wpAny_pure h'))))
  | cons a r =>
    obtain ⟨b, t⟩ := a
    rw [List.any_cons, Bool.or_eq_false_iff] at hplain
    obtain ⟨rfl, _⟩ := hplain
    exact evalArgs_plain h
theorem call_with (ok : cx.Ok) {u : Value} {pos : Pos} {es : List Expr} {ma : PM (List V)} {f : List V → PM V} {first : List V} {First : List Value} (ha : SimL cx pos es ma) (hk : KeepOk cx u) (hp : PC cx u f) (hplain : (backTo pos (starEach es cx.env)).any (·.1) = false)
    {ρ : Map} {hid : Hd} {st st1 st' : St} {s : Shared} (x : Rel cx ρ hid st s) (hf : VRs ρ first First) {vs : List V} {v : V} (e1 : ma st = .ok vs st1) (e2 : f (first ++ vs) st1 = .ok v st') :
    wpAny cx.M cx.A (callWith pos u First (backTo pos (starEach es cx.env)) []) (fun V s' => ∃ ρ', ρ <+: ρ' ∧ Rel cx ρ' hid st' s' ∧ VR ρ' v V) (fun _ _ => False) s := by
  refine callWith_of (P := cx.K.In) (by rw [hplain]; rfl) hk (evalArgs_of hplain (wp_seq (ha ρ hid st s x vs st1 e1) fun Vs s1 ρ1 p1 r1 v1 => ⟨?_, wp_seq (hp ρ1 hid st1 s1 r1 _ _ (vrs_append (hf.mono p1) v1) v st' e2) fun W s2 ρ2 p2 r2 v2 => ⟨ρ2, pre_trans p1 p2, r2, v2⟩⟩))
  obtain ⟨fz, led, m, mloc, r⟩ := r1
  exact ok.kin.keeps r.F.keep
/-- a call by a name -/
theorem sim_Call (ok : cx.Ok) {func : Expr} {es : List Expr} {pos : Pos} {u : Value} {ma : PM (List V)} {f : List V → PM V} (hf : SimV cx (eval func cx.env) (PM.pure (.glob u))) (ha : SimL cx pos es ma) (hk : KeepOk cx u) (hp : PC cx u f)
    (hplain : (backTo pos (starEach es cx.env)).any (·.1) = false) (he : eval (.Call func es [] pos) cx.env = (eval func cx.env >>= fun fv => callWith pos fv [] (backTo pos (starEach es cx.env)) [])) :
    SimV cx (eval (.Call func es [] pos) cx.env) (PM.bind ma f) := by
  intro ρ hid st s x v st' h
  obtain ⟨vs, st1, e1, h⟩ := bind_ok h
  rw [he]
  refine wpAny_bind (wp_seq (hf ρ hid st s x (.glob u) st rfl) fun U s1 ρ1 p1 r1 v1 => ?_)
  cases vr_glob v1
  exact wp_seq (call_with ok ha hk hp hplain r1 (first := []) .nil e1 h) fun W s2 ρ2 p2 r2 v2 => ⟨ρ2, pre_trans p1 p2, r2, v2⟩
/-- a method of a list, a text, a dict -/
def isList : V → PM Unit
  | .obj i => fun st => match st.sto[i]? with
    | some (.list _) => .ok () st
    | _ => .fail
  | _ => PM.fail
def isStr : V → PM Unit
  | .str _ => PM.pure ()
  | _ => PM.fail
abbrev MethForm (cx : Cx) (o : Expr) (name : Str) (apos pos : Pos) (es : List Expr) (pl : Sem Bool) : Prop := eval (.Call (.Attribute o name apos) es [] pos) cx.env = (do
      let ov ← eval o cx.env
      standAt apos.atName
      let (f, first) ← holding [ov] (getMethod ov name pl)
      callWith pos f first (backTo pos (starEach es cx.env)) [])
theorem sim_MethL (ok : cx.Ok) {o : Expr} {name : Str} {bid : String} {apos pos : Pos} {es : List Expr} {pl : Sem Bool} {mo : PM V} {ma : PM (List V)} {f : List V → PM V} (slot : Slot "list" name bid) (hty : typeOf (.builtin bid) = pure (.type "method_descriptor"))
    (hp : PC cx (.builtin bid) f) (ho : SimV cx (eval o cx.env) mo) (ha : SimL cx pos es ma) (hplain : (backTo pos (starEach es cx.env)).any (·.1) = false) (he : MethForm cx o name apos pos es pl) :
    SimV cx (eval (.Call (.Attribute o name apos) es [] pos) cx.env) (PM.bind mo fun v => PM.bind (isList v) fun _ => PM.bind ma fun vs => f (v :: vs)) := by
  intro ρ hid st s x v st' h
  obtain ⟨a, st1, e1, h1⟩ := bind_ok h
  obtain ⟨u, st2, e2, h2⟩ := bind_ok h1
  obtain ⟨vs, st3, e3, h3⟩ := bind_ok h2
  clear h h1 h2
  refine MethodCall_ (wp_seq (ho ρ hid st s x a st1 e1) fun A s1 ρ1 p1 r1 v1 => ?_) he
  unfold isList at e2
  split at e2
  · rename_i i
    obtain ⟨p, hp', rfl⟩ := vr_obj v1
    split at e2
    · rename_i xs hi
      cases e2
      obtain ⟨fz, led, m, mloc, r'⟩ := id r1
      obtain ⟨Xs, n, g1, g2⟩ := r'.list_at hi hp'
      exact kl_method r'.N g2 slot hty (wp_seq (call_with ok ha keep_builtin hp hplain r1 (first := [_]) (.cons v1 .nil) e3 h3) fun W s2 ρ2 p2 r2 v2 => ⟨ρ2, pre_trans p1 p2, r2, v2⟩)
    · cases e2
  · cases e2
/-- a method of the class, not hidden by the instance -/
def isInst (n : String) : V → PM Unit
  | .obj i => fun st => match st.sto[i]? with
    | some (.inst as) => (match as.lookup n with | none => .ok () st | some _ => .fail)
    | _ => .fail
  | _ => PM.fail
theorem sim_MethI (ok : cx.Ok) {o : Expr} {n : String} {g : Addr} {apos pos : Pos} {es : List Expr} {pl : Sem Bool} {mo : PM V} {ma : PM (List V)} {f : List V → PM V} (hg : plainGet cx.K cx.C (Str.ofString n) = true)
    (hf : findIn cx.K (.ref cx.C) (Str.ofString n) = some (some (.ref g))) (ht : isFn cx.K (.ref g) = true) (hk : keepIn cx.K (.ref g) = true)
    (hp : PC cx (.ref g) f) (ho : SimV cx (eval o cx.env) mo) (ha : SimL cx pos es ma) (hplain : (backTo pos (starEach es cx.env)).any (·.1) = false) (he : MethForm cx o (Str.ofString n) apos pos es pl) :
    SimV cx (eval (.Call (.Attribute o (Str.ofString n) apos) es [] pos) cx.env) (PM.bind mo fun v => PM.bind (isInst n v) fun _ => PM.bind ma fun vs => f (v :: vs)) := by
  intro ρ hid st s x v st' h
  obtain ⟨a, st1, e1, h1⟩ := bind_ok h
  obtain ⟨u, st2, e2, h2⟩ := bind_ok h1
  obtain ⟨vs, st3, e3, h3⟩ := bind_ok h2
  clear h h1 h2
  refine MethodCall_ (wp_seq (ho ρ hid st s x a st1 e1) fun A s1 ρ1 p1 r1 v1 => ?_) he
  unfold isInst at e2
  split at e2
  · rename_i i
    obtain ⟨p, hp', rfl⟩ := vr_obj v1
    split at e2
    · rename_i as hi
      split at e2
      · rename_i hl
        cases e2
        obtain ⟨fz, led, m, mloc, r'⟩ := id r1
        obtain ⟨Es, n', j1, j2, j3, j4, I⟩ := inst_at r' hi hp'
        refine method_inst r'.F ok.kin I hg hf ht ?_ (wp_seq (call_with ok ha (keep_K hk) hp hplain r1 (first := [_]) (.cons v1 .nil) e3 h3) fun W s2 ρ2 p2 r2 v2 => ⟨ρ2, pre_trans p1 p2, r2, v2⟩)
        unfold PySem.W.getL
        rw [ar_none j1 hl, ar_noref j1]
        rfl
      · cases e2
    · cases e2
  · cases e2
/-- a call whose value is dropped -/
theorem sim_Expr {e : Expr} {pos : Pos} {m : PM V} (h : SimV cx (eval e cx.env) m) (hi : interactive cx.env = false) (hs : swapsWith e none pos.line cx.env = pure false)
    (hd : ∀ v, dropValue e pos v = (match v with | .ref _ => (do standAt pos; let _ ← runValue (.builtin "proto.let_go" {}); pure .next) | _ => pure .next)) :
    SimS cx (.Expr e pos) (PM.bind m fun v => match v with | .obj _ => PM.fail | .glob _ => PM.fail | _ => PM.pure .next) := by
  intro ρ hid st s x v st' e0
  obtain ⟨a, st1, e1, e⟩ := bind_ok e0
  rw [exec_Expr cx.env _ pos hi hs]
  refine wpAny_bind (wpAny_standAt (wpAny_bind (wp_seq (h ρ hid st s x a st1 e1) fun A s1 ρ1 p1 r1 v1 => ?_)))
  rw [hd]
  cases v1 with
  | obj _ => cases e
  | glob _ => cases e
  | none => cases e; exact wpAny_pure ⟨ρ1, p1, r1, .next⟩
  | bool _ => cases e; exact wpAny_pure ⟨ρ1, p1, r1, .next⟩
  | int _ _ => cases e; exact wpAny_pure ⟨ρ1, p1, r1, .next⟩
  | str _ _ _ => cases e; exact wpAny_pure ⟨ρ1, p1, r1, .next⟩
  | byt _ _ => cases e; exact wpAny_pure ⟨ρ1, p1, r1, .next⟩
end
end Mine
namespace Mine
abbrev Hd.cons (q : Addr × Obj) (hid : Hd) : Hd := ⟨q :: hid.h, hid.z⟩
section
variable {cx : Cx} {ρ : Map} {hid : Hd} {st : St} {s : Shared}
theorem Fr.extBut {h₀ h h' : Heap} {L d : Addr} {m : Str → Option Value} (F : Fr h₀ L h m) (hs : ∀ b o, b ≠ d → h.get? b = some o → h'.get? b = some o) (hd : d ≠ L) (hn : h₀.get? d = none) : Fr h₀ L h' m :=
  ⟨F.ns.extBut hs (Ne.symm hd), fun b o e => hs b o (fun q => by rw [q, hn] at e; cases e) (F.keep b o e), F.above⟩
/-- a hidden object is forgotten -/
theorem Rel.less {q : Addr × Obj} (x : Rel cx ρ (hid.cons q) st s) : Rel cx ρ hid st s := by
  obtain ⟨fz, led, m, mloc, x⟩ := x
  refine ⟨fz, led, m, mloc, x.F, x.N, ?_, x.gens, x.os, x.tk⟩
  have B := x.B
  refine ⟨B.nd, B.cm, ?_, B.len, B.own, B.obj, B.sep, fun r hr => B.hin r (.tail _ hr), fun r hr => B.hsep r (.tail _ hr), B.cel, fun y c hc => ⟨fun r hr => (B.csep y c hc).1 r (.tail _ hr), (B.csep y c hc).2⟩, B.fin, B.fz0, fun r hr => B.hfz r (.tail _ hr), B.fsep, B.fcel, B.loc⟩
  rcases B.ln with h | ⟨g1, o, es, ep, g2, g3, g4, g5, g6, g7, g8, g9⟩
  · exact .inl h
  · exact .inr ⟨g1, o, es, ep, g2, g3, g4, g5, g6, fun r hr => g7 r (.tail _ hr), g8, g9⟩
/-- a new hidden object -/
theorem Rel.hide (x : Rel cx ρ hid st s) {ob : Obj} {tk : Nat} (hf : ob.isFreed = false) (htk : 0 < tk := by first | assumption | exact Nat.succ_pos _ | exact Rel.pos (by assumption) | exact RelD.tk (by assumption)) : Rel cx ρ (hid.cons (s.heap.objs.size, ob)) st { s with heap := s.heap.push ob, toks := tk } ∧ ∀ q ∈ hid.h, q.1 ≠ s.heap.objs.size := by
  obtain ⟨fz, led, m, mloc, x⟩ := x
  have hfr := news_fresh x.N
  have B := x.B.more (ob := ob) hfr
  refine ⟨⟨fz, _, m, mloc, x.F.push ob, x.N.push x.F ob hf, ?_, x.gens, x.os, htk⟩, fun q hq => hfr q (x.B.hin q hq)⟩
  have own : ∀ p ∈ ρ, s.heap.objs.size ≠ p.1 ∧ s.heap.objs.size ≠ p.2 := fun p hp => by
    obtain ⟨q, hq, e⟩ := List.mem_map.mp (x.B.own p hp).1
    obtain ⟨q', hq', e'⟩ := List.mem_map.mp (x.B.own p hp).2
    exact ⟨fun z => hfr q hq (e.trans z.symm), fun z => hfr q' hq' (e'.trans z.symm)⟩
  refine ⟨B.nd, B.cm, ?_, B.len, B.own, B.obj, B.sep, fun r hr => ?_, fun r hr => ?_, B.cel, fun y c hc => ⟨fun r hr => ?_, (B.csep y c hc).2⟩, B.fin, B.fz0, fun r hr => ?_, B.fsep, B.fcel, B.loc⟩
  · rcases B.ln with h | ⟨g1, o, es, ep, g2, g3, g4, g5, g6, g7, g8, g9⟩
    · exact .inl h
    · refine .inr ⟨g1, o, es, ep, g2, g3, g4, g5, g6, fun r hr => ?_, g8, g9⟩
      rcases List.mem_cons.mp hr with rfl | hr
      · rcases x.B.ln with h | ⟨_, o', _, _, k2, _⟩
        · exact absurd h.1 g1
        · exact Ne.symm (hfr _ k2)
      · exact g7 r hr
  · rcases List.mem_cons.mp hr with rfl | hr
    · exact .head _
    · exact B.hin r hr
  · rcases List.mem_cons.mp hr with rfl | hr
    · exact own
    · exact B.hsep r hr
  · rcases List.mem_cons.mp hr with rfl | hr
    · obtain ⟨o, v, k1, _⟩ := x.B.cel y c hc
      exact Ne.symm (hfr _ k1)
    · exact (B.csep y c hc).1 r hr
  · rcases List.mem_cons.mp hr with rfl | hr
    · exact fun r' hr' => hfr r' (x.B.fin r' hr')
    · exact B.hfz r hr
/-- a hidden object turns -/
theorem Rel.turn {I : Addr} {o o' : Obj} {h' : Heap} {tk : Nat} (x : Rel cx ρ (hid.cons (I, o)) st s) (hI : ∀ q ∈ hid.h, q.1 ≠ I) (hk : ∀ b ob, b ≠ I → s.heap.get? b = some ob → h'.get? b = some ob) (ho : h'.get? I = some o') (htk : 0 < tk := by first | assumption | exact Nat.succ_pos _ | exact Rel.pos (by assumption) | exact RelD.tk (by assumption)) :
    Rel cx ρ (hid.cons (I, o')) st { s with heap := h', toks := tk } := by
  obtain ⟨fz, led, m, mloc, x⟩ := x
  have B := x.B
  have hm : (I, o) ∈ led := B.hin _ (.head _)
  have hg := x.N _ hm
  have own : ∀ p ∈ ρ, I ≠ p.1 ∧ I ≠ p.2 := B.hsep _ (.head _)
  have N' : News cx.h₀ cx.L h' (updL I o' led) := fun q hq => by
    obtain ⟨p, hp, e⟩ := List.mem_map.mp hq
    by_cases hd : p.1 = I
    · rw [if_pos hd] at e; subst e; exact ⟨ho, hg.2.1, hg.2.2⟩
    · rw [if_neg hd] at e; subst e; have := x.N _ hp; exact ⟨hk _ _ hd this.1, this.2⟩
  refine ⟨fz, updL I o' led, m, mloc, Fr.extBut x.F hk hg.2.1 hg.2.2, N', ?_, x.gens, x.os, htk⟩
  have cne : ∀ y c, cx.env.cells.lookup y = some c → c ≠ I := fun y c hc => Ne.symm ((B.csep y c hc).1 _ (.head _))
  refine ⟨by rw [updL_fst]; exact B.nd, B.cm, ?_, B.len, fun p hp => by rw [updL_fst]; exact B.own p hp, fun i ob p h1 h2 => ?_, B.sep, fun r hr => ?_, fun r hr => ?_, fun y c hc => ?_, fun y c hc => ⟨fun r hr => ?_, (B.csep y c hc).2⟩, fun r hr => ?_, B.fz0, fun r hr => ?_, B.fsep, B.fcel, fun n v hv => ?_⟩
  · rcases B.ln with h | ⟨g1, ob, es, ep, g2, g3, g4, g5, g6, g7, g8, g9⟩
    · exact .inl h
    · refine .inr ⟨g1, ob, es, ep, mem_updL_ne g2 fun e => g7 _ (.head _) e.symm, g3, g4, g5, g6, fun r hr => ?_, g8, g9⟩
      rcases List.mem_cons.mp hr with rfl | hr
      · exact g7 (I, o) (.head _)
      · exact g7 r (.tail _ hr)
  · refine (B.obj i ob p h1 h2).mono (pre_refl _) (fun _ h => h) fun b ob' hb hbp => mem_updL_ne hb fun e => ?_
    have := own p (mem_of_get h2)
    rcases hbp with rfl | rfl
    · exact this.1 e.symm
    · exact this.2 e.symm
  · rcases List.mem_cons.mp hr with rfl | hr
    · exact mem_updL_self hm
    · exact mem_updL_ne (B.hin r (.tail _ hr)) (hI r hr)
  · rcases List.mem_cons.mp hr with rfl | hr
    · exact own
    · exact B.hsep r (.tail _ hr)
  · obtain ⟨ob, v, h1, h2⟩ := B.cel y c hc
    exact ⟨ob, v, mem_updL_ne h1 (cne y c hc), h2⟩
  · rcases List.mem_cons.mp hr with rfl | hr
    · exact Ne.symm (cne y c hc)
    · exact (B.csep y c hc).1 r (.tail _ hr)
  · exact mem_updL_ne (B.fin r hr) (B.hfz (I, o) (.head _) r hr)
  · rcases List.mem_cons.mp hr with rfl | hr
    · exact B.hfz (I, o) (.head _)
    · exact B.hfz r (.tail _ hr)
  · obtain ⟨W, h1, h2⟩ := B.loc n v hv
    exact ⟨W, h1, h2.mono fun c ob hc hb => mem_updL_ne hb (cne _ c hc)⟩
theorem Bear.drop {fz led : Led} {m mloc : Str → Option Value} {I : Addr} {o : Obj} (B : Bear cx ρ (hid.cons (I, o)) fz led m mloc st) (hI : ∀ q ∈ hid.h, q.1 ≠ I) : Bear cx ρ hid fz (led.filter fun q => decide (q.1 ≠ I)) m mloc st := by
  have own : ∀ p ∈ ρ, I ≠ p.1 ∧ I ≠ p.2 := B.hsep _ (.head _)
  have cne : ∀ y c, cx.env.cells.lookup y = some c → c ≠ I := fun y c hc => Ne.symm ((B.csep y c hc).1 _ (.head _))
  have mf : ∀ {q : Addr × Obj}, q ∈ led → q.1 ≠ I → q ∈ led.filter (fun q => decide (q.1 ≠ I)) := fun hq hne => List.mem_filter.mpr ⟨hq, decide_eq_true hne⟩
  have mfa : ∀ {b : Addr}, b ∈ led.map (·.1) → b ≠ I → b ∈ (led.filter (fun q => decide (q.1 ≠ I))).map (·.1) := fun {b} hb hne => by
    obtain ⟨q, hq, rfl⟩ := List.mem_map.mp hb
    exact List.mem_map_of_mem (mf hq hne)
  refine ⟨B.nd.sublist (List.filter_sublist.map _), B.cm, ?_, B.len, fun p hp => ⟨mfa (B.own p hp).1 (Ne.symm (own p hp).1), mfa (B.own p hp).2 (Ne.symm (own p hp).2)⟩, fun i ob p h1 h2 => ?_, B.sep, fun r hr => mf (B.hin r (.tail _ hr)) (hI r hr), fun r hr => B.hsep r (.tail _ hr), fun y c hc => ?_, fun y c hc => ⟨fun r hr => (B.csep y c hc).1 r (.tail _ hr), (B.csep y c hc).2⟩, fun r hr => mf (B.fin r hr) (B.hfz (I, o) (.head _) r hr), B.fz0, fun r hr => B.hfz r (.tail _ hr), B.fsep, B.fcel, fun n v hv => ?_⟩
  · rcases B.ln with h | ⟨g1, ob, es, ep, g2, g3, g4, g5, g6, g7, g8, g9⟩
    · exact .inl h
    · exact .inr ⟨g1, ob, es, ep, mf g2 fun e => g7 _ (.head _) e.symm, g3, g4, g5, g6, fun r hr => g7 r (.tail _ hr), g8, g9⟩
  · refine (B.obj i ob p h1 h2).mono (pre_refl _) (fun _ h => h) fun b ob' hb hbp => mf hb ?_
    have := own p (mem_of_get h2)
    rcases hbp with rfl | rfl
    · exact Ne.symm this.1
    · exact Ne.symm this.2
  · obtain ⟨ob, v, h1, h2⟩ := B.cel y c hc
    exact ⟨ob, v, mf h1 (cne y c hc), h2⟩
  · obtain ⟨W, h1, h2⟩ := B.loc n v hv
    exact ⟨W, h1, h2.mono fun c ob hc hb => mf hb (cne _ c hc)⟩
/-- a hidden object is dropped, whatever becomes of it -/
theorem Rel.dropI {I : Addr} {o : Obj} {h' : Heap} {tk : Nat} (x : Rel cx ρ (hid.cons (I, o)) st s) (hI : ∀ q ∈ hid.h, q.1 ≠ I) (hk : ∀ b ob, b ≠ I → s.heap.get? b = some ob → h'.get? b = some ob) (htk : 0 < tk := by first | assumption | exact Nat.succ_pos _ | exact Rel.pos (by assumption) | exact RelD.tk (by assumption)) :
    Rel cx ρ hid st { s with heap := h', toks := tk } := by
  obtain ⟨fz, led, m, mloc, x⟩ := x
  have hg := x.N _ (x.B.hin _ (.head _))
  refine ⟨fz, led.filter fun q => decide (q.1 ≠ I), m, mloc, Fr.extBut x.F hk hg.2.1 hg.2.2, fun q hq => ?_, x.B.drop hI, x.gens, x.os, htk⟩
  obtain ⟨h1, h2⟩ := List.mem_filter.mp hq
  have := x.N q h1
  exact ⟨hk _ _ (of_decide_eq_true h2) this.1, this.2⟩
/-- a hidden list enters the store -/
theorem Rel.enterH {D : Addr} {Ys : List Value} {ys : List V} {k : Nat} (x : Rel cx ρ (hid.cons (D, listObj Ys k)) st s) (hD : ∀ q ∈ hid.h, q.1 ≠ D) (hv : VRs ρ ys Ys) :
    Rel cx (ρ ++ [(D, D)]) hid { st with sto := st.sto ++ [.list ys] } s ∧ VR (ρ ++ [(D, D)]) (.obj st.sto.length) (.ref D) := by
  obtain ⟨fz, led, m, mloc, x'⟩ := id x
  have B := x'.B
  have hm := B.hin _ (.head _)
  have hma : D ∈ led.map (·.1) := List.mem_map_of_mem hm
  obtain ⟨fz1, led1, m1, mloc1, y⟩ := x.less
  refine ⟨?_, ?_⟩
  · have B0 : Bear cx ρ hid fz led m mloc st := by
      refine ⟨B.nd, B.cm, ?_, B.len, B.own, B.obj, B.sep, fun r hr => B.hin r (.tail _ hr), fun r hr => B.hsep r (.tail _ hr), B.cel, fun y c hc => ⟨fun r hr => (B.csep y c hc).1 r (.tail _ hr), (B.csep y c hc).2⟩, B.fin, B.fz0, fun r hr => B.hfz r (.tail _ hr), B.fsep, B.fcel, B.loc⟩
      rcases B.ln with h | ⟨g1, o, es, ep, g2, g3, g4, g5, g6, g7, g8, g9⟩
      · exact .inl h
      · exact .inr ⟨g1, o, es, ep, g2, g3, g4, g5, g6, fun r hr => g7 r (.tail _ hr), g8, g9⟩
    have own := B.hsep _ (.head _)
    refine ⟨fz, led, m, mloc, x'.F, x'.N, B0.enter (p := (D, D)) hma hma (fun q hq => ⟨(own q hq).1, (own q hq).2, (own q hq).1, (own q hq).2⟩) (fun q hq => ⟨hD q hq, hD q hq⟩) (fun q hq => ⟨B.hfz _ (.head _) q hq, B.hfz _ (.head _) q hq⟩) (fun y c hc => ?_) (fun hl => ?_) ⟨Ys, k, hv.mono (List.prefix_append _ _), hm⟩, x'.gens, x'.os, x'.tk⟩
    · have := (B.csep y c hc).1 _ (.head _)
      exact ⟨this, this⟩
    · rcases B.ln with h | ⟨g1, o, es, ep, g2, g3, g4, g5, g6, g7, g8, g9⟩
      · exact absurd h.1 hl
      · have := g7 _ (.head _)
        exact ⟨this, this⟩
  · have := VR.obj (alloc_get ρ (D, D))
    rw [x'.B.len] at this
    exact this
end
end Mine
namespace Mine
/-- where a loop's items come from: an object that must stand as it is, or nothing -/
abbrev Src := Option (Nat × O)
open Classical in
noncomputable def chk (src : Src) : PM Unit := fun st => match src with
  | none => .ok () st
  | some p => if st.sto[p.1]? = some p.2 then .ok () st else .fail
theorem chk_ok {src : Src} {st st' : St} (h : chk src st = .ok () st') : st' = st ∧ ∀ p, src = some p → st.sto[p.1]? = some p.2 := by
  unfold chk at h
  split at h
  · cases h; exact ⟨rfl, fun p e => by cases e⟩
  · rename_i p
    split at h
    · rename_i e; cases h; exact ⟨rfl, fun q hq => by cases hq; exact e⟩
    · cases h
theorem chk_some {j : Nat} {o : O} {st : St} (h : st.sto[j]? = some o) : chk (some (j, o)) st = .ok () st := by
  unfold chk
  exact if_pos h
/-- the ints of a range -/
def rangeInts (a b c : Int) : List Int := (List.range (if a < b then ((b - a - 1) / c + 1).toNat else 0)).map fun i : Nat => a + (i : Int) * c
def iterOf : V → PM (Src × List V)
  | .obj i => fun st => match st.sto[i]? with
    | some (.list xs) => .ok (some (i, .list xs), xs) st
    | some (.tuple xs) => .ok (some (i, .tuple xs), xs) st
    | some (.range a b c) => if -1000000000 ≤ a ∧ a ≤ 1000000000 ∧ -1000000000 ≤ b ∧ b ≤ 1000000000 ∧ 0 < c ∧ c ≤ 1000000000 then .ok (none, (rangeInts a b c).map V.int) st else .fail
    | _ => .fail
  | .str l => fun st => .ok (none, l.map fun c => .str [c]) st
  | _ => PM.fail
noncomputable def loopF (src : Src) (body : V → PM Fl) : List V → PM Fl
  | [] => PM.bind (chk src) fun _ => PM.pure .next
  | x :: r => PM.bind (chk src) fun _ => PM.bind (body x) fun f => match f with
    | .next => loopF src body r
    | .cont => loopF src body r
    | .brk => PM.pure .next
    | .ret v => PM.pure (.ret v)
structure Iter (cx : Cx) (ρ₀ : Map) (src : Src) (xs : List V) (I : Addr) (At : Nat → Heap → Prop) : Prop where
  frame : ∀ i h h', At i h → (∀ o, h.get? I = some o → h'.get? I = some o) → At i h'
  there : ∀ i h, At i h → ∃ o, h.get? I = some o
  next : ∀ i x ρ hid st s, xs[i]? = some x → At i s.heap → ρ₀ <+: ρ → Rel cx ρ hid st s → (∀ p, src = some p → st.sto[p.1]? = some p.2) → ∀ (A : Around) (Q : Option Value → Shared → Prop) (E : Value → Shared → Prop),
    (∀ W h' tk, VR ρ x W → At (i + 1) h' → (∀ b o, b ≠ I → s.heap.get? b = some o → h'.get? b = some o) → Q (some W) { s with heap := h', toks := tk }) → wpAny cx.M A (pyNext (.ref I)) Q E s
  done : ∀ ρ hid st s, At xs.length s.heap → ρ₀ <+: ρ → Rel cx ρ hid st s → (∀ p, src = some p → st.sto[p.1]? = some p.2) → ∀ (A : Around) (Q : Option Value → Shared → Prop) (E : Value → Shared → Prop), A.handled = none →
    (∀ h' tk, (∀ b o, b ≠ I → s.heap.get? b = some o → h'.get? b = some o) → Q none { s with heap := h', toks := tk }) → wpAny cx.M A (pyNext (.ref I)) Q E s
  self : ∀ i s, At i s.heap → ∀ (A : Around) (Q : Value → Shared → Prop) (E : Value → Shared → Prop), Q (.ref I) s → wpAny cx.M A (pyIter (.ref I)) Q E s
  go : ∀ i s, At i s.heap → ∀ (A : Around) (target : Expr) (W : Value) (Q : Unit → Shared → Prop) (E : Value → Shared → Prop), Q () s → wpAny cx.M A (letOwnedTupleGo target (.ref I) W) Q E s
theorem go_plain {M : Model} {A : Around} {s : Shared} {I : Addr} {o : Obj} {n : String} (ho : s.heap.get? I = some o) (hc : o.cls = .type n)
    (hn : ["enumerate", "zip", "dict_itemiterator", "dict_reverseitemiterator", "odict_iterator", "itertools.zip_longest", "itertools.pairwise"].contains n = false) (target : Expr) (W : Value) (Q : Unit → Shared → Prop) (E : Value → Shared → Prop) (hq : Q () s) :
    wpAny M A (letOwnedTupleGo target (.ref I) W) Q E s := by
  unfold letOwnedTupleGo
  have key : ∀ vs : Data, wpAny M A (match o.cls, vs with
      | .type n, .fields vs => (if (["enumerate", "zip", "dict_itemiterator", "dict_reverseitemiterator", "odict_iterator", "itertools.zip_longest", "itertools.pairwise"].contains n && vs[0]? == some W) = true then (do rule "for.unpacks-the-owned-tuple"; updateField I 0 .none) else pure ())
      | _, _ => pure ()) Q E s := fun vs => by
    rw [hc]
    cases vs <;> first | exact wpAny_pure hq | (dsimp only; rw [hn]; exact wpAny_pure hq)
  split <;> first
    | exact wpAny_pure hq
    | (cases W <;> first
        | exact wpAny_pure hq
        | (refine wpAny_bind (wpAny_load ho ?_)
           rw [hc]
           split <;> first
             | exact wpAny_pure hq
             | (rename_i h1 h2; cases h1; rw [hn, Bool.false_and]; exact wpAny_pure hq)))
section
variable {cx : Cx}
theorem iter_list {j : Nat} {xs : List V} {I : Addr} {ρ₀ : Map} {p : Addr × Addr} (hp₀ : ρ₀[j]? = some p) :
    Iter cx ρ₀ (some (j, .list xs)) xs I (fun i h => h.IsListIter I p.1 i) where
  frame := fun i h h' x k => x.at fun o e => k o e
  there := fun i h ⟨o, ho, _⟩ => ⟨o, ho⟩
  next := by
    intro i x ρ hid st s hx hit hpre r hs A Q E k
    have hj := hs _ rfl
    have hp := get_mono hpre hp₀
    obtain ⟨fz, led, m, mloc, r⟩ := r
    obtain ⟨Xs, n, g1, g2⟩ := r.list_at hj hp
    obtain ⟨W, w1, w2⟩ := vrs_get g1 hx
    exact wpAny_pyNext_list_item hit ⟨_, (r.N _ g2).1, rfl, _, rfl⟩ (by simpa using w1) fun h' hit' hs' => k W h' s.toks w2 hit' fun b o hb e => (hs'.2 b hb).trans e
  done := by
    intro ρ hid st s hit hpre r hs A Q E hh k
    have hj := hs _ rfl
    have hp := get_mono hpre hp₀
    obtain ⟨fz, led, m, mloc, r⟩ := r
    obtain ⟨Xs, n, g1, g2⟩ := r.list_at hj hp
    exact wpAny_pyNext_list_end hh hit ⟨_, (r.N _ g2).1, rfl, _, rfl⟩ (by rw [List.getElem?_toArray]; exact List.getElem?_eq_none (by rw [g1.length]; exact Nat.le_refl _)) fun h' hs' => k h' s.toks fun b o hb e => hs' b o hb e
  self := fun i s hit A Q E hq => wpAny_pyIter_listiter hit hq
  go := fun i s hit A target W Q E hq => by
    obtain ⟨o, ho, hc, hd⟩ := hit
    exact go_plain ho hc (by decide) target W Q E hq
theorem iter_tuple {j : Nat} {xs : List V} {I : Addr} {ρ₀ : Map} {p : Addr × Addr} (hp₀ : ρ₀[j]? = some p) :
    Iter cx ρ₀ (some (j, .tuple xs)) xs I (fun i h => h.IsTupleIter I p.1 i) where
  frame := fun i h h' ⟨o, ho, hr⟩ k => ⟨o, k o ho, hr⟩
  there := fun i h ⟨o, ho, _⟩ => ⟨o, ho⟩
  next := by
    intro i x ρ hid st s hx hit hpre r hs A Q E k
    have hj := hs _ rfl
    have hp := get_mono hpre hp₀
    obtain ⟨fz, led, m, mloc, r⟩ := r
    obtain ⟨Xs, n, g1, g2⟩ := r.tuple_at hj hp
    obtain ⟨W, w1, w2⟩ := vrs_get g1 hx
    exact wpAny_pyNext_tuple_item hit ⟨_, (r.N _ g2).1, rfl, _, rfl⟩ (by simpa using w1) fun h' hit' hs' => k W h' s.toks w2 hit' fun b o hb e => (hs'.2 b hb).trans e
  done := by
    intro ρ hid st s hit hpre r hs A Q E hh k
    have hj := hs _ rfl
    have hp := get_mono hpre hp₀
    obtain ⟨fz, led, m, mloc, r⟩ := r
    obtain ⟨Xs, n, g1, g2⟩ := r.tuple_at hj hp
    exact wpAny_pyNext_tuple_end hh hit ⟨_, (r.N _ g2).1, rfl, _, rfl⟩ (by rw [List.getElem?_toArray]; exact List.getElem?_eq_none (by rw [g1.length]; exact Nat.le_refl _)) fun h' hs' => k h' s.toks fun b o hb e => hs' b o hb e
  self := fun i s hit A Q E hq => wpAny_pyIter_tupleiter hit hq
  go := fun i s hit A target W Q E hq => by
    obtain ⟨o, ho, hc, hd⟩ := hit
    exact go_plain ho hc (by decide) target W Q E hq
theorem iter_range {ρ₀ : Map} {a c : Int} {n : Nat} {I : Addr} (xs : List V) (hxs : xs = ((List.range n).map fun i : Nat => V.int (a + (i : Int) * c))) :
    Iter cx ρ₀ none xs I (fun i h => IsRangeIter h I (a + (i : Nat) * c) ((n : Int) - (i : Nat)) c) where
  frame := fun i h h' x k => k _ x
  there := fun i h x => ⟨_, x⟩
  next := by
    intro i x ρ hid st s hx hit hpre r hs A Q E k
    subst hxs
    have hi : i < n := by
      rcases Nat.lt_or_ge i n with h | h
      · exact h
      · rw [List.getElem?_eq_none (by simpa using h)] at hx; cases hx
    have hxe : x = .int (a + (i : Int) * c) := by
      rw [List.getElem?_map, List.getElem?_range hi] at hx
      exact (Option.some.inj hx).symm
    subst hxe
    refine wpAny_pyNext_range_item hit (by omega) fun h' hit' hs' => k _ h' _ (.int _ _) ?_ fun b o hb e => (hs'.2 b hb).trans e
    have e1 : a + (i : Int) * c + c = a + ((i + 1 : Nat) : Int) * c := by push_cast; rw [Int.add_mul]; omega
    have e2 : (n : Int) - (i : Nat) - 1 = (n : Int) - ((i + 1 : Nat) : Int) := by push_cast; omega
    rw [e1, e2] at hit'
    exact hit'
  done := by
    intro ρ hid st s hit hpre r hs A Q E hh k
    subst hxs
    refine wpAny_pyNext_range_end hh hit (by simp) fun h' hs' => k h' s.toks fun b o hb e => hs' b o hb e
  self := fun i s hit A Q E hq => wpAny_pyIter_rangeiter hit hq
  go := fun i s hit A target W Q E hq => go_plain hit rfl (by decide) target W Q E hq
theorem iter_str {ρ₀ : Map} {l : List Nat} (hl : okS l) {I : Addr} {cls : String} {t : Tok} (hcl : cls = "str_ascii_iterator" ∨ cls = "str_iterator") :
    Iter cx ρ₀ none (l.map fun c => V.str [c]) I (fun i h => h.IsStrIter I cls ⟨l.toArray⟩ t i) where
  frame := fun i h h' ⟨o, ho, hr⟩ k => ⟨o, k o ho, hr⟩
  there := fun i h ⟨o, ho, _⟩ => ⟨o, ho⟩
  next := by
    intro i x ρ hid st s hx hit hpre r hs A Q E k
    rw [List.getElem?_map] at hx
    obtain ⟨c, hc, rfl⟩ := Option.map_eq_some_iff.mp hx
    have hoc : okS [c] := fun d hd => by rw [List.mem_singleton.mp hd]; exact hl c (List.mem_of_getElem? hc)
    have hc' : (⟨l.toArray⟩ : Str).cps[i]? = some c := by simpa using hc
    rcases hcl with rfl | rfl
    · exact wpAny_pyNext_ascii_item hit hc' fun h' hit' hs' => k _ h' _ (.str [c] _ hoc) hit' fun b o hb e => (hs'.2 b hb).trans e
    · exact wpAny_pyNext_wide_item hit hc' fun h' hit' hs' => k _ h' _ (.str [c] _ hoc) hit' fun b o hb e => (hs'.2 b hb).trans e
  done := by
    intro ρ hid st s hit hpre r hs A Q E hh k
    rw [List.length_map] at hit
    have hn : (⟨l.toArray⟩ : Str).cps[l.length]? = none := by simp
    rcases hcl with rfl | rfl
    · exact wpAny_pyNext_ascii_end hh hit hn fun h' hs' => k h' _ fun b o hb e => hs' b o hb e
    · exact wpAny_pyNext_wide_end hh hit hn fun h' hs' => k h' _ fun b o hb e => hs' b o hb e
  self := by
    intro i s hit A Q E hq
    rcases hcl with rfl | rfl
    · exact wpAny_pyIter_striter_ascii hit hq
    · exact wpAny_pyIter_striter_wide hit hq
  go := fun i s hit A target W Q E hq => by
    obtain ⟨o, ho, hc, hd⟩ := hit
    rcases hcl with rfl | rfl
    · exact go_plain ho hc (by decide) target W Q E hq
    · exact go_plain ho hc (by decide) target W Q E hq
theorem range_small {a b c : Int} (h : -1000000000 ≤ a ∧ a ≤ 1000000000 ∧ -1000000000 ≤ b ∧ b ≤ 1000000000 ∧ 0 < c ∧ c ≤ 1000000000) :
    Builtin.Range.small a b c = true ∧ Builtin.Range.rangeSize a b c = (((if a < b then ((b - a - 1) / c + 1).toNat else 0 : Nat)) : Int) := by
  obtain ⟨h1, h2, h3, h4, h5, h6⟩ := h
  have hdiv : a < b → 0 ≤ (b - a - 1) / c ∧ (b - a - 1) / c ≤ b - a - 1 := fun hab => ⟨Int.ediv_nonneg (by omega) (by omega), Int.ediv_le_self _ (by omega)⟩
  have hs : Builtin.Range.rangeSize a b c = (((if a < b then ((b - a - 1) / c + 1).toNat else 0 : Nat)) : Int) := by
    unfold Builtin.Range.rangeSize
    rw [if_pos h5]
    split
    · rename_i hab
      have := hdiv hab
      rw [Int.toNat_of_nonneg (by omega)]
    · rfl
  refine ⟨?_, hs⟩
  unfold Builtin.Range.small
  have hsz : 0 ≤ Builtin.Range.rangeSize a b c ∧ Builtin.Range.rangeSize a b c ≤ 2000000001 := by
    unfold Builtin.Range.rangeSize
    rw [if_pos h5]
    split
    · rename_i hab
      have := hdiv hab
      omega
    · omega
  have f : ∀ i : Int, -9000000000000000000 ≤ i → i ≤ 9000000000000000000 → Builtin.Range.rangeFitsLong i = true := fun i hi hi' => by
    unfold Builtin.Range.rangeFitsLong
    simp only [Bool.and_eq_true, decide_eq_true_eq]
    omega
  rw [f a (by omega) (by omega), f b (by omega) (by omega), f c (by omega) (by omega), f _ (by omega) (by omega), if_pos h5, f (b + (c - 1)) (by omega) (by omega)]
  simp
theorem iter_start {ρ : Map} {hid : Hd} {st st' : St} {s : Shared} (x : Rel cx ρ hid st s) {v : V} {W : Value} (hv : VR ρ v W) {r : Src × List V} (h : iterOf v st = .ok r st') {Ar : Around} {Q : Value → Shared → Prop} {E : Value → Shared → Prop}
    (k : ∀ I o At s', (∀ cx' : Cx, Iter cx' ρ r.1 r.2 I At) → At 0 s'.heap → Rel cx ρ (hid.cons (I, o)) st' s' → (∀ q ∈ hid.h, q.1 ≠ I) → Q (.ref I) s') : wpAny cx.M Ar (pyIter W) Q E s := by
  unfold iterOf at h
  split at h
  · rename_i i
    obtain ⟨p, hp, rfl⟩ := vr_obj hv
    obtain ⟨fz, led, m, mloc, x'⟩ := id x
    split at h
    · rename_i xs hi
      cases h
      obtain ⟨Xs, n, g1, g2⟩ := x'.list_at hi hp
      refine wpAny_pyIter_list ⟨_, (x'.N _ g2).1, rfl, _, rfl⟩ ?_
      obtain ⟨a, b⟩ := x.hide (ob := { cls := .type "list_iterator", data := .fields #[.ref p.1, .int 0 0] }) (tk := s.toks) rfl
      exact k _ _ _ _ (fun _ => iter_list hp) ⟨_, Heap.get?_push_size _ rfl, rfl, rfl⟩ a b
    · rename_i xs hi
      cases h
      obtain ⟨Xs, n, g1, g2⟩ := x'.tuple_at hi hp
      refine wpAny_pyIter_tuple ⟨_, (x'.N _ g2).1, rfl, _, rfl⟩ ?_
      obtain ⟨a, b⟩ := x.hide (ob := { cls := .type "tuple_iterator", data := .fields #[.ref p.1, .int 0 0] }) (tk := s.toks) rfl
      exact k _ _ _ _ (fun _ => iter_tuple hp) ⟨_, Heap.get?_push_size _ rfl, rfl, rfl⟩ a b
    · rename_i a b c hi
      split at h
      · rename_i hb
        cases h
        obtain ⟨A, B, S, w1, w2, w3, w4⟩ := x'.B.obj i _ p hi hp
        obtain ⟨t1, rfl⟩ := vr_int w1; obtain ⟨t2, rfl⟩ := vr_int w2; obtain ⟨t3, rfl⟩ := vr_int w3
        obtain ⟨hsm, hsz⟩ := range_small hb
        refine wpAny_pyIter_range (x'.N _ w4).1 hsm ?_
        obtain ⟨e1, e2⟩ := x.hide (ob := { cls := .type "range_iterator", data := .fields #[rawInt a, rawInt (Builtin.Range.rangeSize a b c), rawInt c] }) (tk := s.toks) rfl
        refine k _ _ _ _ (fun _ => iter_range (a := a) (c := c) (n := if a < b then ((b - a - 1) / c + 1).toNat else 0) _ ?_) ?_ e1 e2
        · unfold rangeInts; rw [List.map_map]; rfl
        · show Heap.get? _ _ = _
          rw [Heap.get?_push_size _ rfl, hsz]
          simp [rawInt]
      · cases h
    · cases h
  · have ho := vr_ok hv
    obtain ⟨t, rfl⟩ := vr_str hv
    cases h
    rename_i l
    cases ha : (⟨l.toArray⟩ : Str).cps.all (· < 128) with
    | false =>
      refine wpAny_pyIter_wide ha ?_
      obtain ⟨e1, e2⟩ := x.hide (ob := { cls := .type "str_iterator", data := .fields #[.str ⟨l.toArray⟩ t, .int 0 0] }) (tk := s.toks) rfl
      exact k _ _ _ _ (fun _ => iter_str ho (.inr rfl)) ⟨_, Heap.get?_push_size _ rfl, rfl, rfl⟩ e1 e2
    | true =>
      refine wpAny_pyIter_ascii ha ?_
      obtain ⟨e1, e2⟩ := x.hide (ob := { cls := .type "str_ascii_iterator", data := .fields #[.str ⟨l.toArray⟩ t, .int 0 0] }) (tk := s.toks) rfl
      exact k _ _ _ _ (fun _ => iter_str ho (.inl rfl)) ⟨_, Heap.get?_push_size _ rfl, rfl, rfl⟩ e1 e2
  · cases h
/-- targets -/
abbrev SimG (cx : Cx) (target : Expr) (g : V → PM Unit) : Prop := P1 cx (fun W => assign target cx.env W) g UR
theorem sim_target (ok : cx.Ok) {n : String} {pos : Pos} (hk : Asg cx n) : SimG cx (.Name (Str.ofString n) pos) (setL n) := by
  intro ρ hid st s x a A ha v st' h
  cases h
  exact wpAny_assign_Name (store_name ok x ha hk fun s' r => ⟨ρ, pre_refl ρ, r, trivial⟩)
theorem loop_turns (ok : cx.Ok) {target : Expr} {body : List Stmt} {g : V → PM Unit} {mb : PM Fl} (hg : SimG cx target g) (hb : SimSs cx body mb) {src : Src} {xs : List V} {I : Addr} {At : Nat → Heap → Prop} {ρ₀ : Map} {hid : Hd} (It : Iter cx ρ₀ src xs I At) (hI : ∀ q ∈ hid.h, q.1 ≠ I)
    {o : Obj} {st st' : St} {s : Shared} (x : Rel cx ρ₀ (hid.cons (I, o)) st s) (hat : At 0 s.heap) {fl : Fl} (h : loopF src (fun v => PM.bind (g v) fun _ => mb) xs st = .ok fl st') {R : Result → Shared → Prop}
    (hR : ∀ f s' ρ', ρ₀ <+: ρ' → Rel cx ρ' hid st' s' → FR ρ' fl f → R (.ok f) s') : codeAny cx.M cx.A (.forLoop target (.ref I) body [] cx.env) R s := by
  refine codeAny_forLoop_any (fun n s' => ∃ i ρ' o' st1, ρ₀ <+: ρ' ∧ Rel cx ρ' (hid.cons (I, o')) st1 s' ∧ At i s'.heap ∧ i ≤ xs.length ∧ n = xs.length + 1 - i ∧ loopF src (fun v => PM.bind (g v) fun _ => mb) (xs.drop i) st1 = .ok fl st') ?_ (xs.length + 1)
    ⟨0, ρ₀, o, st, pre_refl _, x, hat, Nat.zero_le _, rfl, h⟩
  rintro n s1 ⟨i, ρ1, o1, st1, p1, r1, a1, hi, rfl, e1⟩
  rcases Nat.lt_or_ge i xs.length with hlt | hge
  · have hx : xs[i]? = some xs[i] := List.getElem?_eq_getElem hlt
    have hd : xs.drop i = xs[i] :: xs.drop (i + 1) := List.drop_eq_getElem_cons hlt
    rw [hd] at e1
    unfold loopF at e1
    obtain ⟨_, st2, c1, e2⟩ := bind_ok e1
    obtain ⟨rfl, c2⟩ := chk_ok c1
    obtain ⟨f, st3, c3, e3⟩ := bind_ok e2
    obtain ⟨_, st4, c4, c5⟩ := bind_ok c3
    refine lf r1.pos (It.next i xs[i] ρ1 _ _ s1 hx a1 p1 r1 c2 cx.A _ _ fun W h' tk w1 w2 w3 htk => ?_)
    obtain ⟨o2, ho2⟩ := It.there _ _ w2
    have r2 := r1.turn (tk := tk) hI w3 ho2
    refine It.go (i + 1) _ w2 cx.A target W _ _ ?_
    refine wp_seq (hg ρ1 _ _ _ r2 _ W w1 () st4 c4) fun _ s3 ρ3 p3 r3 _ => ?_
    refine wp_seq (hb ρ3 _ _ _ r3 f st3 c5) fun fw s4 ρ4 p4 r4 hf => ?_
    have hat4 : At (i + 1) s4.heap := by
      refine It.frame (i + 1) h' s4.heap w2 fun ob hob => ?_
      have : ob = o2 := Option.some.inj (hob.symm.trans ho2)
      subst this
      obtain ⟨fz, led, m, mloc, r4'⟩ := id r4
      exact (r4'.N _ (r4'.B.hin _ (.head _))).1
    have pp : ρ₀ <+: ρ4 := pre_trans p1 (pre_trans p3 p4)
    cases hf with
    | next => exact ⟨xs.length + 1 - (i + 1), by omega, i + 1, ρ4, o2, st3, pp, r4, hat4, hlt, rfl, e3⟩
    | cont => exact ⟨xs.length + 1 - (i + 1), by omega, i + 1, ρ4, o2, st3, pp, r4, hat4, hlt, rfl, e3⟩
    | brk => cases e3; exact hR _ _ ρ4 pp r4.less .next
    | ret hv => cases e3; exact hR _ _ ρ4 pp r4.less (.ret hv)
  · have hil : i = xs.length := Nat.le_antisymm hi hge
    subst hil
    rw [List.drop_length] at e1
    unfold loopF at e1
    obtain ⟨_, st2, c1, e2⟩ := bind_ok e1
    obtain ⟨rfl, c2⟩ := chk_ok c1
    cases e2
    refine lf r1.pos (It.done ρ1 _ _ s1 a1 p1 r1 c2 cx.A _ _ ok.handled fun h' tk w3 htk => wpAny_execs_nil ?_)
    exact hR _ _ ρ1 p1 (r1.dropI hI w3) .next
theorem sim_For (ok : cx.Ok) {target iter : Expr} {body : List Stmt} {pos : Pos} {mi : PM V} {g : V → PM Unit} {mb : PM Fl} (hi : SimV cx (eval iter cx.env) mi) (hg : SimG cx target g) (hb : SimSs cx body mb)
    (hs : ∀ x, foldedSetIterable iter cx.env x = pure x) : SimS cx (.For target iter body [] pos) (PM.bind mi fun v => PM.bind (iterOf v) fun p => loopF p.1 (fun x => PM.bind (g x) fun _ => mb) p.2) := by
  intro ρ hid st s x v st' h
  obtain ⟨a, st1, e1, h1⟩ := bind_ok h
  obtain ⟨p, st2, e2, h2⟩ := bind_ok h1
  refine wpAny_For (wp_seq (hi ρ hid st s x a st1 e1) fun A s1 ρ1 p1 r1 v1 => iter_start r1 v1 e2 fun I o At s2 It hat r2 hI => ?_) hs
  exact loop_turns ok hg hb (It cx) hI r2 hat h2 fun f s' ρ' pp rr hf => ⟨ρ', pre_trans p1 pp, rr, hf⟩
end
end Mine
namespace Mine
/-- the cells that a comprehension sees -/
def clOf (scope : Scope) (env : Env) : List (Str × Addr) := (scope.names.filter (·.2 == .free)).reverse.filterMap fun x => (env.cells.lookup x.1).map fun c => (x.1, c)
theorem closureFor_eq {scope : Scope} {env : Env} (h : (scope.names.all fun y => y.2 != .free || (env.cells.lookup y.1).isSome) = true) : closureFor scope env = pure (clOf scope env) := by
  have key : ∀ (names : List (Str × NameKind)) (cs : List (Str × Addr)), (names.all fun y => y.2 != .free || (env.cells.lookup y.1).isSome) = true →
      (forIn names cs fun x (r : List (Str × Addr)) => (do
        if (x.2 == .free) = true then do
          let a ← cellOf env x.1
          pure (ForInStep.yield ((x.1, a) :: r))
        else pure (ForInStep.yield r) : Sem (ForInStep (List (Str × Addr))))) = pure (((names.filter (·.2 == .free)).reverse.filterMap fun x => (env.cells.lookup x.1).map fun c => (x.1, c)) ++ cs) := by
    intro names
    induction names with
    | nil => intro cs _; rfl
    | cons y r ih =>
      intro cs hy
      rw [List.all_cons, Bool.and_eq_true] at hy
      rw [List.forIn_cons]
      cases hk : (y.2 == NameKind.free) with
      | false =>
        simp only [Bool.false_eq_true, if_false]
        show (forIn r cs _ : Sem _) = _
        rw [ih cs hy.2, List.filter_cons, hk]
        simp
      | true =>
        have hsome : (env.cells.lookup y.1).isSome = true := by
          have := hy.1
          rw [bne, hk] at this
          simpa using this
        obtain ⟨c, hc⟩ := Option.isSome_iff_exists.mp hsome
        simp only [if_true]
        have hcell : cellOf env y.1 = pure c := by unfold cellOf; rw [hc]
        rw [hcell]
        show (forIn r ((y.1, c) :: cs) _ : Sem _) = _
        rw [ih _ hy.2, List.filter_cons, hk]
        simp [hc]
  have := key scope.names [] h
  rw [List.append_nil] at this
  unfold closureFor clOf
  show (forIn scope.names [] _ >>= fun r => pure r) = _
  rw [this]
  rfl
theorem clOf_mem {scope : Scope} {env : Env} {x : Str} {c : Addr} (h : (x, c) ∈ clOf scope env) : env.cells.lookup x = some c ∧ (x, NameKind.free) ∈ scope.names := by
  unfold clOf at h
  obtain ⟨y, hy, e⟩ := List.mem_filterMap.mp h
  obtain ⟨c', hc, e'⟩ := Option.map_eq_some_iff.mp e
  cases e'
  obtain ⟨h1, h2⟩ := List.mem_filter.mp (List.mem_reverse.mp hy)
  have : y.2 = .free := by simpa using h2
  exact ⟨hc, by rw [← this]; exact h1⟩
theorem lookup_mem {l : List (Str × Addr)} {x : Str} {c : Addr} (e : l.lookup x = some c) : (x, c) ∈ l := by
  induction l with
  | nil => cases e
  | cons a r ih =>
    rw [List.lookup_cons] at e
    cases q : x == a.1 with
    | true => rw [q] at e; cases e; rw [beq_iff_eq] at q; rw [q]; exact .head _
    | false => rw [q] at e; exact .tail _ (ih e)
theorem mem_lookup {l : List (Str × NameKind)} {x : Str} {k : NameKind} (e : l.lookup x = some k) : (x, k) ∈ l := by
  induction l with
  | nil => cases e
  | cons a r ih =>
    rw [List.lookup_cons] at e
    cases q : x == a.1 with
    | true => rw [q] at e; cases e; rw [beq_iff_eq] at q; rw [q]; exact .head _
    | false => rw [q] at e; exact .tail _ (ih e)
theorem clOf_lookup {scope : Scope} {env : Env} {x : Str} {c : Addr} (h : (clOf scope env).lookup x = some c) : env.cells.lookup x = some c := (clOf_mem (lookup_mem h)).1
theorem clOf_get {scope : Scope} {env : Env} {x : Str} {c : Addr} (hm : (x, NameKind.free) ∈ scope.names) (hc : env.cells.lookup x = some c) : (clOf scope env).lookup x = some c := by
  have hin : (x, c) ∈ clOf scope env := by
    unfold clOf
    exact List.mem_filterMap.mpr ⟨(x, .free), List.mem_reverse.mpr (List.mem_filter.mpr ⟨hm, rfl⟩), by rw [hc]; rfl⟩
  have all : ∀ y d, (y, d) ∈ clOf scope env → env.cells.lookup y = some d := fun y d h => (clOf_mem h).1
  generalize clOf scope env = l at hin all
  induction l with
  | nil => cases hin
  | cons a r ih =>
    rw [List.lookup_cons]
    cases q : x == a.1 with
    | true =>
      rw [beq_iff_eq] at q
      have := all a.1 a.2 (.head _)
      rw [← q, hc] at this
      exact this.symm
    | false =>
      rcases List.mem_cons.mp hin with e | e
      · rw [← e, beq_self_eq_true] at q; cases q
      · exact ih e fun y d h => all y d (.tail _ h)
theorem relabel_cell {scope : Scope} {env : Env} {x : Str} (hn : (scope.names.all fun y => y.2 != .cell) = true) (h : (relabel scope env).names.lookup x = some .cell) : env.kindOf x = some .cell := by
  have hm := mem_lookup h
  unfold relabel at hm
  obtain ⟨y, hy, e⟩ := List.mem_map.mp hm
  have hc := List.all_eq_true.mp hn y hy
  dsimp only at e
  split at e
  · rename_i hq
    rw [Bool.and_eq_true, Bool.and_eq_true] at hq
    cases e
    exact beq_iff_eq.mp hq.2
  · have e2 : y.2 = NameKind.cell := (Prod.mk.inj e).2
    rw [e2] at hc
    simp at hc
theorem relabel_own {scope : Scope} {env : Env} {x : Str} (hk : env.scope.kind = .function) (he : env.kindOf x = some .cell) : ∀ {names : List (Str × NameKind)}, names.lookup x = some .free →
    (names.map fun (n, k) => if (k == NameKind.free && env.scope.kind == .function && env.kindOf n == some .cell) then (n, NameKind.cell) else (n, k)).lookup x = some .cell
  | [], h => by cases h
  | (n, k) :: r, h => by
    rw [List.lookup_cons] at h
    rw [List.map_cons]
    dsimp only
    cases q : x == n with
    | true =>
      rw [q] at h
      cases h
      rw [beq_iff_eq] at q
      subst q
      rw [if_pos (by rw [hk, he]; rfl), List.lookup_cons, beq_self_eq_true]
    | false =>
      rw [q] at h
      have ih := relabel_own (scope := scope) hk he h
      split <;> (rw [List.lookup_cons, q]; exact ih)
theorem relabel_free {scope : Scope} {env : Env} {x : Str} : ∀ {names : List (Str × NameKind)}, names.lookup x = some .free →
    (names.map fun (n, k) => if (k == NameKind.free && env.scope.kind == .function && env.kindOf n == some .cell) then (n, NameKind.cell) else (n, k)).lookup x = some .cell ∨
    (names.map fun (n, k) => if (k == NameKind.free && env.scope.kind == .function && env.kindOf n == some .cell) then (n, NameKind.cell) else (n, k)).lookup x = some .free
  | [], h => by cases h
  | (n, k) :: r, h => by
    rw [List.lookup_cons] at h
    rw [List.map_cons]
    dsimp only
    cases q : x == n with
    | true =>
      rw [q] at h
      cases h
      split
      · left; rw [List.lookup_cons, q]
      · right; rw [List.lookup_cons, q]
    | false =>
      rw [q] at h
      have ih := relabel_free (scope := scope) (env := env) h
      split <;> (rw [List.lookup_cons, q]; exact ih)
structure CompOk (scope : Scope) (env : Env) (fr : List String) : Prop where
  kind : scope.kind = .function
  nocell : (scope.names.all fun y => y.2 != .cell) = true
  free : (scope.names.all fun y => y.2 != .free || (env.cells.lookup y.1).isSome) = true
  frf : (fr.all fun n => scope.names.lookup (Str.ofString n) == some .free) = true
  frk : (fr.all fun n => env.kindOf (Str.ofString n) != some .local) = true
  names : (scope.names.all fun x => x.2 != .local || scope.names.lookup x.1 == some .local) = true
  namesF : (scope.names.all fun x => x.2 != .free || (scope.names.lookup x.1 == some .free && fr.any fun n => Str.ofString n == x.1)) = true
abbrev Cx.comp (cx : Cx) (scope : Scope) (C : Addr) (fm : Str → Option Value) : Cx := { cx with env := compEnvC scope (clOf scope cx.env) C cx.env, fm := fm }
open Classical in
noncomputable def inScope {α : Type} (fr : List String) (m : PM α) : PM α := fun st => match m ⟨fun n => if n ∈ fr then st.loc n else none, st.sto⟩ with
  | .ok a st' => if (∀ n ∈ fr, st'.loc n = st.loc n) then .ok a ⟨st.loc, st'.sto⟩ else .fail
  | _ => .fail
noncomputable def compM (src : Src) (g : V → PM Unit) (conds : PM Bool) (elt : PM V) : List V → List V → PM (List V)
  | acc, [] => PM.bind (chk src) fun _ => PM.pure acc
  | acc, x :: r => PM.bind (chk src) fun _ => PM.bind (g x) fun _ => PM.bind conds fun b => match b with
    | true => PM.bind elt fun v => fun st => if acc.length ≤ 1000000 then compM src g conds elt (acc ++ [v]) r st else .fail
    | false => compM src g conds elt acc r
section
variable {cx : Cx}
theorem comp_ok (ok : cx.Ok) {scope : Scope} {fr : List String} (c : CompOk scope cx.env fr) (C : Addr) (fm : Str → Option Value) : (cx.comp scope C fm).Ok :=
  ⟨ok.bmain, ok.kin, ok.top, ok.below, ok.frames, ok.fframe, ok.fkind, c.kind, ok.globals, ok.builtins, ok.handled, ok.depth, ok.units, fun x y d h1 h2 => ok.cinj x y d (clOf_lookup h1) (clOf_lookup h2)⟩
theorem Rel.hsub {ρ : Map} {hid hid' : Hd} {st : St} {s : Shared} (x : Rel cx ρ hid st s) (h1 : ∀ q ∈ hid'.h, q ∈ hid.h) (h2 : ∀ q ∈ hid'.z, q ∈ hid.z) : Rel cx ρ hid' st s := by
  obtain ⟨fz, led, m, mloc, x⟩ := x
  have B := x.B
  refine ⟨fz, led, m, mloc, x.F, x.N, ⟨B.nd, B.cm, ?_, B.len, B.own, B.obj, B.sep, fun q hq => B.hin q (h1 q hq), fun q hq => B.hsep q (h1 q hq), B.cel, fun y c hc => ⟨fun q hq => (B.csep y c hc).1 q (h1 q hq), (B.csep y c hc).2⟩, B.fin, fun q hq => B.fz0 q (h2 q hq), fun q hq => B.hfz q (h1 q hq), B.fsep, B.fcel, B.loc⟩, x.gens, x.os, x.tk⟩
  rcases B.ln with h | ⟨g1, o, es, ep, g2, g3, g4, g5, g6, g7, g8, g9⟩
  · exact .inl h
  · exact .inr ⟨g1, o, es, ep, g2, g3, g4, g5, g6, fun q hq => g7 q (h1 q hq), g8, g9⟩
open Classical in
noncomputable def hidC (ρ : Map) (fz led : Led) (cs : List (Str × Addr)) : Hd := ⟨led.filter fun q => decide ((∀ p ∈ ρ, q.1 ≠ p.1 ∧ q.1 ≠ p.2) ∧ (∀ r ∈ fz, r.1 ≠ q.1) ∧ ∀ y ∈ cs, q.1 ≠ y.2), fz⟩
theorem mem_hidC {ρ : Map} {fz led : Led} {cs : List (Str × Addr)} {q : Addr × Obj} : q ∈ (hidC ρ fz led cs).h ↔ q ∈ led ∧ (∀ p ∈ ρ, q.1 ≠ p.1 ∧ q.1 ≠ p.2) ∧ (∀ r ∈ fz, r.1 ≠ q.1) ∧ ∀ y ∈ cs, q.1 ≠ y.2 := by
  unfold hidC
  simp only [List.mem_filter, decide_eq_true_eq]
theorem bear_comp_in {ρ : Map} {hid : Hd} {fz led : Led} {m mloc : Str → Option Value} {st : St} (B : Bear cx ρ hid fz led m mloc st) {scope : Scope} {fr : List String} (c : CompOk scope cx.env fr) {C : Addr} {oC : Obj} {es : Array DictEntry} {ep : Nat}
    (hC : ∀ q ∈ led, q.1 ≠ C) (hCL : C ≠ cx.L) (hd : oC.data = .dict es ep) (hs : StrKeys es) (hf : ∀ y, nsFind es y = none) :
    Bear (cx.comp scope C m) ρ (hidC ρ fz led (clOf scope cx.env)) fz ((C, oC) :: led) m (fun _ => none) ⟨fun n => if n ∈ fr then st.loc n else none, st.sto⟩ := by
  have own : ∀ p ∈ ρ, p.1 ≠ C ∧ p.2 ≠ C := fun p hp => by
    obtain ⟨q, hq, e⟩ := List.mem_map.mp (B.own p hp).1
    obtain ⟨q', hq', e'⟩ := List.mem_map.mp (B.own p hp).2
    exact ⟨e ▸ hC q hq, e' ▸ hC q' hq'⟩
  refine ⟨?_, fun _ => rfl, .inr ⟨hCL, oC, es, ep, .head _, hd, hs, hf, own, fun q hq => hC q (mem_hidC.mp hq).1, fun q hq => hC q (B.fin q hq), fun x hx => ?_⟩, B.len, fun p hp => ⟨.tail _ (B.own p hp).1, .tail _ (B.own p hp).2⟩, fun i o p h1 h2 => ?_, B.sep, fun q hq => .tail _ (mem_hidC.mp hq).1, fun q hq => (mem_hidC.mp hq).2.1, fun x d hx => ?_, fun x d hx => ⟨fun q hq => ?_, (B.csep x d (clOf_lookup hx)).2⟩, fun q hq => .tail _ (B.fin q hq), fun q hq => hq, fun q hq => (mem_hidC.mp hq).2.2.1, B.fsep, fun hz q hq x hx he => ?_, fun n v hv => ?_⟩
  · rw [List.map_cons, List.nodup_cons]
    refine ⟨fun h => ?_, B.nd⟩
    obtain ⟨q, hq, e⟩ := List.mem_map.mp h
    exact hC q hq e
  · obtain ⟨o, v, h1, _⟩ := B.cel x _ (clOf_lookup hx)
    exact hC _ h1 rfl
  · have := (B.obj i o p h1 h2).mono (led' := (C, oC) :: led) (pre_refl _) (fun _ h => h) fun _ _ h _ => .tail _ h
    cases o <;> exact this
  · obtain ⟨o, v, h1, h2⟩ := B.cel x d (clOf_lookup hx)
    exact ⟨o, v, .tail _ h1, h2⟩
  · exact (mem_hidC.mp hq).2.2.2 (x, d) (lookup_mem hx)
  · exact B.fcel hz q hq x (relabel_cell c.nocell hx) (clOf_lookup he)
  · dsimp only at hv
    split at hv
    · rename_i hn
      obtain ⟨W, h1, h2⟩ := B.loc n v hv
      refine ⟨W, h1, ?_⟩
      have hfree := beq_iff_eq.mp (List.all_eq_true.mp c.frf n hn)
      have hnl := List.all_eq_true.mp c.frk n hn
      rcases h2 with ⟨hk, _⟩ | ⟨_, d, o, g1, g2, g3⟩
      · rw [hk] at hnl; simp at hnl
      · exact .inr ⟨relabel_free (scope := scope) hfree, d, o, clOf_get (mem_lookup hfree) g1, .tail _ g2, g3⟩
    · cases hv
theorem bear_comp_out (ok : cx.Ok) {ρ ρ' : Map} {hid hid' : Hd} {fz led fz' led' : Led} {m mloc mloc' m' : Str → Option Value} {st st' : St} (B : Bear cx ρ hid fz led m mloc st) {scope : Scope} {fr : List String} (c : CompOk scope cx.env fr) {C D : Addr} {oD : Obj} (hCL : C ≠ cx.L)
    (hρ : ρ <+: ρ') (B' : Bear (cx.comp scope C m) ρ' hid' fz' led' m' mloc' st') (hD : (D, oD) ∈ hid'.h) (hDf : ∀ q ∈ led, q.1 ≠ D)
    (hH : ∀ q ∈ led, (∀ p ∈ ρ, q.1 ≠ p.1 ∧ q.1 ≠ p.2) → (∀ r ∈ fz, r.1 ≠ q.1) → (∀ y ∈ clOf scope cx.env, q.1 ≠ y.2) → q ∈ hid'.h) (hz : ∀ q ∈ fz, q ∈ hid'.z) (hloc : ∀ n ∈ fr, st'.loc n = st.loc n) :
    m' = m ∧ ∃ oC es ep, oC.data = .dict es ep ∧ StrKeys es ∧ (C, oC) ∈ led' ∧ Bear cx ρ' ((hid.cons (D, oD)).cons (C, oC)) fz' led' m mloc ⟨st.loc, st'.sto⟩ := by
  refine ⟨B'.cm hCL, ?_⟩
  have frn : ∀ {x : Str} {d : Addr}, (clOf scope cx.env).lookup x = some d → ∃ n ∈ fr, Str.ofString n = x ∧ scope.names.lookup x = some .free := fun {x d} h => by
    have := List.all_eq_true.mp c.namesF _ (clOf_mem (lookup_mem h)).2
    simp only [bne_self_eq_false, Bool.false_or, Bool.and_eq_true, beq_iff_eq, List.any_eq_true] at this
    obtain ⟨h1, n, hn, e⟩ := this
    exact ⟨n, hn, e, h1⟩
  -- what lies outside the comprehension's sight stands
  have keep : ∀ q ∈ led, (∀ p ∈ ρ, q.1 ≠ p.1 ∧ q.1 ≠ p.2) → (∀ y ∈ clOf scope cx.env, q.1 ≠ y.2) → q ∈ led' ∧ (q ∈ hid'.h ∨ q ∈ fz') := fun q hq hp hy => by
    by_cases hf : ∀ r ∈ fz, r.1 ≠ q.1
    · have := hH q hq hp hf hy
      exact ⟨B'.hin q this, .inl this⟩
    · obtain ⟨r, hr'⟩ := Classical.not_forall.mp hf
      obtain ⟨hr, e⟩ := Classical.not_imp.mp hr'
      have e : r.1 = q.1 := Classical.not_not.mp e
      have hrq : r = q := by
        have h1 := B.fin r hr
        obtain ⟨a, o⟩ := r
        obtain ⟨b, o'⟩ := q
        dsimp only at e
        subst e
        rw [nodup_mem B.nd h1 hq]
      subst hrq
      have := B'.fz0 _ (hz _ hr)
      exact ⟨B'.fin _ this, .inr this⟩
  have off : ∀ q, q ∈ hid'.h ∨ q ∈ fz' → ∀ p ∈ ρ', q.1 ≠ p.1 ∧ q.1 ≠ p.2 := fun q hq p hp => by
    rcases hq with h | h
    · exact B'.hsep q h p hp
    · exact B'.fsep q h p hp
  obtain ⟨oC, es, ep, k2, k3, k4, k5, k6, k7, k8, k9⟩ : ∃ oC es ep, (C, oC) ∈ led' ∧ oC.data = .dict es ep ∧ StrKeys es ∧ (∀ name, nsFind es name = mloc' name) ∧
      (∀ p ∈ ρ', p.1 ≠ C ∧ p.2 ≠ C) ∧ (∀ q ∈ hid'.h, q.1 ≠ C) ∧ (∀ q ∈ fz', q.1 ≠ C) ∧ (∀ x, (clOf scope cx.env).lookup x ≠ some C) := by
    rcases B'.ln with h | ⟨_, h⟩
    · exact absurd h.1 hCL
    · exact h
  have hidk : ∀ q ∈ hid.h, q ∈ hid'.h := fun q hq => hH q (B.hin q hq) (B.hsep q hq) (fun r hr => B.hfz q hq r hr) fun y hy => by
    obtain ⟨z1, _⟩ := clOf_mem (show (y.1, y.2) ∈ _ from hy)
    exact (B.csep y.1 y.2 z1).1 q hq
  -- a cell of the outer block: seen by the comprehension, or standing
  have cell : ∀ x d o, cx.env.cells.lookup x = some d → (d, o) ∈ led → (clOf scope cx.env).lookup x = some d ∨ ((d, o) ∈ led' ∧ ((d, o) ∈ hid'.h ∨ (d, o) ∈ fz')) := fun x d o hx ho => by
    by_cases hy : ∀ y ∈ clOf scope cx.env, d ≠ y.2
    · exact .inr (keep (d, o) ho (fun p hp => ⟨Ne.symm ((B.csep x d hx).2 p hp).1, Ne.symm ((B.csep x d hx).2 p hp).2⟩) hy)
    · obtain ⟨y, hy'⟩ := Classical.not_forall.mp hy
      obtain ⟨hy, e⟩ := Classical.not_imp.mp hy'
      have e : d = y.2 := Classical.not_not.mp e
      obtain ⟨z1, z2⟩ := clOf_mem (show (y.1, y.2) ∈ _ from hy)
      have : x = y.1 := ok.cinj x y.1 d hx (by rw [e]; exact z1)
      subst this
      exact .inl (clOf_get z2 hx)
  refine ⟨oC, es, ep, k3, k4, k2, B'.nd, B.cm, ?_, B'.len, B'.own, fun i o p h1 h2 => ?_, B'.sep, fun q hq => ?_, fun q hq => ?_, fun x d hx => ?_, fun x d hx => ⟨fun q hq => ?_, fun p hp => ?_⟩, B'.fin, fun q hq => B'.fz0 q (hz q (B.fz0 q hq)), fun q hq r hr => ?_, B'.fsep, fun hzz q hq x hx he => ?_, fun n v hv => ?_⟩
  · rcases B.ln with h | ⟨g1, o, es', ep', g2, g3, g4, g5, g6, g7, g8, g9⟩
    · exact .inl h
    · have hl : (cx.env.locals, o) ∈ hid'.h := hH _ g2 (fun p hp => ⟨Ne.symm (g6 p hp).1, Ne.symm (g6 p hp).2⟩) (fun r hr => g8 r hr) fun y hy e => by
        obtain ⟨z1, _⟩ := clOf_mem (show (y.1, y.2) ∈ _ from hy)
        exact g9 y.1 (by rw [z1]; exact congrArg some e.symm)
      refine .inr ⟨g1, o, es', ep', B'.hin _ hl, g3, g4, g5, fun p hp => ⟨Ne.symm (B'.hsep _ hl p hp).1, Ne.symm (B'.hsep _ hl p hp).2⟩, fun q hq => ?_, fun q hq => B'.hfz _ hl q hq, g9⟩
      rcases List.mem_cons.mp hq with rfl | hq
      · exact Ne.symm (k7 _ hl)
      · rcases List.mem_cons.mp hq with rfl | hq
        · exact Ne.symm (hDf _ g2)
        · exact g7 q hq
  · have := B'.obj i o p h1 h2
    cases o <;> exact this
  · rcases List.mem_cons.mp hq with rfl | hq
    · exact k2
    · rcases List.mem_cons.mp hq with rfl | hq
      · exact B'.hin _ hD
      · exact B'.hin q (hidk q hq)
  · rcases List.mem_cons.mp hq with rfl | hq
    · exact fun p hp => ⟨Ne.symm (k6 p hp).1, Ne.symm (k6 p hp).2⟩
    · rcases List.mem_cons.mp hq with rfl | hq
      · exact B'.hsep _ hD
      · exact B'.hsep q (hidk q hq)
  · obtain ⟨o, v, h1, h2⟩ := B.cel x d hx
    rcases cell x d o hx h1 with h | h
    · exact B'.cel x d h
    · exact ⟨o, v, h.1, h2⟩
  · obtain ⟨o, v, h1, h2⟩ := B.cel x d hx
    rcases List.mem_cons.mp hq with rfl | hq
    · rcases cell x d o hx h1 with h | h
      · exact fun e => k9 x (by rw [h]; exact congrArg some e.symm)
      · rcases h.2 with h | h
        · exact Ne.symm (k7 _ h)
        · exact Ne.symm (k8 _ h)
    · rcases List.mem_cons.mp hq with rfl | hq
      · exact Ne.symm (hDf _ h1)
      · exact (B.csep x d hx).1 q hq
  · obtain ⟨o, v, h1, h2⟩ := B.cel x d hx
    rcases cell x d o hx h1 with h | h
    · exact (B'.csep x d h).2 p hp
    · have := off _ h.2 p hp
      exact ⟨Ne.symm this.1, Ne.symm this.2⟩
  · rcases List.mem_cons.mp hq with rfl | hq
    · exact k8 r hr
    · rcases List.mem_cons.mp hq with rfl | hq
      · exact B'.hfz _ hD r hr
      · exact B'.hfz q (hidk q hq) r hr
  · obtain ⟨o, v, h1, h2⟩ := B.cel x _ he
    by_cases hcl : (clOf scope cx.env).lookup x = some q.1
    · obtain ⟨n, hn, e, hfree⟩ := frn hcl
      exact B'.fcel hzz q hq x (relabel_own (scope := scope) ok.kind hx hfree) hcl
    · have hy : ∀ y ∈ clOf scope cx.env, q.1 ≠ y.2 := fun y hy e => by
        obtain ⟨z1, z2⟩ := clOf_mem (show (y.1, y.2) ∈ _ from hy)
        have : x = y.1 := ok.cinj x y.1 q.1 he (by rw [e]; exact z1)
        subst this
        exact hcl (clOf_get z2 he)
      have := hH (q.1, o) h1 (fun p hp => ⟨Ne.symm ((B.csep x _ he).2 p hp).1, Ne.symm ((B.csep x _ he).2 p hp).2⟩) (fun r hr e => B.fcel hzz r hr x hx (by rw [e]; exact he)) hy
      exact B'.hfz _ this q hq rfl
  · obtain ⟨W, h1, h2⟩ := B.loc n v hv
    rcases h2 with h2 | ⟨hk, d, o, g1, g2, g3⟩
    · exact ⟨W, h1.mono hρ, .inl h2⟩
    · rcases cell _ d o g1 g2 with h | h
      · obtain ⟨n', hn', e, hfree⟩ := frn h
        have : n' = n := ofString_inj e
        subst this
        obtain ⟨W', w1, w2⟩ := B'.loc n' v (by rw [hloc n' hn']; exact hv)
        refine ⟨W', w1, ?_⟩
        rcases w2 with ⟨z1, _⟩ | ⟨_, d', o', z1, z2, z3⟩
        · exfalso
          have := relabel_free (scope := scope) (env := cx.env) hfree
          have z1' : (relabel scope cx.env).names.lookup (Str.ofString n') = some .local := z1
          unfold relabel at z1'
          rcases this with q | q <;> (rw [q] at z1'; cases z1')
        · exact .inr ⟨hk, d', o', clOf_lookup z1, z2, z3⟩
      · exact ⟨W, h1.mono hρ, .inr ⟨hk, d, o, g1, h.1, g3⟩⟩
end
end Mine
namespace Mine
abbrev Tests (env : Env) (ifs : List Expr) : Sem Bool := forIn ifs true fun c r => if r = true then do let ok ← isTrue c env (eval c env); pure (ForInStep.yield ok) else pure (ForInStep.yield r)
section
variable {cx : Cx}
theorem sim_tests_nil : Sim cx (Tests cx.env []) (PM.pure true) BR := by
  intro ρ hid st s x v st' h; cases h
  exact wpAny_tests_nil ⟨ρ, pre_refl ρ, x, rfl⟩
theorem sim_tests_one {c : Expr} {m : PM Bool} (h : SimT cx c m) : Sim cx (Tests cx.env [c]) m BR := by
  intro ρ hid st s x v st' e
  exact wpAny_tests_one (h ρ hid st s x v st' e)
theorem comp_turns (ok : cx.Ok) {elt iter : Expr} {x : Str} {px : Pos} {ifs : List Expr} {scope : Scope} {pos : Pos} {g : V → PM Unit} {mc : PM Bool} {me : PM V} (hg : SimG cx (.Name x px) g) (hc : Sim cx (Tests cx.env ifs) mc BR) (he : SimV cx (eval elt cx.env) me)
    {src : Src} {xs : List V} {I D : Addr} {At : Nat → Heap → Prop} {ρ₀ : Map} {H : Hd} (It : Iter cx ρ₀ src xs I At) (hI : ∀ q ∈ H.h, q.1 ≠ I) (hD : ∀ q ∈ H.h, q.1 ≠ D) (hDI : D ≠ I)
    {o : Obj} {st st' : St} {s : Shared} (x0 : Rel cx ρ₀ ((H.cons (D, listObj [] 0)).cons (I, o)) st s) (hat : At 0 s.heap) {res : List V} (h : compM src g mc me [] xs st = .ok res st') {R : Result → Shared → Prop}
    (hR : ∀ s' ρ' Ys k, ρ₀ <+: ρ' → VRs ρ' res Ys → Rel cx ρ' (H.cons (D, listObj Ys k)) st' s' → R (.ok .next) s') :
    codeAny cx.M cx.A (.compLoop (.ListComp elt [⟨.Name x px, iter, ifs, 0⟩] scope pos) 0 (.ref I) (.ref D) cx.env) R s := by
  refine codeAny_compLoop_tests (fun n s' => ∃ i ρ' o' ys Ys k st1, ρ₀ <+: ρ' ∧ VRs ρ' ys Ys ∧ Rel cx ρ' ((H.cons (D, listObj Ys k)).cons (I, o')) st1 s' ∧ At i s'.heap ∧ i ≤ xs.length ∧ n = xs.length + 1 - i ∧ compM src g mc me ys (xs.drop i) st1 = .ok res st') ?_ (xs.length + 1)
    ⟨0, ρ₀, o, [], [], 0, st, pre_refl _, .nil, x0, hat, Nat.zero_le _, rfl, h⟩
  rintro n s1 ⟨i, ρ1, o1, ys, Ys, k, st1, p1, vy, r1, a1, hi, rfl, e1⟩
  have hI' : ∀ (Ys : List Value) (k : Nat), ∀ q ∈ (H.cons (D, listObj Ys k)).h, q.1 ≠ I := fun Ys k q hq => by
    rcases List.mem_cons.mp hq with rfl | hq
    · exact hDI
    · exact hI q hq
  rcases Nat.lt_or_ge i xs.length with hlt | hge
  · have hx : xs[i]? = some xs[i] := List.getElem?_eq_getElem hlt
    have hd : xs.drop i = xs[i] :: xs.drop (i + 1) := List.drop_eq_getElem_cons hlt
    rw [hd] at e1
    unfold compM at e1
    obtain ⟨_, st2, c1, e2⟩ := bind_ok e1
    obtain ⟨rfl, c2⟩ := chk_ok c1
    obtain ⟨_, st4, c4, e3⟩ := bind_ok e2
    obtain ⟨b, st5, c5, e4⟩ := bind_ok e3
    refine lf r1.pos (It.next i xs[i] ρ1 _ _ s1 hx a1 p1 r1 c2 cx.A _ _ fun W h' tk w1 w2 w3 htk => ?_)
    obtain ⟨o2, ho2⟩ := It.there _ _ w2
    have r2 := r1.turn (tk := tk) (hI' Ys k) w3 ho2
    refine wp_seq (hg ρ1 _ _ _ r2 _ W w1 () st4 c4) fun _ s3 ρ3 p3 r3 _ => ?_
    refine wp_seq (hc ρ3 _ _ _ r3 b st5 c5) fun b' s4 ρ4 p4 r4 hb => ?_
    cases hb
    have atI : ∀ {s5 : Shared} {ρ5 : Map} {hh : Hd} {st6 : St}, Rel cx ρ5 (hh.cons (I, o2)) st6 s5 → At (i + 1) s5.heap := fun {s5 ρ5 hh st6} r5 => by
      refine It.frame (i + 1) h' s5.heap w2 fun ob hob => ?_
      have : ob = o2 := Option.some.inj (hob.symm.trans ho2)
      subst this
      obtain ⟨fz, led, m, mloc, r5'⟩ := id r5
      exact (r5'.N _ (r5'.B.hin _ (.head _))).1
    cases b with
    | false =>
      rw [if_neg (by simp)]
      exact ⟨xs.length + 1 - (i + 1), by omega, i + 1, ρ4, o2, ys, Ys, k, st5, pre_trans p1 (pre_trans p3 p4), vy.mono (pre_trans p3 p4), r4, atI r4, hlt, rfl, e4⟩
    | true =>
      rw [if_pos rfl]
      obtain ⟨v, st6, c6, e5⟩ := bind_ok e4
      split at e5
      · rename_i hlen
        refine wp_seq (he ρ4 _ _ _ r4 v st6 c6) fun X s5 ρ5 p5 r5 hX => ?_
        have pp := pre_trans p3 (pre_trans p4 p5)
        have r5s : Rel cx ρ5 ((H.cons (I, o2)).cons (D, listObj Ys k)) st6 s5 := r5.hsub (fun q hq => by
          rcases List.mem_cons.mp hq with rfl | hq
          · exact .tail _ (.head _)
          · rcases List.mem_cons.mp hq with rfl | hq
            · exact .head _
            · exact .tail _ (.tail _ hq)) fun q hq => hq
        obtain ⟨fz, led, m, mloc, r5'⟩ := id r5s
        refine append_at (hsz := by rw [List.size_toArray, ← vy.length]; exact list_fits hlen) (r5'.N _ (r5'.B.hin _ (.head _))).1 fun h6 hs6 ho6 => ?_
        rw [size_push_eq] at ho6
        have r6 := r5s.turn (tk := s5.toks) (fun q hq => by
          rcases List.mem_cons.mp hq with rfl | hq
          · exact Ne.symm hDI
          · exact hD q hq) (fun b ob hb e => (hs6.2 b hb).trans e) ho6
        have r6s : Rel cx ρ5 ((H.cons (D, listObj (Ys ++ [X]) (k + 1))).cons (I, o2)) st6 { s5 with heap := h6 } := r6.hsub (fun q hq => by
          rcases List.mem_cons.mp hq with rfl | hq
          · exact .tail _ (.head _)
          · rcases List.mem_cons.mp hq with rfl | hq
            · exact .head _
            · exact .tail _ (.tail _ hq)) fun q hq => hq
        exact ⟨xs.length + 1 - (i + 1), by omega, i + 1, ρ5, o2, ys ++ [v], Ys ++ [X], k + 1, st6, pre_trans p1 pp, vrs_append (vy.mono pp) (.cons hX .nil), r6s, atI r6s, hlt, rfl, e5⟩
      · cases e5
  · have hil : i = xs.length := Nat.le_antisymm hi hge
    subst hil
    rw [List.drop_length] at e1
    unfold compM at e1
    obtain ⟨_, st2, c1, e2⟩ := bind_ok e1
    obtain ⟨rfl, c2⟩ := chk_ok c1
    cases e2
    refine lf r1.pos (It.done ρ1 _ _ s1 a1 p1 r1 c2 cx.A _ _ ok.handled fun h' tk w3 htk => ?_)
    exact hR _ ρ1 Ys k p1 vy (r1.dropI (hI' Ys k) w3)
/-- a comprehension up to its filled list -/
theorem comp_run (ok : cx.Ok) {elt iter : Expr} {n : String} {px : Pos} {ifs : List Expr} {scope : Scope} {fr : List String} {pos cpos : Pos} {mi : PM V} {mc : PM Bool} {me : PM V} (c : CompOk scope cx.env fr) (hi : SimV cx (eval iter cx.env) mi)
    (hx : scope.names.lookup (Str.ofString n) = some .local)
    (hc : ∀ C fm, (cx.comp scope C fm).Ok → Sim (cx.comp scope C fm) (Tests (cx.comp scope C fm).env ifs) mc BR) (he : ∀ C fm, (cx.comp scope C fm).Ok → SimV (cx.comp scope C fm) (eval elt (cx.comp scope C fm).env) me)
    (hs : ∀ x, foldedSetIterable iter cx.env x = pure x) {use : Option (Value → Sem Unit)} {Q : Value → Shared → Prop}
    {ρ : Map} {hid : Hd} {st st1 st2 st3 : St} {s : Shared} (x : Rel cx ρ hid st s) {a : V} {p : Src × List V} {vs : List V} (e1 : mi st = .ok a st1) (e2 : iterOf a st1 = .ok p st2) (e3 : inScope fr (compM p.1 (setL n) mc me [] p.2) st2 = .ok vs st3)
    (k : ∀ D C oC es ep Ys k s' ρ', ρ <+: ρ' → VRs ρ' vs Ys → Rel cx ρ' ((hid.cons (D, listObj Ys k)).cons (C, oC)) st3 s' → oC.data = .dict es ep → StrKeys es → (∀ q ∈ hid.h, q.1 ≠ D) → (∀ q ∈ (hid.cons (D, listObj Ys k)).h, q.1 ≠ C) →
      compPost cx.M cx.A (fun _ _ => False) use Q (.ref D) C (.ok .next) s') :
    wpAny cx.M cx.A (comprehension (.ListComp elt [⟨.Name (Str.ofString n) px, iter, ifs, 0⟩] scope pos) scope cx.env cpos (newList []) false (eval iter cx.env) use) Q (fun _ _ => False) s := by
  have hcell : ∀ y ∈ scope.names, y.2 ≠ .cell := fun y hy => by simpa using List.all_eq_true.mp c.nocell y hy
  refine wpAny_comprehension_free (g := ⟨.Name (Str.ofString n) px, iter, ifs, 0⟩) (gs := []) rfl hs (closureFor_eq c.free) c.kind (fun y hy hl => by have := List.all_eq_true.mp c.names y hy; rw [hl] at this; simpa using this) ?_
  refine wp_seq (hi ρ hid st s x a st1 e1) fun A1 s1 ρ1 p1 r1 v1 => iter_start r1 v1 e2 fun I o At s2 It hat r2 hI => ?_
  refine wpAny_newObj_type ?_ (by show (0 : Nat) ≤ sizeLine; exact Nat.zero_le _)
  obtain ⟨r3, hD⟩ := r2.hide (ob := listObj [] 0) (tk := s2.toks) rfl
  generalize hDdef : s2.heap.objs.size = D at r3 hD
  have hDI : I ≠ D := hD (I, o) (.head _)
  have hDh : ∀ q ∈ hid.h, q.1 ≠ D := fun q hq => hD q (.tail _ hq)
  have at3 : At 0 (s2.heap.push (listObj [] 0)) := (It cx).frame 0 s2.heap _ hat fun ob hob => Heap.get?_push_of_some _ hob
  refine wpAny_newFunctionEnv hcell (by intro y hy; simp at hy) (fun h' hns hsb => ?_) c.kind
  obtain ⟨fz, led, m, mloc, r3⟩ := r3
  have B3 := r3.B
  generalize hH3 : s2.heap.push (listObj [] 0) = H3 at *
  have hfr := news_fresh r3.N
  generalize hCdef : H3.objs.size = C at *
  obtain ⟨oC, es, ep, hoC, hdC, hkC, hfC⟩ := hns
  have hCL : C ≠ cx.L := by
    obtain ⟨oL, _, _, hL, _⟩ := r3.F.ns
    have := Heap.lt_size hL
    intro e
    rw [← e, ← hCdef] at this
    exact Nat.lt_irrefl _ this
  have hC0 : cx.h₀.get? C = none := by
    cases q : cx.h₀.get? C with
    | none => rfl
    | some o' =>
      have := Heap.lt_size (r3.F.keep _ _ q)
      rw [hCdef] at this
      exact absurd this (Nat.lt_irrefl _)
  have old : ∀ b ob, H3.get? b = some ob → h'.get? b = some ob := fun b ob e => by
    have hne : b ≠ C := by
      intro q
      have := Heap.lt_size e
      rw [q, hCdef] at this
      exact Nat.lt_irrefl _ this
    exact (hsb.2 b hne).trans (Heap.get?_push_of_some _ e)
  have F4 : Fr cx.h₀ cx.L h' m := ⟨r3.F.ns.keeps old, fun b ob e => old b ob (r3.F.keep b ob e), r3.F.above⟩
  have N4 : News cx.h₀ cx.L h' ((C, oC) :: led) := fun q hq => by
    rcases List.mem_cons.mp hq with rfl | hq
    · exact ⟨hoC, hCL, hC0⟩
    · have := r3.N q hq
      exact ⟨old _ _ this.1, this.2⟩
  have B4 := bear_comp_in B3 c (C := C) (oC := oC) hfr hCL hdC hkC (fun y => by rw [hfC]; rfl)
  -- what is hidden within
  have nocl : ∀ q ∈ ((hid.cons (I, o)).cons (D, listObj [] 0)).h, ∀ y ∈ clOf scope cx.env, q.1 ≠ y.2 := fun q hq y hy => by
    obtain ⟨z1, _⟩ := clOf_mem (show (y.1, y.2) ∈ _ from hy)
    exact (B3.csep y.1 y.2 z1).1 q hq
  have inC : ∀ q ∈ ((hid.cons (I, o)).cons (D, listObj [] 0)).h, q ∈ (hidC ρ1 fz led (clOf scope cx.env)).h := fun q hq => mem_hidC.mpr ⟨B3.hin q hq, B3.hsep q hq, fun r hr => B3.hfz q hq r hr, nocl q hq⟩
  let H0 : Hd := ⟨(hidC ρ1 fz led (clOf scope cx.env)).h.filter (fun q => decide (q.1 ≠ I) && decide (q.1 ≠ D)), fz⟩
  have hH0 : ∀ q ∈ H0.h, q ∈ (hidC ρ1 fz led (clOf scope cx.env)).h ∧ q.1 ≠ I ∧ q.1 ≠ D := fun q hq => by
    have := List.mem_filter.mp hq
    rw [Bool.and_eq_true, decide_eq_true_eq, decide_eq_true_eq] at this
    exact this
  have R4 : Rel (cx.comp scope C m) ρ1 ((H0.cons (D, listObj [] 0)).cons (I, o)) ⟨fun k => if k ∈ fr then st2.loc k else none, st2.sto⟩ { s2 with heap := h' } := by
    refine Rel.hsub (hid := hidC ρ1 fz led (clOf scope cx.env)) ⟨fz, _, m, _, F4, N4, B4, r3.gens, r3.os, r3.tk⟩ (fun q hq => ?_) fun q hq => hq
    rcases List.mem_cons.mp hq with rfl | hq
    · exact inC _ (.tail _ (.head _))
    · rcases List.mem_cons.mp hq with rfl | hq
      · exact inC _ (.head _)
      · exact (hH0 q hq).1
  have okc := comp_ok ok c C m
  unfold inScope at e3
  split at e3
  · rename_i vs' st4 e4
    split at e3
    · rename_i hloc
      cases e3
      have at4 : At 0 h' := (It cx).frame 0 H3 h' at3 fun ob hob => old _ _ hob
      have loop : ∀ s4 : Shared, s4 = { s2 with heap := h', toks := s2.toks + ([] : List (Str × Value)).length } →
          codeAny cx.M cx.A (.compLoop (.ListComp elt [⟨.Name (Str.ofString n) px, iter, ifs, 0⟩] scope pos) 0 (.ref I) (.ref D) (compEnvC scope (clOf scope cx.env) C cx.env)) (compPost cx.M cx.A (fun _ _ => False) use Q (.ref D) C) s4 := by
        rintro s4 rfl
        refine comp_turns (cx := cx.comp scope C m) okc (sim_target okc (.inl (lookup_relabel_local hx))) (hc C m okc) (he C m okc) (It _) (fun q hq => (hH0 q hq).2.1) (fun q hq => (hH0 q hq).2.2) (Ne.symm hDI) R4 at4 e4 fun s5 ρ5 Ys kk p5 v5 r5 => ?_
        obtain ⟨fz5, led5, m5, mloc5, r5⟩ := r5
        have B00 := (B3.drop (fun q hq => hD q hq)).drop (fun q hq => hI q hq)
        obtain ⟨rfl, oC5, es5, ep5, d5, k5, mem5, B5⟩ := bear_comp_out (D := D) (oD := listObj Ys kk) ok B00 c hCL p5 r5.B (.head _) (fun q hq => by
            have := List.mem_filter.mp (List.mem_filter.mp hq).1
            exact of_decide_eq_true this.2) (fun q hq hp hf hy => by
            have h1 := List.mem_filter.mp hq
            have h2 := List.mem_filter.mp h1.1
            refine .tail _ (List.mem_filter.mpr ⟨mem_hidC.mpr ⟨h2.1, hp, hf, hy⟩, ?_⟩)
            rw [Bool.and_eq_true]
            exact ⟨h1.2, h2.2⟩) (fun q hq => hq) hloc
        refine k D C oC5 es5 ep5 Ys kk s5 ρ5 (pre_trans p1 p5) v5 ⟨fz5, led5, m5, mloc, r5.F, r5.N, B5, r5.gens, r5.os, r5.tk⟩ d5 k5 hDh fun q hq => ?_
        have := B5.nd
        intro e
        rcases List.mem_cons.mp hq with rfl | hq
        · have h1 := B5.hin _ (.tail _ (.head _))
          have h2 := B5.hin _ (.head _)
          have : listObj Ys kk = oC5 := nodup_mem B5.nd (e ▸ h1) h2
          rw [← this] at d5
          cases d5
        · have := B3.hin q (.tail _ (.tail _ hq))
          exact hfr q this e
      exact codeAny_compStart_list (loop _ rfl) ((It cx).self 0 _ at4 cx.A _ _ (loop _ rfl))
    · cases e3
  · cases e3
/-- the comprehension's program -/
noncomputable def compV (fr : List String) (n : String) (mi : PM V) (mc : PM Bool) (me : PM V) : PM V := PM.bind mi fun a => PM.bind (iterOf a) fun p => PM.bind (inScope fr (compM p.1 (setL n) mc me [] p.2)) fun vs => alloc (.list vs)
theorem sim_ListComp (ok : cx.Ok) {elt iter : Expr} {n : String} {px : Pos} {ifs : List Expr} {scope : Scope} {fr : List String} {pos : Pos} {mi : PM V} {mc : PM Bool} {me : PM V} (c : CompOk scope cx.env fr) (hi : SimV cx (eval iter cx.env) mi)
    (hx : scope.names.lookup (Str.ofString n) = some .local)
    (hc : ∀ C fm, (cx.comp scope C fm).Ok → Sim (cx.comp scope C fm) (Tests (cx.comp scope C fm).env ifs) mc BR) (he : ∀ C fm, (cx.comp scope C fm).Ok → SimV (cx.comp scope C fm) (eval elt (cx.comp scope C fm).env) me)
    (hs : ∀ x, foldedSetIterable iter cx.env x = pure x) : SimV cx (eval (.ListComp elt [⟨.Name (Str.ofString n) px, iter, ifs, 0⟩] scope pos) cx.env) (compV fr n mi mc me) := by
  intro ρ hid st s x v st' h
  obtain ⟨a, st1, e1, h1⟩ := bind_ok h
  obtain ⟨p, st2, e2, h2⟩ := bind_ok h1
  obtain ⟨vs, st3, e3, h3⟩ := bind_ok h2
  rw [eval_ListComp]
  refine comp_run ok c hi hx hc he hs (use := none) x e1 e2 e3 fun D C oC es ep Ys k s' ρ' pp vv rr hd hk hD hC => ?_
  obtain ⟨fz, led, m, mloc, rr'⟩ := id rr
  refine ⟨_, ⟨oC, es, ep, (rr'.N _ (rr'.B.hin _ (.head _))).1, hd, hk, fun _ => rfl⟩, fun h' hs' => ?_⟩
  have r1 := rr.dropI (tk := s'.toks) hC (fun b ob hb e => (hs'.2 b hb).trans e)
  obtain ⟨r2, v2⟩ := r1.enterH hD vv
  cases h3
  exact ⟨_, pre_trans pp (List.prefix_append _ _), r2, v2⟩
theorem sim_AssignComp (ok : cx.Ok) {elt iter : Expr} {n y : String} {px py spos : Pos} {ifs : List Expr} {scope : Scope} {fr : List String} {pos : Pos} {mi : PM V} {mc : PM Bool} {me : PM V} (c : CompOk scope cx.env fr) (hi : SimV cx (eval iter cx.env) mi)
    (hx : scope.names.lookup (Str.ofString n) = some .local)
    (hc : ∀ C fm, (cx.comp scope C fm).Ok → Sim (cx.comp scope C fm) (Tests (cx.comp scope C fm).env ifs) mc BR) (he : ∀ C fm, (cx.comp scope C fm).Ok → SimV (cx.comp scope C fm) (eval elt (cx.comp scope C fm).env) me)
    (hs : ∀ x, foldedSetIterable iter cx.env x = pure x) (hk : Asg cx y)
    (hsw : swapsWith (.ListComp elt [⟨.Name (Str.ofString n) px, iter, ifs, 0⟩] scope pos) (some (.Name (Str.ofString y) py)) spos.line cx.env = pure true) :
    SimS cx (.Assign [.Name (Str.ofString y) py] (.ListComp elt [⟨.Name (Str.ofString n) px, iter, ifs, 0⟩] scope pos) spos) (PM.bind (compV fr n mi mc me) fun v => PM.bind (setL y v) fun _ => PM.pure .next) := by
  intro ρ hid st s x v st' h0
  obtain ⟨w, st5, h, h5⟩ := bind_ok h0
  obtain ⟨a, st1, e1, h1⟩ := bind_ok h
  obtain ⟨p, st2, e2, h2⟩ := bind_ok h1
  obtain ⟨vs, st3, e3, h3⟩ := bind_ok h2
  cases h3
  cases h5
  rw [exec_Assign_Name_used _ _ _ _ hsw]
  refine wpAny_bind (wpAny_standAt (wpAny_bind ?_))
  show wpAny _ cx.A (do let _ ← comprehension (.ListComp elt [⟨.Name (Str.ofString n) px, iter, ifs, 0⟩] scope pos) scope cx.env _ (newList []) false (eval iter cx.env) (some (assign (.Name (Str.ofString y) py) cx.env))) _ _ s
  refine wpAny_bind (wpAny_mono (comp_run ok c hi hx hc he hs (use := some (assign (.Name (Str.ofString y) py) cx.env)) (Q := fun _ s' => ∃ ρ', ρ <+: ρ' ∧ Rel cx ρ' hid _ s' ∧ FR ρ' .next .next) x e1 e2 e3 fun D C oC es ep Ys k s' ρ' pp vv rr hd hkk hD hC => ?_)
    (fun _ s' hq => wpAny_pure (wpAny_pure hq)) fun _ _ e => e)
  show wpAny _ cx.A (assign (.Name (Str.ofString y) py) cx.env (.ref D)) _ _ _
  have rs : Rel cx ρ' ((hid.cons (C, oC)).cons (D, listObj Ys k)) st3 s' := rr.hsub (fun q hq => by
    rcases List.mem_cons.mp hq with rfl | hq
    · exact .tail _ (.head _)
    · rcases List.mem_cons.mp hq with rfl | hq
      · exact .head _
      · exact .tail _ (.tail _ hq)) fun q hq => hq
  obtain ⟨r2, v2⟩ := rs.enterH (fun q hq => by
    rcases List.mem_cons.mp hq with rfl | hq
    · exact Ne.symm (hC _ (.head _))
    · exact hD q hq) vv
  refine wpAny_assign_Name (store_name ok r2 v2 hk fun s'' r'' => ?_)
  obtain ⟨fz, led, m, mloc, rr'⟩ := id r''
  refine ⟨_, ⟨oC, es, ep, (rr'.N _ (rr'.B.hin _ (.head _))).1, hd, hkk, fun _ => rfl⟩, fun h' hs' => ?_⟩
  exact ⟨_, pre_trans pp (List.prefix_append _ _), r''.dropI (tk := s''.toks) (fun q hq => hC q (.tail _ hq)) (fun b ob hb e => (hs'.2 b hb).trans e), .next⟩
end
end Mine
namespace Mine
/-- an index into a row of n, from behind if below nought -/
def idx (n : Nat) (k : Int) : Option Nat := if 0 ≤ k then (if k < n then some k.toNat else none) else (if 0 ≤ k + n then some (k + n).toNat else none)
theorem idx_lt {n : Nat} {k : Int} {j : Nat} (h : idx n k = some j) : j < n ∧ seqIndex? k n = some j ∧ ((0 ≤ k ∧ j = k.toNat ∧ k < n) ∨ (k < 0 ∧ j = (k + n).toNat ∧ 0 ≤ k + n)) := by
  unfold idx at h
  have key : j < n ∧ ((0 ≤ k ∧ j = k.toNat ∧ k < n) ∨ (k < 0 ∧ j = (k + n).toNat ∧ 0 ≤ k + n)) := by
    split at h
    · split at h
      · cases h; exact ⟨by omega, .inl ⟨by assumption, rfl, by assumption⟩⟩
      · cases h
    · split at h
      · cases h; exact ⟨by omega, .inr ⟨by omega, rfl, by assumption⟩⟩
      · cases h
  refine ⟨key.1, ?_, key.2⟩
  unfold seqIndex?
  rcases key.2 with ⟨h1, h2, h3⟩ | ⟨h1, h2, h3⟩
  · simp only [show ¬ k < 0 from by omega, if_false]
    rw [if_pos (by simp; omega), h2]
  · simp only [h1, if_true]
    rw [if_pos (by simp; omega), h2]
def itemP (st : St) (o i : V) : Option V := match o, i with
  | .obj j, .int k => (match st.sto[j]? with
    | some (.list xs) => if xs.length ≤ 1000000 then (idx xs.length k).bind (xs[·]?) else none
    | some (.tuple xs) => if xs.length ≤ 1000000 then (idx xs.length k).bind (xs[·]?) else none
    | _ => none)
  | .str l, .int k => if l.length ≤ 1000000 then (idx l.length k).bind fun j => (l[j]?).map fun c => .str [c] else none
  | _, _ => none
def pItem (o i : V) : PM V := fun st => match itemP st o i with | some v => .ok v st | none => .fail
/-- a cut of a row -/
def cutAt (n : Nat) (lo : Option Int) (d : Nat) : Nat := lo.elim d (clipAt n)
def cut {α : Type} (xs : List α) (lo hi : Option Int) : List α := (xs.drop (cutAt xs.length lo 0)).take (cutAt xs.length hi xs.length - cutAt xs.length lo 0)
def asPart : V → Option (Option Int)
  | .none => some none
  | .int i => some (some i)
  | _ => none
def sliceP (o l u : V) : PM V := fun st => match asPart l, asPart u with
  | some lo, some hi => (match o with
    | .obj j => (match st.sto[j]? with
      | some (.list xs) => if xs.length ≤ 1000000 then alloc (.list (cut xs lo hi)) st else .fail
      | _ => .fail)
    | .str s => if s.length ≤ 1000000 then .ok (.str (cut s lo hi)) st else .fail
    | _ => .fail)
  | _, _ => .fail
theorem vrs_cut {ρ : Map} {xs : List V} {Xs : List Value} (h : VRs ρ xs Xs) (lo hi : Option Int) : VRs ρ (cut xs lo hi) (cut Xs lo hi) := by
  unfold cut
  rw [← h.length]
  exact vrs_take _ (vrs_drop _ h)
theorem okS_cut {l : List Nat} (h : okS l) (lo hi : Option Int) : okS (cut l lo hi) := okS_take _ (okS_drop _ h)
section
variable {cx : Cx}
theorem isPart {ρ : Map} {v : V} {W : Value} {p : Option Int} (hv : VR ρ v W) (h : asPart v = some p) : IsPart W p := by
  unfold asPart at h
  split at h
  · cases h; cases vr_none hv; exact .none
  · cases h; obtain ⟨t, rfl⟩ := vr_int hv; exact .int _ t
  · cases h
theorem p_item (ok : cx.Ok) : P2 cx getItem pItem VR := by
  intro ρ hid st s x a A b B ha hb v st' h
  unfold pItem at h
  split at h
  · rename_i w e
    cases h
    unfold itemP at e
    split at e
    · rename_i j k
      obtain ⟨p, hp, rfl⟩ := vr_obj ha
      obtain ⟨t, rfl⟩ := vr_int hb
      obtain ⟨fz, led, m, mloc, x'⟩ := id x
      split at e
      · rename_i xs hi
        split at e
        · rename_i hl
          obtain ⟨j', hj, hv⟩ := Option.bind_eq_some_iff.mp e
          obtain ⟨Xs, n, g1, g2⟩ := x'.list_at hi hp
          obtain ⟨W, w1, w2⟩ := vrs_get g1 hv
          have hlen := g1.length
          have hl' : s.heap.IsList p.1 Xs.toArray := ⟨_, (x'.N _ g2).1, rfl, _, rfl⟩
          rcases (idx_lt hj).2.2 with ⟨k1, rfl, k3⟩ | ⟨k1, rfl, k3⟩
          · exact wpAny_getItem_list hl' k1 (by omega) (by simpa using w1) (fin_same x w2)
          · refine wpAny_getItem_list_neg hl' k1 (by rw [List.size_toArray]; omega) (by omega) ?_ (fin_same x w2)
            rw [List.size_toArray, ← hlen]
            simpa using w1
        · cases e
      · rename_i xs hi
        split at e
        · rename_i hl
          obtain ⟨j', hj, hv⟩ := Option.bind_eq_some_iff.mp e
          obtain ⟨Xs, n, g1, g2⟩ := x'.tuple_at hi hp
          obtain ⟨W, w1, w2⟩ := vrs_get g1 hv
          have hlen := g1.length
          obtain ⟨i1, i2, i3⟩ := idx_lt hj
          refine PySem.P.getItem_tuple (k := j') (y := W) (x'.N _ g2).1 ?_ ?_ (by rw [List.size_toArray, ← hlen]; exact i2) (by simpa using w1) (fin_same x w2)
          · rcases i3 with h | h <;> omega
          · rcases i3 with h | h <;> omega
        · cases e
      · cases e
    · rename_i l k
      have hok := vr_ok ha
      obtain ⟨t, rfl⟩ := vr_str ha
      obtain ⟨u, rfl⟩ := vr_int hb
      split at e
      · rename_i hl
        obtain ⟨j', hj, hv⟩ := Option.bind_eq_some_iff.mp e
        obtain ⟨c, hc, rfl⟩ := Option.map_eq_some_iff.mp hv
        obtain ⟨i1, i2, i3⟩ := idx_lt hj
        have hoc : okS [c] := fun d hd => by rw [List.mem_singleton.mp hd]; exact hok c (List.mem_of_getElem? hc)
        refine PyProof.Rows.getItem_str (c := c) ?_ ?_ (fin_toks x (.str [c] _ hoc))
        · rcases i3 with h | h <;> simp <;> omega
        · rw [str_len, i2]; simpa using hc
      · cases e
    · cases e
  · cases h
/-- a built-in container's type, for a subscript -/
theorem plain_sub {ρ : Map} {hid : Hd} {st : St} {s : Shared} (x : Rel cx ρ hid st s) {o : V} {A : Value} (ha : VR ρ o A) (hk : (∃ j xs, o = .obj j ∧ (st.sto[j]? = some (.list xs) ∨ st.sto[j]? = some (.tuple xs))) ∨ ∃ l, o = .str l) :
    ∃ T bid, s.TypeIs A T ∧ typeLookup (.type T) "__getitem__" = pure (some (.builtin bid)) := by
  rcases hk with ⟨j, xs, rfl, h | h⟩ | ⟨l, rfl⟩
  · obtain ⟨p, hp, rfl⟩ := vr_obj ha
    obtain ⟨fz, led, m, mloc, x'⟩ := x
    obtain ⟨Xs, n, g1, g2⟩ := x'.list_at h hp
    exact ⟨_, _, ⟨_, (x'.N _ g2).1, rfl⟩, PySem.F.slot_list_getitem.lookup⟩
  · obtain ⟨p, hp, rfl⟩ := vr_obj ha
    obtain ⟨fz, led, m, mloc, x'⟩ := x
    obtain ⟨Xs, n, g1, g2⟩ := x'.tuple_at h hp
    exact ⟨_, _, ⟨_, (x'.N _ g2).1, rfl⟩, PySem.F.slot_tuple_getitem.lookup⟩
  · obtain ⟨t, rfl⟩ := vr_str ha
    exact ⟨_, _, typeIs_str _ _ _, PySem.F.slot_str_getitem.lookup⟩
theorem itemP_kind {st : St} {o i v : V} (h : itemP st o i = some v) : (∃ j xs, o = .obj j ∧ (st.sto[j]? = some (.list xs) ∨ st.sto[j]? = some (.tuple xs))) ∨ ∃ l, o = .str l := by
  unfold itemP at h
  split at h
  · split at h
    · exact .inl ⟨_, _, rfl, .inl (by assumption)⟩
    · exact .inl ⟨_, _, rfl, .inr (by assumption)⟩
    · cases h
  · exact .inr ⟨_, rfl⟩
  · cases h
theorem sim_Subscript (ok : cx.Ok) {value slice : Expr} {pos : Pos} {mo mi : PM V} (ho : SimV cx (eval value cx.env) mo) (hi : SimV cx (eval slice cx.env) mi) (hs : ∀ o i, subscripted slice false o i = operate [o, i] (getItem o i)) :
    SimV cx (eval (.Subscript value slice pos) cx.env) (PM.bind mo fun o => PM.bind mi fun i => pItem o i) := by
  intro ρ hid st s x v st' h
  obtain ⟨a, st1, e1, h1⟩ := bind_ok h
  obtain ⟨b, st2, e2, h2⟩ := bind_ok h1
  refine Subscript_ (wp_seq (ho ρ hid st s x a st1 e1) fun A s1 ρ1 p1 r1 v1 => wp_seq (hi ρ1 hid st1 s1 r1 b st2 e2) fun B s2 ρ2 p2 r2 v2 => ?_)
  have hk : itemP st2 a b = some v := by
    unfold pItem at h2
    split at h2
    · rename_i e; cases h2; exact e
    · cases h2
  obtain ⟨T, bid, hT, hl⟩ := plain_sub r2 (v1.mono p2) (itemP_kind hk)
  exact tail_any hT hl (wp_seq (p_item ok ρ2 hid st2 s2 r2 a A b B (v1.mono p2) v2 v st' h2) fun W s3 ρ3 p3 r3 v3 => ⟨ρ3, pre_trans p1 (pre_trans p2 p3), r3, v3⟩) (hs A B)
theorem strSlice_eq (l : List Nat) (lo hi : Option Int) : ((Builtin.Str.strSliceIndices lo hi 1 l.length).filterMap (l[·]?)) = cut l lo hi := by
  have e : Builtin.Str.strSliceIndices lo hi 1 l.length = sliceRange (sliceBounds lo hi none l.length).1 (sliceBounds lo hi none l.length).2.1 (sliceBounds lo hi none l.length).2.2 := by
    unfold Builtin.Str.strSliceIndices sliceBounds
    cases lo <;> cases hi <;> rfl
  rw [e, sliceBounds_plain]
  unfold cut cutAt
  simp only [sliceRange_one]
  have := pick_run l.toArray (lo.elim 0 (clipAt l.length)) (hi.elim l.length (clipAt l.length) - lo.elim 0 (clipAt l.length))
  simpa using this
theorem partOf {W : Value} {p : Option Int} (h : IsPart W p) : ∃ q : Option (Int × Tok), partValue q = W ∧ q.map (·.1) = p := by
  cases h with
  | none => exact ⟨none, rfl, rfl⟩
  | int i t => exact ⟨some (i, t), rfl, rfl⟩
theorem cut_whole {l : List Nat} {lo hi : Option Int} (h : (Builtin.Str.strSliceIndices lo hi 1 l.length).length = l.length) : cut l lo hi = l := by
  have e := strSlice_eq l lo hi
  have e2 : Builtin.Str.strSliceIndices lo hi 1 l.length = (List.range (cutAt l.length hi l.length - cutAt l.length lo 0)).map (cutAt l.length lo 0 + ·) := by
    have e : Builtin.Str.strSliceIndices lo hi 1 l.length = sliceRange (sliceBounds lo hi none l.length).1 (sliceBounds lo hi none l.length).2.1 (sliceBounds lo hi none l.length).2.2 := by
      unfold Builtin.Str.strSliceIndices sliceBounds
      cases lo <;> cases hi <;> rfl
    rw [e, sliceBounds_plain]
    unfold cutAt
    simp only [sliceRange_one]
  rw [e2, List.length_map, List.length_range] at h
  unfold cut
  have hle : cutAt l.length hi l.length ≤ l.length := by
    unfold cutAt
    cases hi with
    | none => exact Nat.le_refl _
    | some i => show clipAt l.length i ≤ l.length; unfold clipAt; omega
  by_cases hz : l.length = 0
  · rw [List.length_eq_zero_iff.mp hz]; simp
  · have h0 : cutAt l.length lo 0 = 0 := by omega
    rw [h, h0]; simp
/-- an optional part of a slice -/
abbrev SimO (cx : Cx) (o : Option Expr) (m : PM V) : Prop := SimV cx (valueOrNone (evalOpt o cx.env)) m
theorem sim_part_none : SimO cx none (PM.pure .none) := by
  intro ρ hid st s x v st' h; cases h
  exact wpAny_pure ⟨ρ, pre_refl ρ, x, .none⟩
theorem sim_part_some {e : Expr} {m : PM V} (h : SimV cx (eval e cx.env) m) : SimO cx (some e) m := h
theorem sim_Slice {value : Expr} {lo up : Option Expr} {sp pos : Pos} {mo ml mu : PM V} (ho : SimV cx (eval value cx.env) mo) (hl : SimO cx lo ml) (hu : SimO cx up mu) :
    SimV cx (eval (.Subscript value (.Slice lo up none sp) pos) cx.env) (PM.bind mo fun o => PM.bind ml fun l => PM.bind mu fun u => sliceP o l u) := by
  intro ρ hid st s x v st' h
  obtain ⟨a, st1, e1, h1⟩ := bind_ok h
  obtain ⟨b, st2, e2, h2⟩ := bind_ok h1
  obtain ⟨c, st3, e3, h3⟩ := bind_ok h2
  refine Subscript_ (wp_seq (ho ρ hid st s x a st1 e1) fun A s1 ρ1 p1 r1 v1 => ?_)
  rw [arm_eval_Slice]
  refine wpAny_bind (wp_seq (hl ρ1 hid st1 s1 r1 b st2 e2) fun B s2 ρ2 p2 r2 v2 => wpAny_bind (wpAny_holding (wp_seq (hu ρ2 hid st2 s2 r2 c st3 e3) fun C s3 ρ3 p3 r3 v3 => wpAny_bind (wpAny_holding (wpAny_pure ?_)))))
  refine wpAny_newObj_type ?_ (by size_fits)
  have pp := pre_trans p1 (pre_trans p2 p3)
  have va := v1.mono (pre_trans p2 p3)
  have vb := v2.mono p3
  unfold sliceP at h3
  split at h3
  · rename_i lo' hi' q1 q2
    have P1 := isPart vb q1
    have P2 := isPart v3 q2
    split at h3
    · rename_i j
      obtain ⟨p, hp, rfl⟩ := vr_obj va
      split at h3
      · rename_i xs hj
        split at h3
        · rename_i hlen
          cases h3
          obtain ⟨fz, led, m, mloc, r3'⟩ := id r3
          obtain ⟨Xs, n, g1, g2⟩ := r3'.list_at hj hp
          have hln := g1.length
          have hlp : (s3.heap.push { cls := .type "slice", data := .fields #[B, C, .none] }).IsList p.1 Xs.toArray := ⟨_, Heap.get?_push_of_some _ (r3'.N _ g2).1, rfl, _, rfl⟩
          have rg := rel_garbage r3 (ob := { cls := .type "slice", data := .fields #[B, C, .none] }) (tk := s3.toks) rfl
          refine tail_any (T := "list") ⟨_, Heap.get?_push_of_some _ (r3'.N _ g2).1, rfl⟩ PySem.F.slot_list_getitem.lookup ?_ (by with_unfolding_all rfl)
          refine wpAny_getItem_list_slice hlp (Heap.IsSliceOf.new ..) P1 P2 .none (by simp) ?_ (by rw [List.size_toArray, ← hln]; exact list_fits hlen)
          have e : slicePick Xs.toArray lo' hi' none = (cut Xs lo' hi').toArray := by
            rw [slicePick_plain]; unfold cut cutAt; simp
          rw [e]
          obtain ⟨r4, v4⟩ := rel_push rg (ob := listObj (cut Xs lo' hi') 0) (o := .list (cut xs lo' hi')) (tk := s3.toks) rfl fun fz led => ⟨_, 0, (vrs_cut g1 lo' hi').mono (List.prefix_append _ _), .head _⟩
          exact ⟨_, pre_trans pp (List.prefix_append _ _), r4, v4⟩
        · cases h3
      · cases h3
    · rename_i l
      have hok := vr_ok va
      obtain ⟨t, rfl⟩ := vr_str va
      split at h3
      · rename_i hlen
        cases h3
        have rg := rel_garbage r3 (ob := { cls := .type "slice", data := .fields #[B, C, .none] }) (tk := s3.toks) rfl
        obtain ⟨lb, hlb1, hlb2⟩ := partOf P1
        obtain ⟨ub, hub1, hub2⟩ := partOf P2
        refine tail_any (typeIs_str _ _ _) PySem.F.slot_str_getitem.lookup ?_ (by with_unfolding_all rfl)
        refine wpAny_getItem_str_slice (l := lb) (u := ub) (st := none) ⟨_, Heap.get?_push_size _ rfl, rfl, by rw [hlb1, hub1]; rfl⟩ rfl ?_
        have hp : slicePicked ⟨l.toArray⟩ lb ub none = Builtin.Str.strSliceIndices lo' hi' 1 l.length := by
          unfold slicePicked
          rw [hlb2, hub2, str_len]; rfl
        have hc : ((slicePicked ⟨l.toArray⟩ lb ub none).filterMap ((⟨l.toArray⟩ : Str).cps[·]?)) = cut l lo' hi' := by
          rw [hp, ← strSlice_eq]
          simp
        have hokc := okS_cut hok lo' hi'
        unfold sliceMade
        rw [hc]
        split
        · rename_i hq
          have hlen2 : (slicePicked ⟨l.toArray⟩ lb ub none).length = l.length := by
            rw [Bool.and_eq_true] at hq
            have := hq.2
            rw [beq_iff_eq, str_len] at this
            exact this
          have heq : cut l lo' hi' = l := cut_whole (by rw [← hp]; exact hlen2)
          refine ⟨ρ3, pp, rg, ?_⟩
          rw [heq]
          exact .str l t hok
        · refine ⟨?_, ρ3, pp, rg.toks _, .str _ _ hokc⟩
          rw [str_len]
          unfold cut
          rw [List.length_take, List.length_drop]
          have := list_fits hlen
          omega
      · cases h3
    · cases h3
  · cases h3
end
end Mine
namespace Mine
theorem Rel.grow {cx : Cx} {ρ : Map} {hid : Hd} {st : St} {s : Shared} {h' : Heap} {tk : Nat} (x : Rel cx ρ hid st s) (hk : ∀ b o, s.heap.get? b = some o → h'.get? b = some o) (htk : 0 < tk := by first | assumption | exact Nat.succ_pos _ | exact Rel.pos (by assumption) | exact RelD.tk (by assumption)) : Rel cx ρ hid st { s with heap := h', toks := tk } := by
  obtain ⟨fz, led, m, mloc, x⟩ := x
  exact ⟨fz, led, m, mloc, ⟨x.F.ns.keeps hk, fun b o e => hk b o (x.F.keep b o e), x.F.above⟩, fun q hq => ⟨hk _ _ (x.N q hq).1, (x.N q hq).2⟩, x.B, x.gens, x.os, htk⟩
/-- an item stored -/
def setItemP (v o i : V) : PM Unit := fun st => match o, i with
  | .obj j, .int k => (match st.sto[j]? with
    | some (.list xs) => if xs.length ≤ 1000000 then (match idx xs.length k with | some n => .ok () { st with sto := st.sto.set j (.list (xs.set n v)) } | none => .fail) else .fail
    | _ => .fail)
  | _, _ => .fail
section
variable {cx : Cx}
/-- a tuple taken apart -/
def asgAll : List (V → PM Unit) → List V → PM Unit
  | [], [] => PM.pure ()
  | g :: gs, v :: vs => PM.bind (g v) fun _ => asgAll gs vs
  | _, _ => PM.fail
def unpackP (gs : List (V → PM Unit)) : V → PM Unit
  | .obj j => fun st => match st.sto[j]? with
    | some (.tuple xs) => if xs.length = gs.length then asgAll gs xs st else .fail
    | _ => .fail
  | _ => PM.fail
structure SimGs (cx : Cx) (elts : List Expr) (gs : List (V → PM Unit)) : Prop where
  len : (assignEach elts cx.env).length = gs.length
  star : (assignEach elts cx.env).findIdx? (·.1) = none
  run : PL cx (fun Vs => assignInOrder ((assignEach elts cx.env).map (·.2)) Vs) (asgAll gs) UR
theorem sim_tgts_nil : SimGs cx [] [] := ⟨rfl, rfl, by
  intro ρ hid st s x vs Vs hv v st' h
  cases hv with
  | nil => cases h; exact wpAny_pure ⟨ρ, pre_refl ρ, x, trivial⟩
  | cons _ _ => cases h⟩
theorem sim_tgts_cons {e : Expr} {elts : List Expr} {g : V → PM Unit} {gs : List (V → PM Unit)} (h1 : SimG cx e g) (h2 : SimGs cx elts gs) (he : assignEach (e :: elts) cx.env = (false, assign e cx.env) :: assignEach elts cx.env) : SimGs cx (e :: elts) (g :: gs) := by
  refine ⟨by rw [he, List.length_cons, List.length_cons, h2.len], by rw [he, List.findIdx?_cons]; simp [h2.star], ?_⟩
  intro ρ hid st s x vs Vs hv v st' h
  cases hv with
  | nil => cases h
  | cons y t =>
    obtain ⟨_, st1, e1, h3⟩ := bind_ok h
    rw [he]
    show wpAny _ _ (assignInOrder (assign e cx.env :: (assignEach elts cx.env).map (·.2)) _) _ _ _
    unfold assignInOrder
    refine wpAny_bind (wpAny_holding (wp_seq (h1 ρ hid st s x _ _ y () st1 e1) fun _ s1 ρ1 p1 r1 _ => ?_))
    exact wp_seq (h2.run ρ1 hid st1 s1 r1 _ _ (VRs.mono p1 t) () st' h3) fun _ s2 ρ2 p2 r2 _ => ⟨ρ2, pre_trans p1 p2, r2, trivial⟩
theorem sim_unpack (ok : cx.Ok) {elts : List Expr} {k : Nat} {pos : Pos} {gs : List (V → PM Unit)} (h : SimGs cx elts gs) : SimG cx (.Tuple elts k pos) (unpackP gs) := by
  intro ρ hid st s x a A ha v st' e
  unfold unpackP at e
  split at e
  · rename_i j
    obtain ⟨p, hp, rfl⟩ := vr_obj ha
    split at e
    · rename_i xs hj
      split at e
      · rename_i hl
        obtain ⟨fz, led, m, mloc, x'⟩ := id x
        obtain ⟨Xs, n, g1, g2⟩ := x'.tuple_at hj hp
        show wpAny cx.M cx.A (assign (.Tuple elts k pos) cx.env (.ref p.1)) _ _ s
        rw [arm_assign_Tuple]
        refine wpAny_bind (wpAny_standAt (wpAny_unpack_tuple ok.handled ⟨_, (x'.N _ g2).1, rfl, _, rfl⟩ (by rw [h.len, List.size_toArray, ← g1.length, hl]) h.star fun h' he => ?_))
        exact h.run ρ hid st _ (x.grow (tk := s.toks) fun b o e => he b o (Nat.ne_of_lt (Heap.lt_size e)) e) xs _ g1 v st' e
      · cases e
    · cases e
  · cases e
end
end Mine
namespace Mine
section
variable {cx : Cx}
/-- += on names: ints and texts -/
def pIAdd : V → V → PM V
  | .int a, .int b => PM.pure (.int (a + b))
  | .str a, .str b => fun st => if a.length + b.length ≤ 1000000 then .ok (.str (a ++ b)) st else .fail
  | _, _ => PM.fail
/-- range of one, two, three ints -/
def cRange : List V → PM V
  | [.int n] => alloc (.range 0 n 1)
  | [.int a, .int b] => alloc (.range a b 1)
  | _ => PM.fail
/-- the small forms of the signs that we know -/
def lowP (c : Nat) : Nat := if 65 ≤ c ∧ c ≤ 90 then c + 32 else if c = 201 then 233 else if c = 1046 then 1078 else if c = 7838 then 223 else if c = 8490 then 107 else c
def lowKnown (c : Nat) : Bool := decide (c < 128) || [201, 233, 1046, 1078, 7838, 223, 8490].contains c
theorem lowAscii : ∀ c, c < 128 → Unicode.lowerOf c = [lowP c] := by decide +kernel
theorem lowRest : ∀ c ∈ [201, 233, 1046, 1078, 7838, 223, 8490], Unicode.lowerOf c = [lowP c] := by decide +kernel
theorem lowKnown_of {c : Nat} (h : lowKnown c = true) : Unicode.lowerOf c = [lowP c] ∧ c ≠ 0x3A3 ∧ lowP c < 1114112 := by
  unfold lowKnown at h
  rw [Bool.or_eq_true] at h
  rcases h with h | h
  · have h' : c < 128 := by simpa using h
    refine ⟨lowAscii c h', by omega, ?_⟩
    unfold lowP; repeat' split
    all_goals omega
  · have h' : c ∈ [201, 233, 1046, 1078, 7838, 223, 8490] := by simpa using h
    refine ⟨lowRest c h', ?_, ?_⟩
    · rintro rfl; revert h'; decide
    · have : ∀ c ∈ [201, 233, 1046, 1078, 7838, 223, 8490], lowP c < 1114112 := by decide
      exact this c h'
theorem lower_known {l : List Nat} (h : l.all lowKnown = true) : Txt.lower ⟨l.toArray⟩ = ⟨(l.map lowP).toArray⟩ := by
  unfold Txt.lower
  rw [placed_single ⟨l.toArray⟩ _ lowP fun i c hc => by
    have hc' : l.toArray[i]? = some c := by simpa using hc
    have hm : lowKnown c = true := List.all_eq_true.mp h c (List.mem_of_getElem? hc)
    obtain ⟨h1, h2, _⟩ := lowKnown_of hm
    unfold Unicode.lowerAt
    rw [hc']
    have hne : (c == 0x3A3) = false := by rw [beq_eq_false_iff_ne]; exact h2
    simp only [hne, Bool.false_and, Bool.false_eq_true, if_false]
    exact h1]
  simp
def cLower : List V → PM V
  | [.str l] => fun st => if l.length ≤ 1000000 ∧ l.all lowKnown = true then .ok (.str (l.map lowP)) st else .fail
  | _ => PM.fail
theorem pc_lower : PC cx (.builtin "str.lower") cLower := by
  intro ρ hid st s x vs Vs hv v st' h
  unfold cLower at h
  split at h
  · rename_i l
    obtain ⟨A, rfl, a1⟩ := vrs_one hv
    obtain ⟨t, rfl⟩ := vr_str a1
    split at h
    · rename_i hl
      cases h
      have e := lower_known hl.2
      refine SC.lower ?_ ?_
      · rw [e, str_len, List.length_map]
        have := hl.1
        have h0 : (1000000 : Nat) ≤ sizeLine := by decide
        simp only [Builtin.Str.tooLong]
        simp
        omega
      · rw [e]
        refine fin_toks x (.str _ _ ?_)
        intro c hc
        obtain ⟨d, hd, rfl⟩ := List.mem_map.mp hc
        exact (lowKnown_of (List.all_eq_true.mp hl.2 d hd)).2.2
    · cases h
  · cases h
def splitL (c : Nat) : List Nat → List (List Nat)
  | [] => [[]]
  | x :: r => if x = c then [] :: splitL c r else match splitL c r with
    | [] => [[x]]
    | p :: ps => (x :: p) :: ps
theorem splitL_ne (c : Nat) (l : List Nat) : splitL c l ≠ [] := by
  cases l with
  | nil => simp [splitL]
  | cons a r =>
    unfold splitL
    split
    · simp
    · split <;> simp
theorem splitL_app (c : Nat) (rest : List Nat) : ∀ p : List Nat, c ∉ p → splitL c (p ++ c :: rest) = p :: splitL c rest
  | [], _ => by simp [splitL]
  | a :: r, h => by
    have h1 : a ≠ c := fun e => h (by rw [e]; exact .head _)
    rw [List.cons_append, splitL, if_neg h1, splitL_app c rest r fun e => h (.tail _ e)]
theorem splitL_free (c : Nat) : ∀ p : List Nat, c ∉ p → splitL c p = [p]
  | [], _ => rfl
  | a :: r, h => by
    have h1 : a ≠ c := fun e => h (by rw [e]; exact .head _)
    rw [splitL, if_neg h1, splitL_free c r fun e => h (.tail _ e)]
theorem split_unique (c : Nat) : ∀ (ps : List Str), ps ≠ [] → (∀ p ∈ ps, c ∉ p.cps.toList) → splitL c (Str.join ⟨#[c]⟩ ps).cps.toList = ps.map (·.cps.toList)
  | [], h, _ => absurd rfl h
  | [p], _, hf => by
    show splitL c p.cps.toList = _
    rw [splitL_free c _ (hf p (.head _))]
    rfl
  | p :: q :: r, _, hf => by
    have ih := split_unique c (q :: r) (by simp) fun z hz => hf z (.tail _ hz)
    show splitL c ((p ++ (⟨#[c]⟩ : Str)) ++ Str.join ⟨#[c]⟩ (q :: r)).cps.toList = _
    have e : ((p ++ (⟨#[c]⟩ : Str)) ++ Str.join ⟨#[c]⟩ (q :: r)).cps.toList = p.cps.toList ++ c :: (Str.join ⟨#[c]⟩ (q :: r)).cps.toList := by
      show ((p.cps ++ #[c]) ++ (Str.join ⟨#[c]⟩ (q :: r)).cps).toList = _
      simp
    rw [e, splitL_app c _ _ (hf p (.head _)), ih]
    rfl
theorem split_eq (l : List Nat) (c : Nat) : Txt.split ⟨l.toArray⟩ ⟨#[c]⟩ = (splitL c l).map fun p => ⟨p.toArray⟩ := by
  have h1 := StrLaws.join_split ⟨l.toArray⟩ ⟨#[c]⟩
  have h2 := StrLaws.split_free ⟨l.toArray⟩ c
  have h3 : Txt.split ⟨l.toArray⟩ ⟨#[c]⟩ ≠ [] := by
    have := PyProof.Rows.split_pos ⟨l.toArray⟩ ⟨#[c]⟩
    intro e; rw [e] at this; simp at this
  have h4 := split_unique c _ h3 h2
  rw [h1] at h4
  have h5 : splitL c l = (Txt.split ⟨l.toArray⟩ ⟨#[c]⟩).map (·.cps.toList) := by simpa using h4
  rw [h5, List.map_map]
  have : ((fun p : List Nat => (⟨p.toArray⟩ : Str)) ∘ fun x : Str => x.cps.toList) = id := by
    funext x; cases x; simp
  rw [this, List.map_id]
theorem splitL_mem (c : Nat) : ∀ (l p : List Nat), p ∈ splitL c l → ∀ a ∈ p, a ∈ l
  | [], p, h, a, ha => by
    simp only [splitL, List.mem_singleton] at h
    subst h; exact ha
  | x :: r, p, h, a, ha => by
    unfold splitL at h
    split at h
    · rcases List.mem_cons.mp h with rfl | h
      · cases ha
      · exact .tail _ (splitL_mem c r p h a ha)
    · split at h
      · rename_i e; exact absurd e (splitL_ne c r)
      · rename_i q qs e
        rcases List.mem_cons.mp h with rfl | h
        · rcases List.mem_cons.mp ha with rfl | ha
          · exact .head _
          · exact .tail _ (splitL_mem c r q (by rw [e]; exact .head _) a ha)
        · exact .tail _ (splitL_mem c r p (by rw [e]; exact .tail _ h) a ha)
theorem splitL_len (c : Nat) : ∀ l : List Nat, (splitL c l).length ≤ l.length + 1
  | [] => by simp [splitL]
  | x :: r => by
    have ih := splitL_len c r
    unfold splitL
    split
    · simp; omega
    · split
      · simp
      · rename_i e; rw [e] at ih; simp at ih ⊢; omega
theorem vrs_strs {ρ : Map} : ∀ {ps : List (List Nat)} {l : List (Str × Tok)}, (∀ p ∈ ps, okS p) → l.map (·.1) = ps.map (fun p => (⟨p.toArray⟩ : Str)) → VRs ρ (ps.map V.str) (strValues l)
  | [], [], _, _ => .nil
  | [], _ :: _, _, h => by cases h
  | _ :: _, [], _, h => by cases h
  | p :: ps, q :: l, ho, h => by
    simp only [List.map_cons, List.cons.injEq] at h
    refine .cons ?_ (vrs_strs (fun z hz => ho z (.tail _ hz)) h.2)
    show VR ρ (.str p) (.str q.1 q.2)
    rw [h.1]
    exact .str p q.2 (ho p (.head _))
def cSplit : List V → PM V
  | [.str l, .str [c]] => fun st => if l.length ≤ 1000000 then alloc (.list ((splitL c l).map V.str)) st else .fail
  | _ => PM.fail
theorem pc_split : PC cx (.builtin "str.split") cSplit := by
  intro ρ hid st s x vs Vs hv v st' h
  unfold cSplit at h
  split at h
  · rename_i l c
    obtain ⟨A, B, rfl, a1, a2⟩ := vrs_two hv
    have hl' := vr_ok a1
    obtain ⟨t, rfl⟩ := vr_str a1; obtain ⟨u, rfl⟩ := vr_str a2
    split at h
    · rename_i hl
      cases h
      obtain ⟨fz, led, m, mloc, r⟩ := id x
      refine lf x.pos (PyProof.Rows.splitN1 r.F r.N rfl (fun q h' k e F' N' htk => ?_) ?_)
      · have e' : q.map (·.1) = (splitL c l).map fun p => (⟨p.toArray⟩ : Str) := e.trans (split_eq l c)
        refine ⟨ρ ++ [(s.heap.objs.size, s.heap.objs.size)], List.prefix_append _ _, RelD.rel (r.go (tk := k) F' N' (r.B.alloc (news_fresh r.N) (o := .list ((splitL c l).map V.str)) ⟨strValues q, 0, vrs_strs (fun p hp a ha => hl' a (splitL_mem c l p hp a ha)) e', .head _⟩)), ?_⟩
        have := VR.obj (alloc_get ρ (s.heap.objs.size, s.heap.objs.size))
        rw [r.B.len] at this
        exact this
      · rw [str_len]
        exact Nat.le_trans (Nat.add_le_add_right hl 2) (by decide)
    · cases h
  · cases h
def strsOf : List V → Option (List (List Nat))
  | [] => some []
  | .str l :: r => (strsOf r).map (l :: ·)
  | _ => none
end
end Mine
namespace Mine
section
variable {cx : Cx}
/-- the law's own argument: a list of ints that stood before -/
def Old (cx : Cx) (a : Addr) (xs : List Int) : Prop := ∃ Vs : List Value, cx.h₀.IsList a Vs.toArray ∧ IntsAre Vs xs
theorem ints_vrs {ρ : Map} : ∀ {Vs : List Value} {xs : List Int}, IntsAre Vs xs → VRs ρ (xs.map V.int) Vs
  | _, _, .nil => .nil
  | _, _, .cons _ _ t => .cons (.int _ _) (ints_vrs t)
theorem isList_keep {h h' : Heap} {a : Addr} {vs : Array Value} (x : h.IsList a vs) (k : ∀ b o, h.get? b = some o → h'.get? b = some o) : h'.IsList a vs := by
  obtain ⟨o, ho, r⟩ := x
  exact ⟨o, k _ _ ho, r⟩
theorem envOfC_inj {qual : Str} {scope : Scope} {f : Addr} {cdv : Value} {L' : Addr} (x y : Str) (c : Addr) (hx : (envOfC qual scope L' f cdv).cells.lookup x = some c) (hy : (envOfC qual scope L' f cdv).cells.lookup y = some c) : x = y := by
  have h := (cellsFrom_addr scope.names (L' + 1) [] (fun _ h => nomatch h) .nil).1
  have h1 := lookup_mem (l := cellsFrom (L' + 1) scope.names []) hx
  have h2 := lookup_mem (l := cellsFrom (L' + 1) scope.names []) hy
  generalize cellsFrom (L' + 1) scope.names [] = l at h h1 h2
  induction l with
  | nil => cases h1
  | cons a r ih =>
    rw [List.map_cons, List.nodup_cons] at h
    rcases List.mem_cons.mp h1 with e | e <;> rcases List.mem_cons.mp h2 with e' | e'
    · exact (Prod.mk.inj (e.trans e'.symm)).1
    · exact absurd (List.mem_map_of_mem (f := (·.2)) e') (by rw [← e] at h; exact h.1)
    · exact absurd (List.mem_map_of_mem (f := (·.2)) e) (by rw [← e'] at h; exact h.1)
    · exact ih h.2 e e'
def iterG (a : Addr) (xs : List Int) : V → PM (Src × List V)
  | .glob (.ref b) => if b = a then PM.pure (none, xs.map V.int) else PM.fail
  | _ => PM.fail
theorem iter_old {ρ₀ : Map} {a : Addr} {xs : List Int} {I : Addr} (hO : Old cx a xs) : Iter cx ρ₀ none (xs.map V.int) I (fun i h => h.IsListIter I a i) where
  frame := fun i h h' x k => x.at fun o e => k o e
  there := fun i h ⟨o, ho, _⟩ => ⟨o, ho⟩
  next := by
    intro i x ρ hid st s hx hit hpre r hs A Q E k
    obtain ⟨fz, led, m, mloc, r⟩ := r
    obtain ⟨Vs, h1, h2⟩ := hO
    obtain ⟨W, w1, w2⟩ := vrs_get (ints_vrs (ρ := ρ) h2) hx
    exact wpAny_pyNext_list_item hit (isList_keep h1 r.F.keep) (by simpa using w1) fun h' hit' hs' => k W h' s.toks w2 hit' fun b o hb e => (hs'.2 b hb).trans e
  done := by
    intro ρ hid st s hit hpre r hs A Q E hh k
    obtain ⟨fz, led, m, mloc, r⟩ := r
    obtain ⟨Vs, h1, h2⟩ := hO
    exact wpAny_pyNext_list_end hh hit (isList_keep h1 r.F.keep) (by rw [List.getElem?_toArray]; exact List.getElem?_eq_none (by rw [(ints_vrs (ρ := ρ) h2).length]; exact Nat.le_refl _)) fun h' hs' => k h' s.toks fun b o hb e => hs' b o hb e
  self := fun i s hit A Q E hq => wpAny_pyIter_listiter hit hq
  go := fun i s hit A target W Q E hq => by
    obtain ⟨o, ho, hc, hd⟩ := hit
    exact go_plain ho hc (by decide) target W Q E hq
theorem iterG_ok {a : Addr} {xs : List Int} {v : V} {st st' : St} {r : Src × List V} (h : iterG a xs v st = .ok r st') : v = .glob (.ref a) ∧ r = (none, xs.map V.int) ∧ st' = st := by
  unfold iterG at h
  split at h
  · split at h
    · rename_i e; cases e; cases h; exact ⟨rfl, rfl, rfl⟩
    · cases h
  · cases h
/-- the first env of all: one parameter, no cell; the tokens that stand then are not none -/
theorem newEnv_one {M : Model} {A : Around} {E : Value → Shared → Prop} {s : Shared} {scope : Scope} {globals : Addr} {n : Str} {v : Value} {qual : Str} {func : Option Addr} {code : Value} {builtins : Addr} {Q : Env → Shared → Prop}
    (hk : scope.kind = .function) (hl : scope.names.lookup n = some .local)
    (hQ : ∀ env, env = newEnv scope s.heap.objs.size globals (cellsFrom (s.heap.objs.size + 1) scope.names []) qual func code none builtins →
      ∀ s', InCallC s env.locals (bindL env.kindOf [(n, v)] fun _ => none) env.cells (bindC env.kindOf [(n, v)] fun _ => none) s' → 0 < s'.toks → Q env s') :
    wpAny M A (newFunctionEnv scope globals [] [(n, v)] qual func code none builtins) Q E s := by
  simp only [newFunctionEnv, Option.isSome_none, Bool.false_eq_true, if_false]
  refine wpAny_bind (wpAny_alloc ?_)
  refine wpAny_bind (wpAny_layCells _ (fun name kind cells => by cases hkc : kind == NameKind.cell <;> simp [hkc]) _ _ _ _ ?_)
  have ok := cellsFrom_ok scope.names (s.heap.push { cls := .type "frame", data := .dict #[] }) (s.heap.objs.size + 1) [] ⟨fun _ _ hm => (nomatch hm), List.Pairwise.nil⟩ (by rw [Heap.size_push]; exact Nat.le_refl _)
  rw [Heap.size_push] at ok
  rw [show ({ s with heap := s.heap.push { cls := .type "frame", data := .dict #[] } } : Shared).heap.objs.size = s.heap.objs.size + 1 from Heap.size_push ..]
  have x : InCallC s (newEnv scope s.heap.objs.size globals (cellsFrom (s.heap.objs.size + 1) scope.names []) qual func code none builtins).locals (fun _ => none) (newEnv scope s.heap.objs.size globals (cellsFrom (s.heap.objs.size + 1) scope.names []) qual func code none builtins).cells (fun _ => none)
      { s with heap := pushCells (s.heap.push { cls := .type "frame", data := .dict #[] }) scope.names } :=
    ⟨⟨⟨_, _, rfl⟩, (Heap.Ns.new s.heap (.type "frame")).keeps (pushCells_keeps _ _), fun b o e => pushCells_keeps _ _ b o (Heap.get?_push_of_some _ e), Nat.le_refl _⟩,
      fun n c hc => (ok.empty n c (mem_of_lookup hc)).1, ok.apart, fun n c hm => (ok.empty n c hm).2⟩
  refine wpAny_bind ?_
  rw [List.forIn_cons]
  refine wpAny_bind (wpAny_bind (wpAny_storeName_local hl x.toInCall.ns (fun h' hn' hs' => wpAny_pure ?_) (by dsimp only; rw [hk]; rfl)))
  refine wpAny_pure (wpAny_pure (hQ _ rfl _ ⟨⟨⟨_, _, rfl⟩, ?_, fun b o e => ?_, x.toInCall.fresh⟩, fun k c hc => ?_, x.apart, x.above⟩ (Nat.succ_pos _)))
  · unfold bindL bindL
    rw [if_pos (show (newEnv scope s.heap.objs.size globals (cellsFrom (s.heap.objs.size + 1) scope.names []) qual func code none builtins).kindOf n = _ from hl)]
    exact hn'
  · exact hs'.extBut b o (Nat.ne_of_lt (Nat.lt_of_lt_of_le (Heap.lt_size e) x.toInCall.fresh)) (x.toInCall.keep b o e)
  · unfold bindC bindC
    rw [if_pos (show (newEnv scope s.heap.objs.size globals (cellsFrom (s.heap.objs.size + 1) scope.names []) qual func code none builtins).kindOf n = _ from hl)]
    exact (x.cell k c hc).sameBut hs' (Nat.ne_of_gt (x.above k c (mem_of_lookup hc)))
theorem call_first {prog : Program} {w : World} {A : Around} {R : Result → Shared → Prop} {s : Shared} {fd : FuncData} {body : List Stmt} {f : Addr} {fo : Obj} {args : Args} {n : Str} {v : Value}
    (hroom : A.depth < recursionLimit) (ho : s.heap.get? f = some fo) (hd : fo.data = .func fd) (hbd : fd.body = .stmts body) (hcl : fd.closure = []) (hgl : fd.globals = mainGlobals) (hbn : fd.builtins = builtinsNs) (hlim : s.heap.NoLimit) (hcd : s.heap.CodeRec fd.code fd.qualname)
    (hbind : bindArgs fd args = pure [(n, v)]) (hkind : fd.scope.names.lookup n = some .local)
    (hnd : ((cellsFrom 0 fd.scope.names []).map (·.1)).Nodup)
    (h : ∀ h₁ tk cells, 0 < tk → Fr s.heap s.heap.objs.size h₁ (bindL (envOfC fd.qualname fd.scope s.heap.objs.size f fd.code).kindOf [(n, v)] fun _ => none) → News s.heap s.heap.objs.size h₁ cells →
      CellsAre (bindC (envOfC fd.qualname fd.scope s.heap.objs.size f fd.code).kindOf [(n, v)] fun _ => none) (cellsFrom (s.heap.objs.size + 1) fd.scope.names []) cells →
      wpAny (model prog w) (A.deeper (envOfC fd.qualname fd.scope s.heap.objs.size f fd.code)) (execs body (envOfC fd.qualname fd.scope s.heap.objs.size f fd.code))
        (fun fl s' => R (.ok (.ret (match fl with | .ret v => v | _ => .none))) s') (fun _ _ => False) { s with heap := h₁, toks := tk })
    (hco : fd.scope.isCoroutine = false) (hgen : fd.scope.isGenerator = false) (hk : fd.scope.kind = .function) : codeAny (model prog w) A (.call (.ref f) args) R s := by
  obtain ⟨name, qualname, params, bd, scope, globals, closure, defaults, kwdefaults, doc, pyModule, annotations, code, closureTuple, builtins⟩ := fd
  dsimp only at *
  subst hbd hcl hgl hbn
  refine codeAny_call_function hroom ho hd hco hgen rfl hcd ?_
  rw [hbind]
  refine wpAny_pure (newEnv_one hk hkind fun env' he s' x htk => ?_)
  subst he
  refine ⟨hlim.keeps x.toInCall.keep, codeAny_func ?_⟩
  obtain ⟨h₁, tk, rfl, _⟩ := x.done
  obtain ⟨cells, NC, Y⟩ := Cl.news (h₀ := s.heap) (Nat.le_refl _) fun n c hm => ⟨x.cell n c (lookup_of_mem_nodup (cellsFrom_names scope.names 0 (s.heap.objs.size + 1) [] [] rfl ▸ hnd) hm), x.above n c hm⟩
  exact wpAny_mono (h h₁ tk cells htk ⟨x.toInCall.ns, x.toInCall.keep, Nat.le_refl _⟩ NC Y) (fun fl s' hl => hl) fun _ _ y => y.elim
/-- no function is made in the law's texts -/
def lam0 : FuncBody × Arguments × Scope × Str := ⟨.stmts [], ⟨[], [], none, [], [], none, []⟩, ⟨.function, [], false, false, []⟩, Str.ofString ""⟩
/-- the first place: a law called by the claim's caller -/
abbrev cxOf (prog : Program) (w : World) (K : Frag) (C : Addr) (p : Program) (loose : List Str) (mg mb : Str → Option Value) (s : Shared) (env : Env) (n : Nat) : Cx :=
  { prog, w, K, C, p, loose, mg, mb, h₀ := s.heap, L := s.heap.objs.size, A := callerA.deeper env, fenv := env, env, base := s.heap, outer := [], os := s.os, n, fm := fun _ => none, fzn := false, lam := lam0, tab := (0, #[], ⟨0, 0, 0, 0⟩) }
theorem enter_law {prog : Program} {w : World} {K : Frag} {C : Addr} {p : Program} {loose : List Str} {mg mb : Str → Option Value} {s : Shared} {name : Str} {params : Arguments} {body : List Stmt} {scope : Scope} {pm cd doc : Value} {fa a : Addr} {o : Obj} {n : Nat}
    {mbody : PM Fl} {R : Result → Shared → Prop} {Vs : List Value} {xs : List Int}
    (hn : n ≤ 100) (T : TopRead p loose mg mb s.heap) (hBM : BM mg s.heap) (kin : K.In s.heap) (ho : s.heap.get? fa = some o) (hd : o.data = .func (Calls.docDef name params body scope pm cd doc)) (hcd : s.heap.CodeRec cd name) (hg : s.gens = #[])
    (hl : s.heap.IsList a Vs.toArray) (hI : IntsAre Vs xs)
    (hbind : bindArgs (Calls.docDef name params body scope pm cd doc) ⟨[.ref a], []⟩ = pure [(Str.ofString "script", .ref a)])
    (hkind : scope.names.lookup (Str.ofString "script") = some .local) (hnd : ((cellsFrom 0 scope.names []).map (·.1)).Nodup)
    (hco : scope.isCoroutine = false) (hgen : scope.isGenerator = false) (hk : scope.kind = .function)
    (hbody : (cxOf prog w K C p loose mg mb s (envOfC name scope s.heap.objs.size fa cd) n).Ok → Old (cxOf prog w K C p loose mg mb s (envOfC name scope s.heap.objs.size fa cd) n) a xs →
      SimSs (cxOf prog w K C p loose mg mb s (envOfC name scope s.heap.objs.size fa cd) n) body mbody)
    (hrun : ∃ st', mbody ⟨fun k => if k = "script" then some (.glob (.ref a)) else none, []⟩ = .ok (.ret (.bool true)) st')
    (hR : ∀ s', (∃ L m, Fr s.heap L s'.heap m) → s'.gens = #[] → s'.os = s.os → R (.ok (.ret (.bool true))) s') : codeAny (model prog w) callerA (.call (.ref fa) ⟨[.ref a], []⟩) R s := by
  obtain ⟨st', hrun⟩ := hrun
  refine call_first (by decide) ho hd rfl rfl rfl rfl T.nolimit hcd hbind hkind hnd (fun h₁ tk cells htk F' N' C' => ?_) hco hgen hk
  · have hO : Old (cxOf prog w K C p loose mg mb s (envOfC name scope s.heap.objs.size fa cd) n) a xs := ⟨Vs, hl, hI⟩
    have ok : (cxOf prog w K C p loose mg mb s (envOfC name scope s.heap.objs.size fa cd) n).Ok :=
      { bmain := hBM, kin := kin, top := T, below := ⟨callerA, below_caller _⟩, frames := rfl, fframe := rfl, fkind := hk, kind := hk, globals := rfl, builtins := rfl, handled := rfl
        depth := by
          show callerA.depth + 1 + 4 * n + 4 < recursionLimit
          have : callerA.depth = 301 := by decide
          have : recursionLimit = 1000 := rfl
          omega
        units := by
          show callerA.units + 3 + 40 * n + 200 < cLine
          have : callerA.units = 4 := rfl
          have : cLine = 9900 := rfl
          omega
        cinj := envOfC_inj }
    let cx0 : Cx := { (cxOf prog w K C p loose mg mb s (envOfC name scope s.heap.objs.size fa cd) n) with env := { envOfC name scope s.heap.objs.size fa cd with cells := [] } }
    have B0 : Bear cx0 [] ⟨[], []⟩ [] [] (fun _ => none) (fun _ => none) ⟨fun _ => none, []⟩ :=
      ⟨.nil, fun _ => rfl, .inl ⟨rfl, rfl⟩, rfl, fun _ h => (nomatch h), fun i o p h => by simp at h, fun i j p q h => by simp at h, fun _ h => (nomatch h), fun _ h => (nomatch h), fun x c h => (nomatch h), fun x c h => (nomatch h), fun _ h => (nomatch h), fun _ h => (nomatch h), fun _ h => (nomatch h),
        fun _ h => (nomatch h), fun _ _ h => (nomatch h), fun n v h => (nomatch h)⟩
    have Br := bear_inn (cx := cx0) (k := n) (qual := name) (scope := scope) (f := fa) (cdv := cd) (g := s.heap) (L' := s.heap.objs.size) (ps := ["script"]) (vs := [.glob (.ref a)]) (Vs := [.ref a]) B0 (fun _ h => (nomatch h)) (.cons (.glob _) .nil) (by simp) (fun q hq => by
      rw [List.mem_singleton] at hq; subst hq; exact .inl hkind) C'
    have R' : Rel (cxOf prog w K C p loose mg mb s (envOfC name scope s.heap.objs.size fa cd) n) [] ⟨[], []⟩ ⟨fun k => if k = "script" then some (.glob (.ref a)) else none, []⟩ { s with heap := h₁, toks := tk } := by
      refine ⟨[], cells ++ [], _, bindL (envOfC name scope s.heap.objs.size fa cd).kindOf [(Str.ofString "script", .ref a)] fun _ => none, F', by rw [List.append_nil]; exact N', ?_, hg, rfl, htk⟩
      have e : (⟨fun n => ([("script" : String)].zip [V.glob (.ref a)]).lookup n, []⟩ : St) = ⟨fun k => if k = "script" then some (.glob (.ref a)) else none, []⟩ := by
        congr 1
        funext k
        simp only [List.zip_cons_cons, List.zip_nil_left, List.lookup_cons, List.lookup_nil]
        by_cases hk : k = "script"
        · subst hk; simp
        · have : (k == "script") = false := by simpa using hk
          simp [hk, this]
      rw [← e]
      exact ⟨Br.nd, fun h => absurd rfl h, Br.ln, Br.len, Br.own, fun i o p h => by simp at h, Br.sep, Br.hin, Br.hsep, Br.cel, Br.csep, Br.fin, Br.fz0, Br.hfz, Br.fsep, Br.fcel, Br.loc⟩
    refine wpAny_mono (hbody ok hO [] _ _ _ R' _ _ hrun) (fun fw s' hq => ?_) fun _ _ z => z.elim
    obtain ⟨ρ', hρ, ⟨fz', led', m', mloc', r'⟩, hfl⟩ := hq
    cases hfl with
    | ret hv =>
      cases vr_bool hv
      exact hR s' ⟨_, _, r'.F⟩ r'.gens r'.os
end
end Mine
namespace Mine
def isStarred : Expr → Bool
  | .Starred .. => true
  | _ => false
theorem star_plain {e : Expr} {es : List Expr} {env : Env} (h : isStarred e = false) : starEach (e :: es) env = (false, eval e env) :: starEach es env := by
  cases e <;> first | rfl | cases h
theorem plain_nil {pos : Pos} {env : Env} : (backTo pos (starEach [] env)).any (·.1) = false := rfl
theorem plain_cons {pos : Pos} {e : Expr} {es : List Expr} {env : Env} (h : isStarred e = false) (t : (backTo pos (starEach es env)).any (·.1) = false) : (backTo pos (starEach (e :: es) env)).any (·.1) = false := by
  rw [star_plain h]
  show (false || (backTo pos (starEach es env)).any (·.1)) = false
  rw [t]; rfl
theorem call_name {x : Str} {p pos : Pos} {es : List Expr} {env : Env} : eval (.Call (.Name x p) es [] pos) env = (eval (.Name x p) env >>= fun fv => callWith pos fv [] (backTo pos (starEach es env)) []) := rfl
def plainBase : Expr → Bool
  | .Call (.Name _ _) [] [] _ => false
  | _ => true
theorem base_plain {o : Expr} {name : Str} {env : Env} {t : Sem Value} (h : plainBase o = true) : attributeBase o name env t = t := by
  unfold attributeBase
  split
  · cases h
  · rfl
theorem form_few : ∀ {l : List (Bool × Sem Value)} {n : Nat}, l.any (·.1) = false → n < 30 → methodCallForm n l [] = true := by
  intro l n h1 h2
  unfold methodCallForm
  have : l.all (fun x => !x.1) = true := by
    rw [List.all_eq_true]
    intro x hx
    have := List.any_eq_false.mp h1 x hx
    simpa using this
  rw [this]
  simpa using h2
theorem meth_form {cx : Cx} {o : Expr} {name : Str} {apos pos : Pos} {es : List Expr} (hb : plainBase o = true) (hp : (backTo pos (starEach es cx.env)).any (·.1) = false) (hl : Nat.ble 30 es.length = false) (hline : (apos.endLine == pos.line) = true) :
    MethForm cx o name apos pos es (do return (← importBound o cx.env).getD true) := by
  unfold MethForm
  rw [arm_eval_Call, base_plain hb]
  have hl' : es.length + ([] : List Keyword).length < 30 := by
    have : ¬ 30 ≤ es.length := fun e => by rw [Nat.ble_eq_true_of_le e] at hl; cases hl
    simp; omega
  have hform : methodCallForm (es.length + ([] : List Keyword).length) (backTo pos (starEach es cx.env)) (backToKw pos (keywordEach [] cx.env)) = true := form_few hp hl'
  have hpos : methodCallPos true o cx.env apos pos = pure pos := by unfold methodCallPos; simp [hline]
  unfold methodCall
  rw [hform, hpos]
  rfl
section
variable {cx : Cx}
theorem sim_ML (ok : cx.Ok) {o : Expr} {name : Str} {bid : String} {apos pos : Pos} {es : List Expr} {mo : PM V} {ma : PM (List V)} {f : List V → PM V} (slot : Slot "list" name bid) (hty : typeOf (.builtin bid) = pure (.type "method_descriptor"))
    (hp : PC cx (.builtin bid) f) (ho : SimV cx (eval o cx.env) mo) (ha : SimL cx pos es ma) (hplain : (backTo pos (starEach es cx.env)).any (·.1) = false) (hb : plainBase o = true) (hl : Nat.ble 30 es.length = false) (hline : (apos.endLine == pos.line) = true) :
    SimV cx (eval (.Call (.Attribute o name apos) es [] pos) cx.env) (PM.bind mo fun v => PM.bind (isList v) fun _ => PM.bind ma fun vs => f (v :: vs)) :=
  sim_MethL ok slot hty hp ho ha hplain (meth_form hb hplain hl hline)
theorem sim_MI (ok : cx.Ok) (g : Addr) {o : Expr} {n : String} {apos pos : Pos} {es : List Expr} {mo : PM V} {ma : PM (List V)} {f : List V → PM V} (hg : plainGet cx.K cx.C (Str.ofString n) = true)
    (hf : findIn cx.K (.ref cx.C) (Str.ofString n) = some (some (.ref g))) (ht : isFn cx.K (.ref g) = true) (hk : keepIn cx.K (.ref g) = true)
    (hp : PC cx (.ref g) f) (ho : SimV cx (eval o cx.env) mo) (ha : SimL cx pos es ma) (hplain : (backTo pos (starEach es cx.env)).any (·.1) = false) (hb : plainBase o = true) (hl : Nat.ble 30 es.length = false) (hline : (apos.endLine == pos.line) = true) :
    SimV cx (eval (.Call (.Attribute o (Str.ofString n) apos) es [] pos) cx.env) (PM.bind mo fun v => PM.bind (isInst n v) fun _ => PM.bind ma fun vs => f (v :: vs)) :=
  sim_MethI ok hg hf ht hk hp ho ha hplain (meth_form hb hplain hl hline)
end
end Mine
namespace Mine
section
variable {cx : Cx}
/-- the script: its length, an item, a cut, a copy -/
def cLenG (a : Addr) (xs : List Int) : List V → PM V
  | [.glob (.ref b)] => fun st => if b = a ∧ xs.length ≤ 1000000 then .ok (.int xs.length) st else .fail
  | _ => PM.fail
/-- max, min of two ints; max of a list of ints -/
def intsOf : List V → Option (List Int)
  | [] => some []
  | .int i :: r => (intsOf r).map (i :: ·)
  | _ => none
def maxL : List Int → Int
  | [] => 0
  | [a] => a
  | a :: r => if maxL r > a then maxL r else a
def cMax : List V → PM V
  | [.int a, .int b] => PM.pure (.int (if b > a then b else a))
  | [.obj i] => fun st => match st.sto[i]? with
    | some (.list xs) => (match intsOf xs with | some l => if l ≠ [] then .ok (.int (maxL l)) st else .fail | none => .fail)
    | _ => .fail
  | _ => PM.fail
def cMin : List V → PM V
  | [.int a, .int b] => PM.pure (.int (if b < a then b else a))
  | _ => PM.fail
theorem gives_gt_bi (p : Bool) (b : Int) (u : Tok) : Gives (Builtin.«int.__gt__» ⟨[.bool p, .int b u], []⟩) (.val (Value.bool ((fun x1 x2 => decide (x1 > x2)) (if p = true then (1 : Int) else 0) b))) :=
  .of_wp fun M A E s Q h => by obtain ⟨hp, g, d, tk, os⟩ := s; wp_walk; exact ⟨_, rfl, h⟩
theorem gives_lt_bi (p : Bool) (b : Int) (u : Tok) : Gives (Builtin.«int.__lt__» ⟨[.bool p, .int b u], []⟩) (.val (Value.bool ((fun x1 x2 => decide (x1 < x2)) (if p = true then (1 : Int) else 0) b))) :=
  .of_wp fun M A E s Q h => by obtain ⟨hp, g, d, tk, os⟩ := s; wp_walk; exact ⟨_, rfl, h⟩
theorem gt_bool_int {prog : Program} {w : World} {A : Around} {E : Value → Shared → Prop} {s : Shared} {Q : Value → Shared → Prop} {a : Bool} {b : Int} {u : Tok} (h : Q (.bool (decide (b < (if a then 1 else 0)))) s) : wpAny (model prog w) A (compareOp .Gt (.bool a) (.int b u)) Q E s := by
  show wpAny (model prog w) A (richCompare .Gt (.bool a) (.int b u)) Q E s
  refine SeqAt.rc_left_or (op := .Gt) (Ta := "bool") (Tb := "int") (id := "int.__gt__") (typeIs_bool' s a) (typeIs_int s b u) (by decide) F.sub_int_bool F.slot_bool_gt ?_ (.inl rfl)
  refine call_gives F.slot_bool_gt (typeIs_bool' s a) F.entry_int_gt (F.args_int_gt_2 _ _) (gives_gt_bi a b u) ?_
  exact ⟨nofun, h⟩
theorem gt_int_bool {prog : Program} {w : World} {A : Around} {E : Value → Shared → Prop} {s : Shared} {Q : Value → Shared → Prop} {a : Int} {t : Tok} {b : Bool} (h : Q (.bool (decide ((if b then 1 else 0) < a))) s) : wpAny (model prog w) A (compareOp .Gt (.int a t) (.bool b)) Q E s := by
  show wpAny (model prog w) A (richCompare .Gt (.int a t) (.bool b)) Q E s
  refine SeqAt.rc_sub_first_or (op := .Gt) (Ta := "int") (Tb := "bool") (id := "int.__lt__") (typeIs_int s a t) (typeIs_bool' s b) (by decide) F.sub_bool_int F.slot_bool_lt_refl ?_ (.inl rfl)
  refine call_gives F.slot_bool_lt_refl (typeIs_bool' s b) F.entry_int_lt (F.args_int_lt_2 _ _) (gives_lt_bi b a t) ?_
  exact ⟨nofun, h⟩
theorem p_gt : P2 cx (compareOp .Gt) pGt VR := by
  intro ρ hid st s x a A b B ha hb v st' h
  unfold pGt at h
  split at h
  · obtain ⟨t, rfl⟩ := vr_int ha; obtain ⟨u, rfl⟩ := vr_int hb
    cases h
    exact PyProof.Rows.gt_int (fin_same x (.bool _))
  · cases vr_bool ha; obtain ⟨u, rfl⟩ := vr_int hb
    cases h
    exact gt_bool_int (fin_same x (.bool _))
  · obtain ⟨t, rfl⟩ := vr_int ha; cases vr_bool hb
    cases h
    exact gt_int_bool (fin_same x (.bool _))
  · cases vr_bool ha; cases vr_bool hb
    cases h
    exact PyProof.Rows.gt_bool (fin_same x (.bool _))
  · cases h
end
end Mine
namespace Mine
section
variable {cx : Cx}
end
end Mine
namespace Mine
section
variable {cx : Cx}
structure LamOk (scope : Scope) (env : Env) (fr : List String) : Prop where
  free : (scope.names.all fun y => y.2 != .free || (env.cells.lookup y.1).isSome) = true
  frf : (fr.all fun n => scope.names.lookup (Str.ofString n) == some .free) = true
  frk : (fr.all fun n => env.kindOf (Str.ofString n) != some .local) = true
end
end Mine
namespace Mine
/-- a function made in a body, called: one parameter, what it keeps, its body -/
def callC (p : String) (mb : PM Fl) (cs : List (String × V)) : List V → PM V
  | [v] => fun st => (match mb ⟨fun n => if n = p then some v else cs.lookup n, st.sto⟩ with
      | .ok fl st' => .ok (match fl with | .ret v => v | _ => .none) ⟨st.loc, st'.sto⟩
      | .exc e st' => .exc e ⟨st.loc, st'.sto⟩
      | .fail => .fail)
  | _ => PM.fail
section
variable {cx : Cx}
/-- the law's closure as a primitive -/
structure FnC (cx : Cx) (k : Nat) (p : String) (mb : PM Fl) : Prop where
  run : ∀ A', (cx.at A').Ok → A'.depth + 4 * k + 5 < recursionLimit → A'.units + 40 * k + 203 < cLine → ∀ {ρ : Map} {hid : Hd} {st st' : St} {s : Shared}, Rel cx ρ hid st s → ∀ {j : Nat} {cs : List (String × V)} {q : Addr × Addr}, st.sto[j]? = some (.clos cs) → ρ[j]? = some q →
    ∀ {vs : List V} {Vs : List Value}, VRs ρ vs Vs → ∀ {v : V}, callC p mb cs vs st = .ok v st' → ∀ {R : Result → Shared → Prop}, (∀ ρ' W s', ρ <+: ρ' → Rel cx ρ' hid st' s' → VR ρ' v W → R (.ok (.ret W)) s') → codeAny cx.M A' (.call (.ref q.1) ⟨Vs, []⟩) R s
end
end Mine
namespace Mine
section
variable {cx : Cx}
end
end Mine
namespace Mine
/-- texts in their order -/
def leL (a b : List Nat) : Bool := !decide (b < a)
def sortL (l : List (List Nat)) : List (List Nat) := l.mergeSort leL
def cSorted : List V → PM V
  | [.obj j] => fun st => match st.sto[j]? with
    | some (.list xs) => (match strsOf xs with
      | some ls => if ls.length < 64 then alloc (.list ((sortL ls).map V.str)) st else .fail
      | none => .fail)
    | _ => .fail
  | _ => PM.fail
section
variable {cx : Cx}
/-- extend, also by nothing -/
def cExtendE : List V → PM V
  | [.obj i, .obj j] => fun st => match st.sto[i]?, st.sto[j]? with
    | some (.list xs), some (.list []) => if xs.length ≤ 1000000 then .ok .none st else .fail
    | _, _ => cExtend [.obj i, .obj j] st
  | _ => PM.fail
theorem kl_extend0 {prog : Program} {w : World} {A : Around} {E : Value → Shared → Prop} {s : Shared} {h₀ : Heap} {L : Addr} {m : Str → Option Value} {news : List (Addr × Obj)} {D b : Addr} {its : Array Value} {n n2 : Nat} {Q : Value → Shared → Prop} (F : Fr h₀ L s.heap m) (N : News h₀ L s.heap news) (hb : (b, listObj [] n2) ∈ news)
    {its' : List Value} {news' : List (Addr × Obj)} (U : Upd D (listObj its' n) (listObj its' n) news news') (hd : its'.length ≤ 1000000)
    (h : ∀ h', Fr h₀ L h' m → News h₀ L h' news → Q .none { s with heap := h' }) : wpAny (model prog w) A (call (.builtin "list.extend") [.ref D, .ref b]) Q E s := by
  obtain ⟨pre, post, rfl, rfl, a, c⟩ := U.split
  have z := N (D, listObj its' n) (List.mem_append.mpr (.inr (.head _)))
  have hsz : sizeLine = 16777216 := by decide
  refine call_meets PySem.F.slot_list_extend ⟨_, z.1, rfl⟩ PySem.F.entry_list_extend (PySem.F.args_list_extend_2 _ _) (PySem.AutoSeq1.list_extend_list_list_0 D its'.toArray n b #[] n2 ?_ (by rw [List.size_toArray]; omega) (by rw [List.size_toArray]; simp; omega)) ⟨z.1, (N _ hb).1, h _ (F.change (Heap.SameBut.update ..) z.2.1 z.2.2) (kl_turn0 _ N a c ?_ rfl)⟩
  · simp only [Builtin.List.listTooLong, List.size_toArray]
    simp; omega
  · simp
theorem pc_extendE : PC cx (.builtin "list.extend") cExtendE := by
  intro ρ hid st s x vs Vs hv v st' h
  unfold cExtendE at h
  split at h
  · rename_i i j
    split at h
    · rename_i xs hi hj
      split at h
      · rename_i hl
        cases h
        obtain ⟨A, B, rfl, ha, hb⟩ := vrs_two hv
        obtain ⟨p, hp, rfl⟩ := vr_obj ha
        obtain ⟨q, hq, rfl⟩ := vr_obj hb
        obtain ⟨fz, led, m, mloc, x⟩ := x
        obtain ⟨Xs, n, h1, h2⟩ := x.list_at hi hp
        obtain ⟨Ys, n2, g1, g2⟩ := x.list_at hj hq
        cases g1
        have hlen := h1.length
        refine kl_extend0 (its := #[]) x.F x.N g2 (upd_of _ h2 x.B.nd) (by omega) (fun h' F' N' => ?_)
        exact ⟨ρ, pre_refl ρ, RelD.rel (x.go (tk := s.toks) F' N' x.B), .none⟩
      · cases h
    · exact pc_extend ρ hid st s x _ _ hv v st' h
  · cases h
end
end Mine
namespace Mine
/-- what holds when a PM program has run -/
def wp {α : Type} (m : PM α) (st : St) (Q : α → St → Prop) : Prop := match m st with
  | .ok a st' => Q a st'
  | _ => False
theorem wp_run {α : Type} {m : PM α} {st : St} {Q : α → St → Prop} (h : wp m st Q) : ∃ a st', m st = .ok a st' ∧ Q a st' := by
  unfold wp at h
  cases e : m st with
  | ok a st' => rw [e] at h; exact ⟨a, st', rfl, h⟩
  | exc _ _ => rw [e] at h; exact h.elim
  | fail => rw [e] at h; exact h.elim
theorem wp_of {α : Type} {m : PM α} {st st' : St} {a : α} {Q : α → St → Prop} (e : m st = .ok a st') (h : Q a st') : wp m st Q := by
  unfold wp; rw [e]; exact h
theorem wp_mono {α : Type} {m : PM α} {st : St} {Q Q' : α → St → Prop} (h : wp m st Q) (k : ∀ a st', Q a st' → Q' a st') : wp m st Q' := by
  obtain ⟨a, st', e, q⟩ := wp_run h
  exact wp_of e (k a st' q)
theorem wp_bind {α β : Type} {m : PM α} {f : α → PM β} {st : St} {Q : β → St → Prop} : wp (PM.bind m f) st Q = wp m st (fun a st' => wp (f a) st' Q) := by
  unfold wp PM.bind
  cases m st <;> rfl
theorem wp_pure {α : Type} {a : α} {st : St} {Q : α → St → Prop} : wp (PM.pure a) st Q = Q a st := rfl
theorem wp_getL {n : String} {st : St} {Q : V → St → Prop} : wp (getL n) st Q = ∃ v, st.loc n = some v ∧ Q v st := by
  unfold wp getL
  cases e : st.loc n with
  | some v => simp
  | none => simp
theorem wp_setL {n : String} {v : V} {st : St} {Q : Unit → St → Prop} : wp (setL n v) st Q = Q () { st with loc := fun k => if k = n then some v else st.loc k } := rfl
theorem wp_alloc {o : O} {st : St} {Q : V → St → Prop} : wp (alloc o) st Q = Q (.obj st.sto.length) { st with sto := st.sto ++ [o] } := rfl
theorem wp_allocList {vs : List V} {st : St} {Q : V → St → Prop} : wp (allocList vs) st Q = (vs.length ≤ 1000000 ∧ Q (.obj st.sto.length) { st with sto := st.sto ++ [.list vs] }) := by
  unfold wp allocList alloc
  by_cases h : vs.length ≤ 1000000
  · simp [h]
  · simp [h]
theorem wp_allocTuple {vs : List V} {st : St} {Q : V → St → Prop} : wp (allocTuple vs) st Q = (vs.length ≤ 1000000 ∧ Q (.obj st.sto.length) { st with sto := st.sto ++ [.tuple vs] }) := by
  unfold wp allocTuple alloc
  by_cases h : vs.length ≤ 1000000
  · simp [h]
  · simp [h]
theorem wp_ite {α : Type} {m : PM Bool} {a b : PM α} {st : St} {Q : α → St → Prop} : wp (iteP m a b) st Q = wp m st (fun c st' => if c = true then wp a st' Q else wp b st' Q) := by
  unfold iteP
  rw [wp_bind]
  congr 1
  funext c st'
  cases c <;> simp
theorem wp_and {m k : PM Bool} {st : St} {Q : Bool → St → Prop} : wp (andP m k) st Q = wp m st (fun c st' => if c = true then wp k st' Q else Q false st') := by
  unfold andP
  rw [wp_bind]
  congr 1
  funext c st'
  cases c <;> simp [wp_pure]
theorem wp_or {m k : PM Bool} {st : St} {Q : Bool → St → Prop} : wp (orP m k) st Q = wp m st (fun c st' => if c = true then Q true st' else wp k st' Q) := by
  unfold orP
  rw [wp_bind]
  congr 1
  funext c st'
  cases c <;> simp [wp_pure]
theorem wp_seq' {m k : PM Fl} {st : St} {Q : Fl → St → Prop} : wp (seqF m k) st Q = wp m st (fun f st' => match f with | .next => wp k st' Q | .brk => Q .brk st' | .cont => Q .cont st' | .ret v => Q (.ret v) st') := by
  unfold seqF
  rw [wp_bind]
  congr 1
  funext f st'
  cases f <;> rfl
theorem wp_add {a b : Int} {st : St} {Q : V → St → Prop} : wp (pAdd (.int a) (.int b)) st Q = Q (.int (a + b)) st := rfl
theorem wp_sub {a b : Int} {st : St} {Q : V → St → Prop} : wp (pSub (.int a) (.int b)) st Q = Q (.int (a - b)) st := rfl
theorem wp_neg {a : Int} {st : St} {Q : V → St → Prop} : wp (pNeg (.int a)) st Q = Q (.int (-a)) st := rfl
theorem eqP_int (st : St) (a b : Int) : eqP st (.int a) (.int b) = some (decide (a = b)) := by
  show some (PyData.eqv (.int a) (.int b)) = _
  congr 1
theorem wp_truthyB {b : Bool} {st : St} {Q : Bool → St → Prop} : wp (pTruthy (.bool b)) st Q = Q b st := rfl
theorem wp_item {o i v : V} {st : St} {Q : V → St → Prop} (h : itemP st o i = some v) : wp (pItem o i) st Q = Q v st := by
  simp [wp, pItem, h]
theorem wp_isStr {l : List Nat} {st : St} {Q : Unit → St → Prop} : wp (isStr (.str l)) st Q = Q () st := rfl
theorem wp_isList {i : Nat} {xs : List V} {st : St} {Q : Unit → St → Prop} (h : st.sto[i]? = some (.list xs)) : wp (isList (.obj i)) st Q = Q () st := by
  simp [wp, isList, h]
theorem wp_isInst {n : String} {i : Nat} {as : List (String × V)} {st : St} {Q : Unit → St → Prop} (h : st.sto[i]? = some (.inst as)) (hn : as.lookup n = none) : wp (isInst n (.obj i)) st Q = Q () st := by
  simp [wp, isInst, h, hn]
theorem wp_gAttr {n : String} {i : Nat} {as : List (String × V)} {v : V} {st : St} {Q : V → St → Prop} (h : st.sto[i]? = some (.inst as)) (hn : as.lookup n = some v) (hg : ∀ u, v ≠ .glob u) : wp (gAttr n (.obj i)) st Q = Q v st := by
  unfold wp gAttr
  dsimp only
  rw [h]
  dsimp only
  rw [hn]
  cases v <;> first | rfl | exact absurd rfl (hg _)
theorem wp_sAttr {n : String} {i : Nat} {as : List (String × V)} {v : V} {st : St} {Q : Unit → St → Prop} (h : st.sto[i]? = some (.inst as)) (hl : as.length ≤ 90) : wp (sAttr n v (.obj i)) st Q = Q () { st with sto := st.sto.set i (.inst (putA n v as)) } := by
  simp [wp, sAttr, h, hl]
/-- loops -/
theorem wp_loop {src : Src} {body : V → PM Fl} {Q : Fl → St → Prop} (I : List V → St → Prop) (hc : ∀ r st, I r st → ∀ p, src = some p → st.sto[p.1]? = some p.2)
    (step : ∀ x r st, I (x :: r) st → wp (body x) st (fun f st' => match f with | .next => I r st' | .cont => I r st' | .brk => Q .next st' | .ret v => Q (.ret v) st')) (done : ∀ st, I [] st → Q .next st) :
    ∀ (xs : List V) (st : St), I xs st → wp (loopF src body xs) st Q
  | [], st, h => by
    have : chk src st = .ok () st := by
      cases src with
      | none => rfl
      | some p => exact chk_some (hc _ _ h p rfl)
    unfold loopF
    rw [wp_bind]
    exact wp_of this (done st h)
  | x :: r, st, h => by
    have : chk src st = .ok () st := by
      cases src with
      | none => rfl
      | some p => exact chk_some (hc _ _ h p rfl)
    unfold loopF
    rw [wp_bind]
    refine wp_of this ?_
    rw [wp_bind]
    refine wp_mono (step x r st h) fun f st' q => ?_
    cases f with
    | next => exact wp_loop I hc step done r st' q
    | cont => exact wp_loop I hc step done r st' q
    | brk => exact q
    | ret v => exact q
end Mine
namespace Mine
noncomputable def initE : PM Fl := (seqF (PM.bind (PM.bind (PM.pure []) allocList) fun v => PM.bind (getL "self") fun a => PM.bind (sAttr "useragents" v a) fun _ => PM.pure .next) (seqF (PM.bind (PM.bind (PM.pure []) allocList) fun v => PM.bind (getL "self") fun a => PM.bind (sAttr "rulelines" v a) fun _ => PM.pure .next) (seqF (PM.bind (PM.pure .none) fun v => PM.bind (getL "self") fun a => PM.bind (sAttr "delay" v a) fun _ => PM.pure .next) (PM.bind (PM.pure .none) fun v => PM.bind (getL "self") fun a => PM.bind (sAttr "req_rate" v a) fun _ => PM.pure .next))))
theorem idx_nat {n k : Nat} (h : k < n) : idx n (k : Int) = some k := by
  unfold idx
  rw [if_pos (by omega), if_pos (by omega)]
  simp
theorem get_app_len (l : List O) (o : O) (r : List O) : (l ++ o :: r)[l.length]? = some o := by
  rw [List.getElem?_append_right (Nat.le_refl _)]; simp
theorem get_pre {l l' : List O} (h : l <+: l') {i : Nat} {o : O} (e : l[i]? = some o) : l'[i]? = some o := by
  obtain ⟨t, rfl⟩ := h
  rw [List.getElem?_append_left]
  · exact e
  · rcases Nat.lt_or_ge i l.length with q | q
    · exact q
    · rw [List.getElem?_eq_none q] at e; cases e
theorem get_lt {l : List O} {i : Nat} {o : O} (e : l[i]? = some o) : i < l.length := by
  rcases Nat.lt_or_ge i l.length with q | q
  · exact q
  · rw [List.getElem?_eq_none q] at e; cases e
theorem set_app_len (l : List O) (o o' : O) (r : List O) : (l ++ o :: r).set l.length o' = l ++ o' :: r := by
  rw [List.set_append_right _ _ (Nat.le_refl _)]; simp
theorem wp_call {ps : List String} {mb : PM Fl} {vs : List V} {st : St} {Q : V → St → Prop} (hl : vs.length = ps.length) :
    wp (callP ps mb vs) st Q = wp mb ⟨fun n => (ps.zip vs).lookup n, st.sto⟩ (fun fl st' => Q (match fl with | .ret v => v | _ => .none) ⟨st.loc, st'.sto⟩) := by
  unfold wp callP
  rw [if_pos hl]
  cases mb ⟨fun n => (ps.zip vs).lookup n, st.sto⟩ <;> rfl
theorem wp_entry {st : St} {Q : V → St → Prop} (h : Q (.obj st.sto.length) ⟨st.loc, st.sto ++ [.inst [("useragents", .obj (st.sto.length + 1)), ("rulelines", .obj (st.sto.length + 2)), ("delay", .none), ("req_rate", .none)], .list [], .list []]⟩) :
    wp (newInst initE ["self"] []) st Q := by
  unfold newInst
  rw [wp_bind, wp_alloc, wp_bind, wp_call rfl]
  unfold initE
  have g0 : ∀ (as : List (String × V)) (r : List O), (st.sto ++ O.inst as :: r)[st.sto.length]? = some (.inst as) := fun as r => get_app_len _ _ _
  simp only [wp_seq', wp_bind, wp_pure, wp_allocList, wp_getL, List.length_nil, Nat.zero_le, true_and, List.zip_cons_cons, List.zip_nil_left, List.lookup_cons, List.lookup_nil, beq_self_eq_true, Option.some.injEq, exists_eq_left', List.append_assoc, List.cons_append, List.nil_append, List.length_append, List.length_cons]
  rw [wp_sAttr (as := []) (g0 _ _) (by decide)]
  simp only [set_app_len, List.append_assoc, List.cons_append, List.nil_append, List.length_append, List.length_cons, List.length_nil]
  refine ⟨_, rfl, ?_⟩
  rw [wp_sAttr (g0 _ _) (by simp [putA])]
  simp only [set_app_len]
  refine ⟨_, rfl, ?_⟩
  rw [wp_sAttr (g0 _ _) (by simp [putA])]
  simp only [set_app_len]
  refine ⟨_, rfl, ?_⟩
  rw [wp_sAttr (g0 _ _) (by simp [putA])]
  simp only [set_app_len]
  simpa [putA] using h
theorem cps_star : cps "*" = [42] := by kernel_rfl
theorem cps_slash : cps "/" = [47] := by kernel_rfl
theorem eqv_str (a b : List Nat) : PyData.eqv (.str ⟨a.toArray⟩) (.str ⟨b.toArray⟩) = decide (a = b) := by
  show ((⟨a.toArray⟩ : Str) == ⟨b.toArray⟩) = _
  by_cases h : a = b
  · subst h; simp
  · rw [decide_eq_false h, beq_eq_false_iff_ne]
    intro e
    have : a.toArray = b.toArray := congrArg Str.cps e
    exact h (by simpa using this)
theorem eqP_str (st : St) (a b : List Nat) : eqP st (.str a) (.str b) = some (decide (a = b)) := by
  show some (PyData.eqv (.str ⟨a.toArray⟩) (.str ⟨b.toArray⟩)) = _
  rw [eqv_str]
theorem splitL_head (c : Nat) : ∀ l : List Nat, ∃ r, splitL c l = (l.takeWhile (fun x => decide (x ≠ c))) :: r
  | [] => ⟨[], rfl⟩
  | x :: l => by
    obtain ⟨r, e⟩ := splitL_head c l
    unfold splitL
    by_cases h : x = c
    · rw [if_pos h]; exact ⟨splitL c l, by simp [List.takeWhile_cons, h]⟩
    · rw [if_neg h, e]; exact ⟨r, by simp [List.takeWhile_cons, h]⟩
/-- the part of a name that counts -/
def part (name : List Nat) : List Nat := (name.takeWhile (fun x => decide (x ≠ 47))).map lowP
end Mine
namespace Mine
/-- steps as equations: what must hold, told by cases on the store -/
theorem wp_if {α : Type} {c : Prop} [Decidable c] {m : PM α} {st : St} {Q : α → St → Prop} : wp (fun st => if c then m st else .fail) st Q = (c ∧ wp m st Q) := by
  unfold wp
  by_cases h : c <;> simp [h]
theorem wpE_get {n : String} {st : St} {Q : V → St → Prop} : wp (getL n) st Q = (match st.loc n with | some v => Q v st | none => False) := by
  unfold wp getL
  cases st.loc n <;> rfl
theorem wpE_mod {a b : Int} {st : St} {Q : V → St → Prop} : wp (pMod (.int a) (.int b)) st Q = (0 < b ∧ Q (.int (a % b)) st) := by
  by_cases h : 0 < b <;> simp [wp, pMod, h]
theorem wpE_div {a b : Int} {st : St} {Q : V → St → Prop} : wp (pDiv (.int a) (.int b)) st Q = ((0 < b ∧ b < 1000000000) ∧ Q (.int (a / b)) st) := by
  by_cases h : 0 < b ∧ b < 1000000000 <;> simp [wp, pDiv, h]
theorem wpE_pow {a b : Int} {st : St} {Q : V → St → Prop} : wp (pPow (.int a) (.int b)) st Q = ((small a && (decide (0 ≤ b) && decide (b ≤ 1000))) = true ∧ Q (.int (a ^ b.toNat)) st) := wp_if
theorem wpE_addS {a b : List Nat} {st : St} {Q : V → St → Prop} : wp (pAdd (.str a) (.str b)) st Q = (a.length + b.length ≤ 1000000 ∧ Q (.str (a ++ b)) st) := by
  by_cases h : a.length + b.length ≤ 1000000 <;> simp [wp, pAdd, h]
theorem wpE_iaddS {a b : List Nat} {st : St} {Q : V → St → Prop} : wp (pIAdd (.str a) (.str b)) st Q = (a.length + b.length ≤ 1000000 ∧ Q (.str (a ++ b)) st) := by
  by_cases h : a.length + b.length ≤ 1000000 <;> simp [wp, pIAdd, h]
theorem wpE_iaddI {a b : Int} {st : St} {Q : V → St → Prop} : wp (pIAdd (.int a) (.int b)) st Q = Q (.int (a + b)) st := rfl
theorem wpE_lt {a b : Int} {st : St} {Q : V → St → Prop} : wp (pLt (.int a) (.int b)) st Q = Q (.bool (decide (a < b))) st := rfl
theorem wpE_le {a b : Int} {st : St} {Q : V → St → Prop} : wp (pLe (.int a) (.int b)) st Q = Q (.bool (decide (a ≤ b))) st := rfl
theorem wpE_ge {a b : Int} {st : St} {Q : V → St → Prop} : wp (pGe (.int a) (.int b)) st Q = Q (.bool (decide (b ≤ a))) st := rfl
theorem wpE_gt {a b : Int} {st : St} {Q : V → St → Prop} : wp (pGt (.int a) (.int b)) st Q = Q (.bool (decide (b < a))) st := rfl
theorem wpE_eq {a b : V} {st : St} {Q : V → St → Prop} : wp (pEq a b) st Q = (match eqP st a b with | some c => Q (.bool c) st | none => False) := by
  unfold wp pEq
  cases eqP st a b <;> rfl
theorem wpE_ne {a b : V} {st : St} {Q : V → St → Prop} : wp (pNe a b) st Q = (match eqP st a b with | some c => Q (.bool (!c)) st | none => False) := by
  unfold wp pNe
  cases eqP st a b <;> rfl
theorem wpE_is {a b : V} {st : St} {Q : V → St → Prop} : wp (pIs a b) st Q = (match isP a b with | some c => Q (.bool c) st | none => False) := by
  unfold wp pIs
  cases isP a b <;> rfl
theorem wpE_isnot {a b : V} {st : St} {Q : V → St → Prop} : wp (pIsNot a b) st Q = (match isP a b with | some c => Q (.bool (!c)) st | none => False) := by
  unfold wp pIsNot
  cases isP a b <;> rfl
theorem isP_bool (a b : Bool) : isP (.bool a) (.bool b) = some (a == b) := rfl
theorem isP_obj (i : Nat) : isP (.obj i) (.obj i) = some true := by simp [isP]
theorem wpE_in {a b : V} {st : St} {Q : V → St → Prop} : wp (pIn a b) st Q = (match inP st a b with | some c => Q (.bool c) st | none => False) := by
  unfold wp pIn
  cases inP st a b <;> rfl
theorem wpE_notin {a b : V} {st : St} {Q : V → St → Prop} : wp (pNotIn a b) st Q = (match inP st a b with | some c => Q (.bool (!c)) st | none => False) := by
  unfold wp pNotIn
  cases inP st a b <;> rfl
theorem wpE_truthyI {i : Int} {st : St} {Q : Bool → St → Prop} : wp (pTruthy (.int i)) st Q = Q (i != 0) st := rfl
theorem wpE_truthyN {st : St} {Q : Bool → St → Prop} : wp (pTruthy .none) st Q = Q false st := rfl
theorem wpE_truthyS {l : List Nat} {st : St} {Q : Bool → St → Prop} : wp (pTruthy (.str l)) st Q = (l.length ≤ 1000000 ∧ Q (!l.isEmpty) st) := by
  by_cases h : l.length ≤ 1000000 <;> simp [wp, pTruthy, h]
theorem itemL {st : St} {j k : Nat} {xs : List V} {v : V} (h : st.sto[j]? = some (.list xs)) (hl : xs.length ≤ 1000000) (hk : xs[k]? = some v) : itemP st (.obj j) (.int (k : Int)) = some v := by
  have hlt : k < xs.length := by
    rcases Nat.lt_or_ge k xs.length with q | q
    · exact q
    · rw [List.getElem?_eq_none q] at hk; cases hk
  unfold itemP
  dsimp only
  rw [h]
  dsimp only
  rw [if_pos hl, idx_nat hlt]
  exact hk
theorem wpE_lenS {l : List Nat} {st : St} {Q : V → St → Prop} : wp (cLen [.str l]) st Q = (l.length ≤ 1000000 ∧ Q (.int l.length) st) := by
  by_cases h : l.length ≤ 1000000 <;> simp [wp, cLen, h]
theorem wpE_lenG {a : Addr} {xs : List Int} {st : St} {Q : V → St → Prop} : wp (cLenG a xs [.glob (.ref a)]) st Q = (xs.length ≤ 1000000 ∧ Q (.int xs.length) st) := by
  by_cases h : xs.length ≤ 1000000 <;> simp [wp, cLenG, h]
theorem wpE_sliceL {i : Nat} {xs : List V} {l u : V} {lo hi : Option Int} {st : St} {Q : V → St → Prop} (hi' : st.sto[i]? = some (.list xs)) (h1 : asPart l = some lo) (h2 : asPart u = some hi) :
    wp (sliceP (.obj i) l u) st Q = (xs.length ≤ 1000000 ∧ Q (.obj st.sto.length) { st with sto := st.sto ++ [.list (cut xs lo hi)] }) := by
  unfold wp sliceP
  rw [h1, h2]
  by_cases h : xs.length ≤ 1000000 <;> simp [h, alloc, hi']
theorem wpE_iterL {i : Nat} {xs : List V} {st : St} {Q : Src × List V → St → Prop} (h : st.sto[i]? = some (.list xs)) : wp (iterOf (.obj i)) st Q = Q (some (i, .list xs), xs) st := by
  simp [wp, iterOf, h]
theorem wpE_iterT {i : Nat} {xs : List V} {st : St} {Q : Src × List V → St → Prop} (h : st.sto[i]? = some (.tuple xs)) : wp (iterOf (.obj i)) st Q = Q (some (i, .tuple xs), xs) st := by
  simp [wp, iterOf, h]
theorem wpE_iterS {l : List Nat} {st : St} {Q : Src × List V → St → Prop} : wp (iterOf (.str l)) st Q = Q (none, l.map fun c => .str [c]) st := rfl
theorem wpE_extend {i j : Nat} {xs ys : List V} {st : St} {Q : V → St → Prop} (hi : st.sto[i]? = some (.list xs)) (hj : st.sto[j]? = some (.list ys)) : wp (cExtend [.obj i, .obj j]) st Q = ((xs.length + ys.length ≤ 1000000 ∧ ys ≠ []) ∧ Q .none { st with sto := st.sto.set i (.list (xs ++ ys)) }) := by
  have e : cExtend [.obj i, .obj j] st = (if xs.length + ys.length ≤ 1000000 ∧ ys ≠ [] then .ok .none { st with sto := st.sto.set i (.list (xs ++ ys)) } else .fail) := by
    unfold cExtend
    simp only [hi, hj]
  unfold wp
  rw [e]
  by_cases h : xs.length + ys.length ≤ 1000000 ∧ ys ≠ []
  · rw [if_pos h]; simp [h]
  · rw [if_neg h]; simp only [h, false_and]
theorem wpE_iterG {a : Addr} {xs : List Int} {st : St} {Q : Src × List V → St → Prop} : wp (iterG a xs (.glob (.ref a))) st Q = Q (none, xs.map V.int) st := by
  simp [wp, iterG, PM.pure]
theorem wpE_max2 {a b : Int} {st : St} {Q : V → St → Prop} : wp (cMax [.int a, .int b]) st Q = Q (.int (if b > a then b else a)) st := rfl
theorem wpE_min2 {a b : Int} {st : St} {Q : V → St → Prop} : wp (cMin [.int a, .int b]) st Q = Q (.int (if b < a then b else a)) st := rfl
theorem wpE_range1 {n : Int} {st : St} {Q : V → St → Prop} : wp (cRange [.int n]) st Q = Q (.obj st.sto.length) { st with sto := st.sto ++ [.range 0 n 1] } := rfl
theorem wpE_range2 {a b : Int} {st : St} {Q : V → St → Prop} : wp (cRange [.int a, .int b]) st Q = Q (.obj st.sto.length) { st with sto := st.sto ++ [.range a b 1] } := rfl
/-- loops over a told list -/
theorem wp_for {α : Type} {f : α → V} {src : Src} {body : V → PM Fl} {Q : Fl → St → Prop} {st : St} (xs : List α) (I : List α → (String → Option V) → List O → Prop) (hsrc : ∀ d loc sto, I d loc sto → ∀ p, src = some p → sto[p.1]? = some p.2)
    (step : ∀ d x r loc sto, xs = d ++ x :: r → I d loc sto → wp (body (f x)) ⟨loc, sto⟩ (fun fl s' => match fl with | .next => I (d ++ [x]) s'.loc s'.sto | .cont => I (d ++ [x]) s'.loc s'.sto | .brk => Q .next s' | .ret v => Q (.ret v) s'))
    (fin : ∀ loc sto, I xs loc sto → Q .next ⟨loc, sto⟩) (h0 : I [] st.loc st.sto) : wp (loopF src body (xs.map f)) st Q := by
  refine wp_loop (fun r s => ∃ d rs, xs = d ++ rs ∧ r = rs.map f ∧ I d s.loc s.sto) (fun r s hs p hp => ?_) (fun x r s hs => ?_) (fun s hs => ?_) _ _ ⟨[], xs, rfl, rfl, h0⟩
  · obtain ⟨d, rs, _, _, hI⟩ := hs
    exact hsrc d s.loc s.sto hI p hp
  · obtain ⟨d, rs, e1, e2, hI⟩ := hs
    cases rs with
    | nil => cases e2
    | cons y rs =>
      rw [List.map_cons, List.cons.injEq] at e2
      obtain ⟨rfl, rfl⟩ := e2
      refine wp_mono (step d y rs s.loc s.sto e1 hI) fun fl s' q => ?_
      cases fl with
      | next => exact ⟨d ++ [y], rs, by rw [e1]; simp, rfl, q⟩
      | cont => exact ⟨d ++ [y], rs, by rw [e1]; simp, rfl, q⟩
      | brk => exact q
      | ret v => exact q
  · obtain ⟨d, rs, e1, e2, hI⟩ := hs
    cases rs with
    | nil =>
      rw [List.append_nil] at e1
      subst e1
      exact fin s.loc s.sto hI
    | cons y rs => cases e2
/-- comprehensions over a told list -/
theorem wp_comp {α : Type} {f : α → V} {fr : List String} {n : String} {mi : PM V} {mc : PM Bool} {me : PM V} {st : St} {Q : V → St → Prop} {src : Src} {a : V} {st1 : St} (xs : List α) (keep : α → Bool) (val : α → V)
    (hmi : wp mi st (fun v s => v = a ∧ s = st1)) (hit : wp (iterOf a) st1 (fun v s => v = (src, xs.map f) ∧ s = st1)) (hn : n ∉ fr) (hsrc : ∀ p, src = some p → st1.sto[p.1]? = some p.2) (hl : xs.length ≤ 1000000)
    (step : ∀ x ∈ xs, ∀ loc sto, (∀ m ∈ fr, loc m = st1.loc m) → st1.sto <+: sto → loc n = some (f x) →
      wp mc ⟨loc, sto⟩ (fun b s2 => b = keep x ∧ (s2.loc = loc ∧ st1.sto <+: s2.sto) ∧ (keep x = true → wp me s2 (fun v s3 => v = val x ∧ s3.loc = loc ∧ st1.sto <+: s3.sto))))
    (hQ : ∀ sto', st1.sto <+: sto' → Q (.obj sto'.length) ⟨st1.loc, sto' ++ [.list ((xs.filter keep).map val)]⟩) : wp (compV fr n mi mc me) st Q := by
  obtain ⟨_, _, e1, rfl, rfl⟩ := wp_run hmi
  obtain ⟨_, _, e2, rfl, rfl⟩ := wp_run hit
  unfold compV
  rw [wp_bind]
  refine wp_of e1 ?_
  rw [wp_bind]
  refine wp_of e2 ?_
  rw [wp_bind]
  rename_i st1
  have key : ∀ (ys : List α) (acc : List V) (s : St), (∀ y ∈ ys, y ∈ xs) → acc.length + ys.length ≤ 1000000 → (∀ m ∈ fr, s.loc m = st1.loc m) ∧ st1.sto <+: s.sto →
      wp (compM src (setL n) mc me acc (ys.map f)) s (fun vs s' => vs = acc ++ (ys.filter keep).map val ∧ (∀ m ∈ fr, s'.loc m = st1.loc m) ∧ st1.sto <+: s'.sto) := by
    intro ys
    have hchk : ∀ s : St, st1.sto <+: s.sto → chk src s = .ok () s := fun s hs => by
      cases src with
      | none => rfl
      | some p => exact chk_some (get_pre hs (hsrc p rfl))
    induction ys with
    | nil =>
      intro acc s _ _ h
      rw [List.map_nil]
      unfold compM
      rw [wp_bind]
      exact wp_of (hchk s h.2) ⟨by simp, h⟩
    | cons y r ih =>
      intro acc s hm hl h
      rw [List.map_cons]
      unfold compM
      rw [wp_bind]
      refine wp_of (hchk s h.2) ?_
      rw [wp_bind, wp_setL, wp_bind]
      have hs' : ∀ m ∈ fr, (if m = n then some (f y) else s.loc m) = st1.loc m := fun m hm => by
        have hne : ¬ m = n := fun (e : m = n) => hn (e ▸ hm)
        rw [if_neg hne]; exact h.1 m hm
      simp only [List.length_cons] at hl
      refine wp_mono (step y (hm y (.head _)) (fun k => if k = n then some (f y) else s.loc k) s.sto hs' h.2 (by simp)) fun b s2 q => ?_
      obtain ⟨rfl, q2, q3⟩ := q
      cases hk : keep y with
      | true =>
        dsimp only
        rw [wp_bind]
        refine wp_mono (q3 hk) fun v s3 q4 => ?_
        obtain ⟨rfl, q5, q6⟩ := q4
        have hle : acc.length ≤ 1000000 := by omega
        have e0 : (fun st => if acc.length ≤ 1000000 then compM src (setL n) mc me (acc ++ [val y]) (r.map f) st else .fail : PM (List V)) = compM src (setL n) mc me (acc ++ [val y]) (r.map f) := by
          funext s'; rw [if_pos hle]
        rw [e0]
        refine wp_mono (ih (acc ++ [val y]) s3 (fun z hz => hm z (.tail _ hz)) (by simp; omega) ⟨fun m hm => by rw [q5]; exact hs' m hm, q6⟩) fun vs s' q7 => ⟨?_, q7.2⟩
        rw [q7.1, List.filter_cons, hk]
        simp
      | false =>
        dsimp only
        refine wp_mono (ih acc s2 (fun z hz => hm z (.tail _ hz)) (by omega) ⟨fun m hm => by rw [q2.1]; exact hs' m hm, q2.2⟩) fun vs s' q7 => ⟨?_, q7.2⟩
        rw [q7.1, List.filter_cons, hk]
        simp
  obtain ⟨vs, s', e, q⟩ := wp_run (key xs [] ⟨fun m => if m ∈ fr then st1.loc m else none, st1.sto⟩ (fun _ h => h) (by simpa using hl) ⟨fun m hm => by simp [hm], List.prefix_refl _⟩)
  unfold wp inScope
  dsimp only at e ⊢
  rw [e]
  dsimp only
  rw [if_pos q.2.1]
  dsimp only
  rw [q.1]
  exact hQ s'.sto q.2.2
theorem get_set_other {l : List O} {i j : Nat} {o o' : O} (h : l[i]? = some o) (hne : j ≠ i) : (l.set j o')[i]? = some o := by
  rw [List.getElem?_set_ne hne]; exact h
theorem get_set_here {l : List O} {i : Nat} {o o' : O} (h : l[i]? = some o) : (l.set i o')[i]? = some o' := List.getElem?_set_self (get_lt h)
-- the same with the state told as names and store
section
variable {loc : String → Option V} {sto : List O}
theorem wL_isList {i : Nat} {xs : List V} {Q : Unit → St → Prop} (h : sto[i]? = some (.list xs)) : wp (isList (.obj i)) ⟨loc, sto⟩ Q = Q () ⟨loc, sto⟩ := wp_isList h
theorem wL_isInst {n : String} {i : Nat} {as : List (String × V)} {Q : Unit → St → Prop} (h : sto[i]? = some (.inst as)) (hn : as.lookup n = none) : wp (isInst n (.obj i)) ⟨loc, sto⟩ Q = Q () ⟨loc, sto⟩ := wp_isInst h hn
theorem wL_gAttr {n : String} {i : Nat} {as : List (String × V)} {v : V} {Q : V → St → Prop} (h : sto[i]? = some (.inst as)) (hn : as.lookup n = some v) (hg : ∀ u, v ≠ .glob u) : wp (gAttr n (.obj i)) ⟨loc, sto⟩ Q = Q v ⟨loc, sto⟩ := wp_gAttr h hn hg
theorem wL_item {j k : Nat} {xs : List V} {v : V} {Q : V → St → Prop} (h : sto[j]? = some (.list xs)) (hl : xs.length ≤ 1000000) (hk : xs[k]? = some v) : wp (pItem (.obj j) (.int (k : Int))) ⟨loc, sto⟩ Q = Q v ⟨loc, sto⟩ := wp_item (itemL h hl hk)
theorem wL_slice {i : Nat} {xs : List V} {l u : V} {lo hi : Option Int} {Q : V → St → Prop} (hi' : sto[i]? = some (.list xs)) (h1 : asPart l = some lo) (h2 : asPart u = some hi) : wp (sliceP (.obj i) l u) ⟨loc, sto⟩ Q = (xs.length ≤ 1000000 ∧ Q (.obj sto.length) ⟨loc, sto ++ [.list (cut xs lo hi)]⟩) := wpE_sliceL hi' h1 h2
theorem wL_iter {i : Nat} {xs : List V} {Q : Src × List V → St → Prop} (h : sto[i]? = some (.list xs)) : wp (iterOf (.obj i)) ⟨loc, sto⟩ Q = Q (some (i, .list xs), xs) ⟨loc, sto⟩ := wpE_iterL h
theorem wL_iterT {i : Nat} {xs : List V} {Q : Src × List V → St → Prop} (h : sto[i]? = some (.tuple xs)) : wp (iterOf (.obj i)) ⟨loc, sto⟩ Q = Q (some (i, .tuple xs), xs) ⟨loc, sto⟩ := wpE_iterT h
theorem wL_extend {i j : Nat} {xs ys : List V} {Q : V → St → Prop} (hi : sto[i]? = some (.list xs)) (hj : sto[j]? = some (.list ys)) : wp (cExtend [.obj i, .obj j]) ⟨loc, sto⟩ Q = ((xs.length + ys.length ≤ 1000000 ∧ ys ≠ []) ∧ Q .none ⟨loc, sto.set i (.list (xs ++ ys))⟩) := wpE_extend hi hj
theorem wL_unpack2 {j : Nat} {v w : V} {g1 g2 : V → PM Unit} {Q : Unit → St → Prop} (h : sto[j]? = some (.tuple [v, w])) : wp (unpackP [g1, g2] (.obj j)) ⟨loc, sto⟩ Q = wp (g1 v) ⟨loc, sto⟩ (fun _ s => wp (g2 w) s Q) := by
  have e : unpackP [g1, g2] (.obj j) ⟨loc, sto⟩ = PM.bind (g1 v) (fun _ => PM.bind (g2 w) fun _ => PM.pure ()) ⟨loc, sto⟩ := by
    unfold unpackP
    simp only [h, List.length_cons, List.length_nil, if_true, asgAll]
  have e2 : wp (unpackP [g1, g2] (.obj j)) ⟨loc, sto⟩ Q = wp (PM.bind (g1 v) (fun _ => PM.bind (g2 w) fun _ => PM.pure ())) ⟨loc, sto⟩ Q := by
    unfold wp; rw [e]
  rw [e2]
  simp only [wp_bind, wp_pure]
theorem wL_entry {Q : V → St → Prop} (h : Q (.obj sto.length) ⟨loc, sto ++ [.inst [("useragents", .obj (sto.length + 1)), ("rulelines", .obj (sto.length + 2)), ("delay", .none), ("req_rate", .none)], .list [], .list []]⟩) :
    wp (newInst initE ["self"] []) ⟨loc, sto⟩ Q := wp_entry h
end
theorem filt_true {α : Type} (l : List α) : l.filter (fun _ => true) = l := List.filter_eq_self.mpr fun _ _ => rfl
theorem loc2 (p q : String) (v w : V) : (fun n => ([p, q].zip [v, w]).lookup n) = fun n => if n = p then some v else if n = q then some w else none := by
  funext n
  simp only [List.zip_cons_cons, List.zip_nil_left, List.lookup_cons, List.lookup_nil]
  by_cases h1 : n = p
  · subst h1; simp
  · have : (n == p) = false := by simpa using h1
    rw [this, if_neg h1]
    by_cases h2 : n = q
    · subst h2; simp
    · have : (n == q) = false := by simpa using h2
      simp [this, if_neg h2]
end Mine
namespace Mine
/-- equality of lists that may hold instances: the same one is equal -/
def eqE (st : St) (v w : V) : Option Bool := match v, w with
  | .obj i, .obj j => if i = j then some true else eqP st (.obj i) (.obj j)
  | v, w => eqP st v w
def eqsE (st : St) : List V → List V → Option Bool
  | [], [] => some true
  | v :: r, w :: q => match eqE st v w, eqsE st r q with
    | some a, some b => some (a && b)
    | _, _ => none
  | _, _ => none
def eqX (st : St) : V → V → Option Bool
  | .obj i, .obj j => match st.sto[i]?, st.sto[j]? with
    | some (.list xs), some (.list ys) => if xs.length = ys.length then eqsE st xs ys else some false
    | _, _ => none
  | _, _ => none
section
variable {cx : Cx}
/-- type() -/
def typeV : V → Option String
  | .none => some "NoneType"
  | .bool _ => some "bool"
  | .int _ => some "int"
  | .str _ => some "str"
  | _ => none
def cType : List V → PM V
  | [v] => fun st => match typeV v with | some T => .ok (.glob (.type T)) st | none => .fail
  | _ => PM.fail
theorem pc_type : PC cx (.type "type") cType := by
  intro ρ hid st s x vs Vs hv v st' h
  unfold cType at h
  split at h
  · rename_i w
    obtain ⟨A, rfl, ha⟩ := vrs_one hv
    split at h
    · rename_i T hT
      cases h
      cases w <;> simp only [typeV, Option.some.injEq, reduceCtorEq] at hT
      · cases vr_none ha; subst hT
        exact call_type_of (typeIs_none _) (by decide) (fin_same x (.glob _))
      · cases vr_bool ha; subst hT
        exact call_type_of (typeIs_bool' _ _) (by decide) (fin_same x (.glob _))
      · obtain ⟨t, rfl⟩ := vr_int ha; subst hT
        exact call_type_of (typeIs_int _ _ _) (by decide) (fin_same x (.glob _))
      · obtain ⟨t, rfl⟩ := vr_str ha; subst hT
        exact call_type_of (typeIs_str _ _ _) (by decide) (fin_same x (.glob _))
    · cases h
  · cases h
/-- list.index of a text among texts -/
def cIndex : List V → PM V
  | [.obj i, .str w] => fun st => match st.sto[i]? with
    | some (.list xs) => (match strsOf xs with
      | some ls => if ls.length ≤ 1000000 ∧ w ∈ ls then .ok (.int (ls.idxOf w : Nat)) st else .fail
      | none => .fail)
    | _ => .fail
  | _ => PM.fail
/-- del xs[:] -/
def delAllP : V → PM Unit
  | .obj j => fun st => match st.sto[j]? with
    | some (.list xs) => if xs.length ≤ 1000000 then .ok () { st with sto := st.sto.set j (.list []) } else .fail
    | _ => .fail
  | _ => PM.fail
theorem delItem_all {prog : Program} {w : World} {A : Around} {E : Value → Shared → Prop} {s : Shared} {D sl : Addr} {its : Array Value} {n : Nat} {Q : Unit → Shared → Prop} (ho : s.heap.get? D = some { cls := .type "list", data := .seq its n }) (hs : s.heap.IsSliceOf sl .none .none .none)
    (h : ∀ h' n', Heap.SameBut D s.heap h' → h'.get? D = some { cls := .type "list", data := .seq #[] n' } → Q () { s with heap := h' }) (hsz : its.size ≤ sizeLine) : wpAny (model prog w) A (delItem (.ref D) (.ref sl)) Q E s := by
  obtain ⟨os, hos, hcs, hds⟩ := id hs
  have hTs : s.TypeIs (.ref sl) "slice" := ⟨os, hos, hcs⟩
  refine wpAny_delItem_slot (T := "list") ⟨_, ho, rfl⟩ (by decide) PySem.F.slot_list_delitem ?_
  refine wpAny_call_entry PySem.F.slot_list_delitem ⟨_, ho, rfl⟩ PySem.F.entry_list_delitem ?_ (PySem.F.args_list_delitem_2 _ _)
  show wpAny _ _ (Builtin.List.listSubscript? (.ref sl) >>= _) _ _ s
  refine wpAny_bind ?_
  unfold Builtin.List.listSubscript?
  refine wpAny_bind (wpAny_specialOf hTs slice_no_index ?_)
  simp only [Option.isNone_none, if_true]
  refine wpAny_pure ?_
  show wpAny _ _ (typeOf (.ref sl) >>= _) _ _ s
  refine wpAny_bind (wpAny_typeOf hTs ?_)
  rw [if_neg (by decide)]
  rw [listSliceParts_eq]
  refine wpAny_bind (wpAny_bind (wpAny_field hos hds (x := .none) rfl (wpAny_bind (wpAny_listPart .none ?_))))
  rw [if_neg (by exact Bool.false_ne_true)]
  refine wpAny_bind (wpAny_field hos hds (x := .none) rfl (wpAny_bind (wpAny_listPart .none ?_)))
  refine wpAny_bind (wpAny_field hos hds (x := .none) rfl (wpAny_bind (wpAny_listPart .none (wpAny_pure ?_))))
  refine wpAny_bind (m := Builtin.List.listItems (.ref D)) ?_
  unfold Builtin.List.listItems
  refine wpAny_bind (wpAny_seqItems ho rfl (wpAny_pure ?_))
  refine wpAny_bind (wpAny_of_eq (sliceIndices_raw none none none its.size (by simp)) ?_)
  refine wpAny_bind (wpAny_rule ?_)
  have hsel : ∀ (f : Array Value → Array Value), (∀ xs, f xs = (List.filterMap (fun x : Value × Nat => if (if (1 : Int) > 0 then decide ((0 : Int) ≤ x.2) && decide ((x.2 : Int) < (its.size : Int)) && ((x.2 : Int) - 0) % 1 == 0 else decide ((its.size : Int) < x.2) && decide ((x.2 : Int) ≤ 0) && ((0 : Int) - x.2) % (-1) == 0) = true then none else some x.1) xs.toList.zipIdx).toArray) → f its = #[] := by
    intro f hf
    rw [hf]
    have : List.filterMap (fun x : Value × Nat => if (if (1 : Int) > 0 then decide ((0 : Int) ≤ x.2) && decide ((x.2 : Int) < (its.size : Int)) && ((x.2 : Int) - 0) % 1 == 0 else decide ((its.size : Int) < x.2) && decide ((x.2 : Int) ≤ 0) && ((0 : Int) - x.2) % (-1) == 0) = true then none else some x.1) its.toList.zipIdx = [] := by
      rw [List.filterMap_eq_nil_iff]
      intro x hx
      have hlt : x.2 < its.size := by
        have := List.snd_lt_of_mem_zipIdx hx
        simpa using this
      rw [if_pos]
      rw [if_pos (by decide)]
      simp [hlt, Int.emod_one]
    rw [this]
  refine wpAny_bind (m := updateSeq D _) ?_
  have fin : ∀ (f : Array Value → Array Value), f its = #[] → ∀ (g : List Value) {P : Fin → Shared → Prop}, (∀ h' n', Heap.SameBut D s.heap h' → h'.get? D = some { cls := .type "list", data := .seq #[] n' } → P (.done (.ret .none)) { s with heap := h' }) → wpAny (model prog w) A.in1 (updateSeq D f) (fun _ s' => wpAny (model prog w) A.in1 (letGo g >>= fun _ => ret .none) P E s') E s := by
    intro f hf g P hP
    have hm : ∃ n', Obj.mapSeq f { cls := .type "list", data := .seq its n } = { cls := .type "list", data := .seq #[] n' } := by
      unfold Obj.mapSeq
      dsimp only
      rw [hf]
      exact ⟨_, rfl⟩
    obtain ⟨n', hm⟩ := hm
    refine wpAny_updateSeq ho rfl ?_ hsz (by rw [hf]; exact Nat.zero_le _)
    refine wpAny_bind (wpAny_letGo (wpAny_pure (hP _ n' (Heap.SameBut.update ..) ?_)))
    rw [Heap.get?_update_self _ ho (by rw [hm]; rfl), hm]
  exact fin _ (hsel _ fun _ => rfl) _ fun h' n' h1 h2 => ⟨_, rfl, h h' n' h1 h2⟩
theorem del_all (ok : cx.Ok) {o : Expr} {sp pos' pos : Pos} {mo : PM V} (ho : SimV cx (eval o cx.env) mo) :
    SimS cx (.Delete [.Subscript o (.Slice none none none sp) pos'] pos) (PM.bind mo fun a => PM.bind (delAllP a) fun _ => PM.pure .next) := by
  intro ρ hid st s x v st' h
  obtain ⟨a, st1, e1, h1⟩ := bind_ok h
  obtain ⟨_, st3, e3, h3⟩ := bind_ok h1
  cases h3
  refine wpAny_Delete ?_
  rw [arm_deleteEach_cons, arm_delete_Subscript]
  refine wpAny_bind (wpAny_bind (wp_seq (ho ρ hid st s x a st1 e1) fun A s1 ρ1 p1 r1 v1 => wpAny_bind (wpAny_holding ?_)))
  rw [arm_eval_Slice]
  refine wpAny_bind (wpAny_pure (wpAny_bind (wpAny_holding (wpAny_pure (wpAny_bind (wpAny_holding (wpAny_pure ?_)))))))
  refine wpAny_newObj_type ?_ (by size_fits)
  refine wpAny_bind (wpAny_standAt (wpAny_bind (wpAny_holding ?_)))
  unfold delAllP at e3
  split at e3
  · rename_i j
    obtain ⟨p, hp, rfl⟩ := vr_obj v1
    split at e3
    · rename_i xs hj
      split at e3
      · rename_i hl
        cases e3
        have rg := rel_garbage r1 (ob := { cls := .type "slice", data := .fields #[.none, .none, .none] }) (tk := s1.toks) rfl
        obtain ⟨fz, led, m, mloc, x'⟩ := id rg
        obtain ⟨Xs, n, g1, g2⟩ := x'.list_at hj hp
        have hg := x'.N _ g2
        refine delItem_all hg.1 (Heap.IsSliceOf.new ..) (fun h' n' hs q => ?_) (by rw [List.size_toArray, ← g1.length]; exact list_fits hl)
        refine wpAny_release (wpAny_pure ⟨ρ1, p1, ?_, .next⟩)
        exact x'.put_list (Ys := []) (tk := s1.toks) hp g2 .nil (Fr.sameBut x'.F hs hg.2.1 hg.2.2) (News.updL x'.N g2 hs q)
      · cases e3
    · cases e3
  · cases e3
end
end Mine
set_option maxRecDepth 100000
namespace Mine
section
variable {prog : Program} {w : World} {A : Around} {E : Value → Shared → Prop} {s : Shared}
end
end Mine
namespace Mine
/-- places that are near -/
structure Near (cx : Cx) (A' : Around) (u : Nat) : Prop where
  frames : A'.frames = cx.A.frames
  handled : A'.handled = cx.A.handled
  depth : A'.depth = cx.A.depth
  units : A'.units ≤ cx.A.units + u
section
variable {cx : Cx}
/-- what str() needs to know of the class -/
structure StrOf (cx : Cx) (k : Nat) (f : Addr) (mb : PM Fl) : Prop where
  lev : k + 1 ≤ cx.n
  find : findIn cx.K (.ref cx.C) "__str__" = some (some (.ref f))
  isf : isFn cx.K (.ref f) = true
  fn : Fn cx k f ["self"] mb
end
section
variable {cx : Cx}
end
end Mine
namespace Mine
section
variable {cx : Cx}
end
end Mine
namespace Mine
section
variable {cx : Cx}
end
end Mine
namespace Mine
section
variable {cx : Cx}
end
end Mine
set_option linter.unusedVariables false
namespace Mine
theorem bind_exc {α β : Type} {m : PM α} {f : α → PM β} {st st' : St} {k : String} (h : PM.bind m f st = .exc k st') : m st = .exc k st' ∨ ∃ a st₁, m st = .ok a st₁ ∧ f a st₁ = .exc k st' := by
  unfold PM.bind at h
  cases e : m st with
  | ok a st₁ => rw [e] at h; exact .inr ⟨a, st₁, rfl, h⟩
  | exc k₁ st₁ => rw [e] at h; cases h; exact .inl rfl
  | fail => rw [e] at h; cases h
/-- the frames around the current one -/
abbrev Cx.fes (cx : Cx) : List Addr := cx.outer.filterMap (·.frame)
/-- the same place, the frames around not looked at -/
abbrev Cx.low (cx : Cx) : Cx := { cx with h₀ := hideAll cx.h₀ cx.fes }
def UTS (cx : Cx) (h : Heap) : Prop := ∀ b ∈ cx.fes, ∀ o, cx.h₀.get? b = some o → ∃ sl, h.get? b = some { o with slots := sl }
structure XD (cx : Cx) (ρ : Map) (hid : Hd) (fz led : Led) (m mloc : Str → Option Value) (st : St) (s : Shared) : Prop where
  r : RelD cx.low ρ hid fz led m mloc st s
  u : UTS cx s.heap
  d : ∀ q ∈ led, q.1 ∉ cx.fes
def XR (cx : Cx) (ρ : Map) (hid : Hd) (st : St) (s : Shared) : Prop := ∃ fz led m mloc, XD cx ρ hid fz led m mloc st s
section
variable {cx : Cx}
theorem Bear.chH {g : Heap} {ρ : Map} {hid : Hd} {fz led : Led} {m mloc : Str → Option Value} {st : St} (B : Bear cx ρ hid fz led m mloc st) : Bear { cx with h₀ := g } ρ hid fz led m mloc st := by
  have oat : ∀ {p : Addr × Addr} {o : O}, OAt cx ρ fz led p o → OAt { cx with h₀ := g } ρ fz led p o := fun {p o} h => by cases o <;> exact h
  exact ⟨B.nd, B.cm, B.ln, B.len, B.own, fun i o p h1 h2 => oat (B.obj i o p h1 h2), B.sep, B.hin, B.hsep, B.cel, B.csep, B.fin, B.fz0, B.hfz, B.fsep, B.fcel, B.loc⟩
theorem Bear.unH {g : Heap} {ρ : Map} {hid : Hd} {fz led : Led} {m mloc : Str → Option Value} {st : St} (B : Bear { cx with h₀ := g } ρ hid fz led m mloc st) : Bear cx ρ hid fz led m mloc st := Bear.chH (cx := { cx with h₀ := g }) (g := cx.h₀) B
theorem ns_slots {h h' : Heap} {a : Addr} {m : Str → Option Value} {o : Obj} {sl : Array (Option Value)} (hn : h.Ns a m) (ho : h.get? a = some o) (ho' : h'.get? a = some { o with slots := sl }) : h'.Ns a m := by
  obtain ⟨o1, es, ep, h1, hd, r⟩ := hn
  rw [ho] at h1
  cases h1
  exact ⟨_, es, ep, ho', hd, r⟩
theorem ns_keeps {h h' : Heap} {a : Addr} {m : Str → Option Value} (hn : h.Ns a m) (k : ∀ o, h.get? a = some o → h'.get? a = some o) : h'.Ns a m := by
  obtain ⟨o1, es, ep, h1, r⟩ := hn
  exact ⟨o1, es, ep, k _ h1, r⟩
theorem hide_none {h : Heap} {as : List Addr} {b : Addr} (e : h.get? b = none) : (hideAll h as).get? b = none := by
  cases q : (hideAll h as).get? b with
  | none => rfl
  | some o => have := of_hideAll _ q; rw [e] at this; cases this
theorem hide_not {h : Heap} {as : List Addr} {b : Addr} {o : Obj} (e : (hideAll h as).get? b = some o) : b ∉ as := fun hm => by
  rw [hideAll_none _ hm] at e; cases e
theorem fes_in (ok : cx.Ok) {b : Addr} (hb : b ∈ cx.fes) : ∃ o, cx.h₀.get? b = some o ∧ ∀ vs, o.data ≠ .fields vs := by
  obtain ⟨A₀, hB⟩ := ok.below
  exact (hB.frames.mem hb).2
theorem led_off {ρ : Map} {hid : Hd} {fz led : Led} {m mloc : Str → Option Value} {st : St} {s : Shared} (ok : cx.Ok) (x : RelD cx ρ hid fz led m mloc st s) : ∀ q ∈ led, q.1 ∉ cx.fes := fun q hq hm => by
  obtain ⟨o, ho, _⟩ := fes_in ok hm
  rw [(x.N q hq).2.2] at ho; cases ho
/-- what stands whole stands in the low form, too; the heap may have grown -/
theorem RelD.low {ρ : Map} {hid : Hd} {fz led : Led} {m mloc : Str → Option Value} {st : St} {s : Shared} {h' : Heap} {tk : Nat} (ok : cx.Ok) (x : RelD cx ρ hid fz led m mloc st s) (k : ∀ b o, s.heap.get? b = some o → h'.get? b = some o) (htk : 0 < tk) : XD cx ρ hid fz led m mloc st { s with heap := h', toks := tk } := by
  refine ⟨⟨⟨ns_keeps x.F.ns (k _), fun b o e => k _ _ (x.F.keep b o (of_hideAll _ e)), by rw [hideAll_size]; exact x.F.above⟩, fun q hq => ⟨k _ _ (x.N q hq).1, (x.N q hq).2.1, hide_none (x.N q hq).2.2⟩, x.B.chH, x.gens, x.os, htk⟩, fun b hb o e => ⟨o.slots, k _ _ (x.F.keep b o e)⟩, led_off ok x⟩
theorem Rel.xr {ρ : Map} {hid : Hd} {st : St} {s : Shared} (ok : cx.Ok) (x : Rel cx ρ hid st s) : XR cx ρ hid st s := by
  obtain ⟨fz, led, m, mloc, x⟩ := x
  exact ⟨fz, led, m, mloc, x.low ok (fun _ _ e => e) x.tk⟩
/-- an exception under way in the frame L: just made; noted there; come out of a call -/
def Made (base : Heap) (l : List Env) (e : Addr) (cls : Value) (h : Heap) : Prop := base.StaysIn h ∧ base.get? e = none ∧ h.FunFrames base l ∧ ∃ oe vs a0, h.get? e = some oe ∧ oe.cls = cls ∧ oe.data = .fields vs ∧ vs[1]? = some .none ∧ vs[0]? = some a0
inductive Flt (base : Heap) (l : List Env) (L e : Addr) (cls : Value) (h : Heap) : Prop
  | made : Made base l e cls h → Flt base l L e cls h
  | held (a0 : Value) : Heap.HeldW base l e cls a0 L h → Flt base l L e cls h
  | fly (a0 : Value) : Heap.FlyingW base l e cls a0 h → Flt base l L e cls h
section
variable {M : Model} {A : Around} {E : Value → Shared → Prop} {s : Shared}
theorem note_flt {base : Heap} {env : Env} {outer : List Env} {L e : Addr} {cls : Value} {Q : Unit → Shared → Prop} (hfr : A.frames = some (env :: outer)) (hf : env.frame = some L) (x : Flt base (env :: outer) L e cls s.heap)
    (hQ : ∀ h' a0, Heap.HeldW base (env :: outer) e cls a0 L h' → s.heap.UpToSlots h' → Q () { s with heap := h' }) : wpAny M A (noteFrame (.ref e) env) Q E s := by
  cases x with
  | made y =>
    obtain ⟨y1, y2, y3, oe, vs, a0, he, hc, hd, h1, h0⟩ := y
    subst hc
    unfold noteFrame
    simp only [hf]
    refine wpAny_bind (wpAny_field he hd h1 ?_)
    rw [if_neg (by decide)]
    refine wpAny_entryW hfr y3 hf he y1 y2 hd (Array.getElem?_eq_some_iff.mp h1).1 h0 fun h' hN => ?_
    exact hQ h' a0 ⟨hN.1, y2, hN.2.1, hN.2.2.1⟩ hN.2.2.2
  | held a0 y => exact wpAny_noteFrame_againW hf y.2.2.2 (hQ s.heap a0 y (.refl _))
  | fly a0 y => exact wpAny_looks_onW hfr hf y fun h' k1 k2 => hQ h' a0 k1 k2
theorem leave_flt {base : Heap} {env : Env} {outer : List Env} {L e : Addr} {cls : Value} {Q : Unit → Shared → Prop} (hfr : A.frames = some (env :: outer)) (hf : env.frame = some L) (x : Flt base (env :: outer) L e cls s.heap)
    (hQ : ∀ h' a0, Heap.FlyingW base (env :: outer) e cls a0 h' → s.heap.UpToSlots h' → Q () { s with heap := h' }) : wpAny M A (leaving env (.ref e)) Q E s := by
  unfold leaving
  refine wpAny_bind (note_flt hfr hf x fun h1 a0 k1 k2 => ?_)
  exact wpAny_landsW k1 fun h2 k3 k4 => hQ h2 a0 k3 (k2.trans k4)
/-- the frame's own code came back with it -/
theorem back_flt {base : Heap} {env : Env} {l : List Env} {L e : Addr} {cls a0 : Value} (hf : env.frame = some L) (x : Heap.HeldW base l e cls a0 L s.heap)
    (hE : ∀ h', Heap.HeldW base l e cls a0 L h' → s.heap.UpToSlots h' → E (.ref e) { s with heap := h' }) : cameBackBy M A env E (.ref e) s := by
  obtain ⟨f1, f2, f3, oe, vs, T, oT, ts, he, hcls, hd, h1, hnT, hTe, hT, hdT, h3⟩ := x
  have hsz3 : 3 < ts.size := (Array.getElem?_eq_some_iff.mp h3).1
  have other : ∀ b, b ≠ T → (s.heap.update T (Obj.mapFields (·.setIfInBounds 3 ((some L : Option Addr).elim Value.none fun f => rawInt f)))).get? b = s.heap.get? b :=
    fun b hb => Heap.get?_update_other _ _ (Ne.symm hb)
  have noRecord : ∀ b o, s.heap.get? b = some o → (∀ vs, o.data ≠ .fields vs) → b ≠ T := fun b o hb hnf q => by
    rw [q, hT] at hb; injection hb with hb; subst hb; exact hnf ts hdT
  unfold cameBackBy
  refine wpAny_bind (wpAny_field he hd h1 ?_)
  rw [if_neg (show ¬ ((Value.ref T == Value.none) = true) from by simp)]
  rw [hf]
  unfold setFlight
  refine wpAny_bind (wpAny_field he hd h1 ?_)
  rw [if_pos (show (Value.ref T != Value.none) = true from by simp)]
  refine wpAny_setField hT hdT hsz3 (hE _ ⟨fun b o hbo => (other b fun q => by rw [q, hnT] at hbo; cases hbo).trans (f1 b o hbo), f2, f3.of_keeps fun b o hb hnf => ⟨o, (other b (noRecord b o hb hnf)).trans hb, rfl⟩, ?_⟩ fun b o hb hnf => ⟨o.slots, (other b (noRecord b o hb hnf)).trans hb⟩)
  exact ⟨oe, vs, T, _, _, (other e (Ne.symm hTe)).trans he, hcls, hd, h1, hnT, hTe, Heap.get?_update_self _ hT (Obj.isFreed_of_fields (Obj.data_mapFields hdT _)), Obj.data_mapFields hdT _, by simp [hsz3]⟩
end
/-- an exception of the class k is under way -/
structure ExD (cx : Cx) (base : Heap) (ρ : Map) (hid : Hd) (fz led : Led) (m mloc : Str → Option Value) (st : St) (s : Shared) : Prop where
  x : XD cx ρ hid fz led m mloc st s
  b0 : cx.low.h₀.StaysIn base
  b1 : ∀ q ∈ led, base.get? q.1 = some q.2
def EX (cx : Cx) (ρ : Map) (hid : Hd) (st : St) (k : String) (e : Addr) (s : Shared) : Prop := ∃ base fz led m mloc, ExD cx base ρ hid fz led m mloc st s ∧ Flt base (cx.fenv :: cx.outer) cx.L e (.type k) s.heap
def EXo (cx : Cx) (ρ : Map) (hid : Hd) (st : St) (k : String) (e : Addr) (s : Shared) : Prop := ∃ base fz led m mloc a0, ExD cx base ρ hid fz led m mloc st s ∧ Heap.FlyingW base (cx.fenv :: cx.outer) e (.type k) a0 s.heap
theorem ExD.go {base : Heap} {ρ : Map} {hid : Hd} {fz led : Led} {m mloc : Str → Option Value} {st : St} {s : Shared} {h' : Heap} (ok : cx.Ok) (h : ExD cx base ρ hid fz led m mloc st s) (k1 : base.StaysIn h') (k2 : s.heap.UpToSlots h') : ExD cx base ρ hid fz led m mloc st { s with heap := h' } := by
  obtain ⟨⟨r, u, d⟩, b0, b1⟩ := h
  refine ⟨⟨⟨⟨k2.ns r.F.ns, fun b o e => k1 b o (b0 b o e), r.F.above⟩, fun q hq => ⟨k1 _ _ (b1 q hq), (r.N q hq).2⟩, r.B, r.gens, r.os, r.tk⟩, fun b hb o e => ?_, d⟩, b0, b1⟩
  obtain ⟨sl, hs⟩ := u b hb o e
  obtain ⟨o', ho', hnf⟩ := fes_in ok hb
  rw [e] at ho'
  cases ho'
  obtain ⟨sl', hs'⟩ := k2 b _ hs hnf
  exact ⟨sl', hs'⟩
/-- an exception is made -/
theorem ex_new {ρ : Map} {hid : Hd} {st : St} {s : Shared} {h' : Heap} {e : Addr} {k : String} {tk : Nat} (ok : cx.Ok) (x : Rel cx ρ hid st s) (n : Heap.NewExcOf s.heap h' e k) (htk : 0 < tk) : EX cx ρ hid st k e { s with heap := h', toks := tk } := by
  obtain ⟨fz, led, m, mloc, x⟩ := x
  obtain ⟨A₀, hB⟩ := ok.below
  have FF := (pushX hB x.F ok.fframe ok.fkind).frames
  have hin : ∀ env ∈ (cx.fenv :: cx.outer), ∀ b, env.frame = some b → b ∈ (cx.fenv :: cx.outer).filterMap (·.frame) := fun env he b hb => List.mem_filterMap.mpr ⟨env, he, hb⟩
  have mem : ∀ b, b ∈ (cx.fenv :: cx.outer).filterMap (·.frame) → b = cx.L ∨ b ∈ cx.fes := fun b hb => by
    rw [List.filterMap_cons, ok.fframe] at hb
    rcases List.mem_cons.mp hb with rfl | hb
    · exact .inl rfl
    · exact .inr hb
  refine ⟨hideAll s.heap ((cx.fenv :: cx.outer).filterMap (·.frame)), fz, led, m, mloc, ⟨x.low ok n.keeps htk, fun b o e => ?_, fun q hq => ?_⟩, .made ⟨fun b o e => n.keeps _ _ (of_hideAll _ e), hide_none n.new, (funFrames_hide FF hin).of_keeps fun b o hb _ => ⟨o, n.keeps b o hb, rfl⟩, ?_⟩⟩
  · have h0 := of_hideAll _ e
    refine hideAll_get _ (x.F.keep _ _ h0) fun hm => ?_
    rcases mem b hm with rfl | hm
    · exact absurd (Nat.lt_of_lt_of_le (Heap.lt_size h0) x.F.above) (Nat.lt_irrefl _)
    · exact hide_not e hm
  · refine hideAll_get _ (x.N q hq).1 fun hm => ?_
    rcases mem _ hm with e | hm
    · exact (x.N q hq).2.1 e
    · exact led_off ok x q hq hm
  · obtain ⟨ob, vs, h1, h2, h3, h4⟩ := n.there
    have hsz := (Array.getElem?_eq_some_iff.mp h4).1
    exact ⟨ob, vs, vs[0]'(by omega), h1, h2, h3, h4, Array.getElem?_eq_getElem _⟩
/-- from an inner frame back to the caller's -/
theorem XD.back (ok : cx.Ok) {k : Nat} {L' : Addr} {env' : Env} {ρ ρ' : Map} {hid : Hd} {fz led fz' led' : Led} {m mloc m' mloc' : Str → Option Value} {st st' : St} {s s' : Shared} (x : RelD cx ρ hid fz led m mloc st s) (hρ : ρ <+: ρ')
    (y : XD (cx.inn (hideAll s.heap (led.map (·.1))) L' env' k).frz ρ' (hidOf ρ fz led) fz' led' m' mloc' st' s') : XD cx ρ' hid fz' led' m mloc ⟨st.loc, st'.sto⟩ s' ∧ cx.low.h₀.StaysIn (cx.inn (hideAll s.heap (led.map (·.1))) L' env' k).low.h₀ := by
  obtain ⟨r, u, d⟩ := y
  have nm : ∀ b o, cx.h₀.get? b = some o → b ∉ led.map (·.1) := fun b o e q => by
    obtain ⟨p, hp, rfl⟩ := List.mem_map.mp q
    rw [(x.N p hp).2.2] at e; cases e
  have feq : (cx.inn (hideAll s.heap (led.map (·.1))) L' env' k).fes = cx.L :: cx.fes := by
    show (cx.fenv :: cx.outer).filterMap (·.frame) = _
    rw [List.filterMap_cons, ok.fframe]
  have low : cx.low.h₀.StaysIn (cx.inn (hideAll s.heap (led.map (·.1))) L' env' k).low.h₀ := fun b o e => by
    have h0 := of_hideAll _ e
    refine hideAll_get _ (hideAll_get _ (x.F.keep _ _ h0) (nm _ _ h0)) fun hm => ?_
    rw [feq] at hm
    rcases List.mem_cons.mp hm with rfl | hm
    · exact absurd (Nat.lt_of_lt_of_le (Heap.lt_size h0) x.F.above) (Nat.lt_irrefl _)
    · exact hide_not e hm
  have nL : cx.L ∉ led.map (·.1) := fun q => by
    obtain ⟨p, hp, e⟩ := List.mem_map.mp q
    exact (x.N p hp).2.1 e
  have B1 : Bear (cx.inn (hideAll s.heap (led.map (·.1))) L' env' k).frz ρ' (hidOf ρ fz led) fz' led' m' mloc' st' := Bear.unH (cx := (cx.inn (hideAll s.heap (led.map (·.1))) L' env' k).frz) r.B
  have B2 : Bear cx ρ' hid fz' led' m mloc ⟨st.loc, st'.sto⟩ := bear_back (cx := cx) (cx' := (cx.inn (hideAll s.heap (led.map (·.1))) L' env' k).frz) rfl rfl rfl rfl rfl x.B hρ B1
  refine ⟨⟨⟨⟨?_, fun b o e => r.F.keep _ _ (low b o e), by rw [hideAll_size]; exact x.F.above⟩, fun q hq => ⟨(r.N q hq).1, fun e => ?_, ?_⟩, B2.chH, r.gens, r.os, r.tk⟩, fun b hb o e => ?_, fun q hq hm => ?_⟩, low⟩
  · obtain ⟨oL, es, ep, hL, hr⟩ := id x.F.ns
    obtain ⟨sl, hs⟩ := u cx.L (by show cx.L ∈ (cx.inn (hideAll s.heap (led.map (·.1))) L' env' k).fes; rw [feq]; exact .head _) oL (hideAll_get _ hL nL)
    exact ns_slots x.F.ns hL hs
  · exact d q hq (by show q.1 ∈ (cx.inn (hideAll s.heap (led.map (·.1))) L' env' k).fes; rw [feq, e]; exact .head _)
  · cases q' : cx.low.h₀.get? q.1 with
    | none => rfl
    | some o =>
      have h1 := low _ _ q'
      have h2 := (r.N q hq).2.2
      rw [show (cx.inn (hideAll s.heap (led.map (·.1))) L' env' k).frz.low.h₀ = (cx.inn (hideAll s.heap (led.map (·.1))) L' env' k).low.h₀ from rfl] at h2
      rw [h1] at h2; cases h2
  · exact u b (by show b ∈ (cx.inn (hideAll s.heap (led.map (·.1))) L' env' k).fes; rw [feq]; exact .tail _ hb) o (hideAll_get _ (x.F.keep _ _ e) (nm _ _ e))
  · exact d q hq (by show q.1 ∈ (cx.inn (hideAll s.heap (led.map (·.1))) L' env' k).fes; rw [feq]; exact .tail _ hm)
end
end Mine
set_option linter.unusedVariables false
namespace Mine
abbrev EP := Cx → Map → Hd → St → String → Addr → Shared → Prop
def XP (P : EP) (cx : Cx) (ρ : Map) (hid : Hd) (st' : St) (k : String) : Value → Shared → Prop := fun v s' => ∃ e ρ', v = .ref e ∧ ρ <+: ρ' ∧ P cx ρ' hid st' k e s'
/-- a step that ends with an exception -/
def SimX (P : EP) {α β : Type} (cx : Cx) (t : Sem α) (m : PM β) : Prop := ∀ ρ hid st s, Rel cx ρ hid st s → ∀ k st', m st = .exc k st' → wpAny cx.M cx.A t (fun _ _ => False) (XP P cx ρ hid st' k) s
theorem wx {α : Type} {P : EP} {cx : Cx} {M : Model} {A : Around} {t : Sem α} {ρ ρ1 : Map} {hid : Hd} {st' : St} {k : String} {s : Shared} {Q : α → Shared → Prop} (p : ρ <+: ρ1) (h : wpAny M A t (fun _ _ => False) (XP P cx ρ1 hid st' k) s) : wpAny M A t Q (XP P cx ρ hid st' k) s :=
  wpAny_mono h (fun _ _ z => z.elim) fun v s' ⟨e, ρ', h1, h2, h3⟩ => ⟨e, ρ', h1, pre_trans p h2, h3⟩
/-- a step that makes no exception -/
def NoX {α : Type} (m : PM α) : Prop := ∀ st k st', m st ≠ .exc k st'
theorem x_nox {α β : Type} {P : EP} {cx : Cx} {t : Sem α} {m : PM β} (h : NoX m) : SimX P cx t m := fun ρ hid st s x k st' e => absurd e (h st k st')
def okOnly {α : Type} (m : PM α) : PM α := fun st => match m st with | .ok a st' => .ok a st' | _ => .fail
theorem nox_ok {α : Type} (m : PM α) : NoX (okOnly m) := fun st k st' h => by
  unfold okOnly at h
  split at h <;> cases h
theorem ok_ok {α : Type} {m : PM α} {st st' : St} {a : α} (h : okOnly m st = .ok a st') : m st = .ok a st' := by
  unfold okOnly at h
  split at h
  · rename_i e; cases h; exact e
  · cases h
theorem sim_ok {α β : Type} {cx : Cx} {t : Sem α} {m : PM β} {R : Map → β → α → Prop} (h : Sim cx t m R) : Sim cx t (okOnly m) R := fun ρ hid st s x b st' e => h ρ hid st s x b st' (ok_ok e)
theorem nox_pure {α : Type} (a : α) : NoX (PM.pure a) := fun st k st' h => by cases h
theorem nox_getL (n : String) : NoX (getL n) := fun st k st' h => by
  unfold getL at h
  split at h <;> cases h
theorem nox_bind {α β : Type} {m : PM α} {f : α → PM β} (h1 : NoX m) (h2 : ∀ a, NoX (f a)) : NoX (PM.bind m f) := fun st k st' h => by
  rcases bind_exc h with e | ⟨a, st1, e1, e2⟩
  · exact h1 _ _ _ e
  · exact h2 _ _ _ _ e2
section
variable {cx : Cx} {P : EP}
theorem x_cons {a : Stmt} {r : List Stmt} {m k : PM Fl} (h1 : SimS cx a m) (x1 : SimX P cx (exec a cx.env) m) (x2 : SimX P cx (execs r cx.env) k) : SimX P cx (execs (a :: r) cx.env) (seqF m k) := by
  intro ρ hid st s x kk st' h
  rcases bind_exc h with e | ⟨f, st1, e1, h⟩
  · exact wpAny_execs_cons (wx (pre_refl _) (x1 ρ hid st s x kk st' e))
  · refine wpAny_execs_cons (wp_seq (h1 ρ hid st s x f st1 e1) fun g s1 ρ1 p1 r1 v1 => ?_)
    cases v1 with
    | next => exact wx p1 (x2 ρ1 hid st1 s1 r1 kk st' h)
    | brk => cases h
    | cont => cases h
    | ret hv => cases h
theorem x_one {a : Stmt} {m : PM Fl} (x1 : SimX P cx (exec a cx.env) m) : SimX P cx (execs [a] cx.env) m := by
  intro ρ hid st s x kk st' h
  exact wpAny_execs_cons (wx (pre_refl _) (x1 ρ hid st s x kk st' h))
theorem x_nil : SimX P cx (execs [] cx.env) (PM.pure Fl.next) := x_nox (nox_pure _)
theorem x_If {t : Expr} {a b : List Stmt} {pos : Pos} {m : PM Bool} {ma mb : PM Fl} (h : SimT cx t m) (hm : NoX m) (x1 : SimX P cx (execs a cx.env) ma) (x2 : SimX P cx (execs b cx.env) mb) : SimX P cx (exec (.If t a b pos) cx.env) (iteP m ma mb) := by
  intro ρ hid st s x kk st' e
  rcases bind_exc e with e | ⟨c, st1, e1, e⟩
  · exact absurd e (hm _ _ _)
  · refine wpAny_If (wp_seq (h ρ hid st s x c st1 e1) fun c' s1 ρ1 p1 r1 v1 => ?_)
    cases v1
    cases c with
    | true => exact wx p1 (x1 ρ1 hid st1 s1 r1 kk st' e)
    | false => exact wx p1 (x2 ρ1 hid st1 s1 r1 kk st' e)
theorem x_Return {e : Expr} {pos : Pos} {m : PM V} (h : SimX P cx (eval e cx.env) m) : SimX P cx (exec (.Return (some e) pos) cx.env) (PM.bind m fun v => PM.pure (Fl.ret v)) := by
  intro ρ hid st s x kk st' e
  rcases bind_exc e with e | ⟨c, st1, e1, e⟩
  · exact wpAny_Return_some (wx (pre_refl _) (h ρ hid st s x kk st' e))
  · cases e
theorem x_Assign {n : String} {e : Expr} {pos' pos : Pos} {m : PM V} (h : SimX P cx (eval e cx.env) m)
    (hs : swapsWith e (some (.Name (Str.ofString n) pos')) pos.line cx.env = pure false) : SimX P cx (exec (.Assign [.Name (Str.ofString n) pos'] e pos) cx.env) (PM.bind m fun v => PM.bind (setL n v) fun _ => PM.pure Fl.next) := by
  intro ρ hid st s x kk st' e
  rcases bind_exc e with e | ⟨c, st1, e1, e⟩
  · exact wpAny_Assign_Name (wx (pre_refl _) (h ρ hid st s x kk st' e)) hs
  · cases e
theorem nox_pItem (a b : V) : NoX (pItem a b) := fun st k st' h => by
  unfold pItem at h
  split at h <;> cases h
theorem x_Subscript {value slice : Expr} {pos : Pos} {mo mi : PM V} (xo : SimX P cx (eval value cx.env) mo) (hmi : NoX mi) : SimX P cx (eval (.Subscript value slice pos) cx.env) (PM.bind mo fun o => PM.bind mi fun i => pItem o i) := by
  intro ρ hid st s x kk st' e
  rcases bind_exc e with e | ⟨c, st1, e1, e⟩
  · exact Subscript_ (wx (pre_refl _) (xo ρ hid st s x kk st' e))
  · exact absurd e (nox_bind hmi (fun i => nox_pItem _ _) _ _ _)
/-- loops -/
theorem EX.less {ρ : Map} {hid : Hd} {q : Addr × Obj} {st : St} {k : String} {e : Addr} {s : Shared} (h : EX cx ρ (hid.cons q) st k e s) : EX cx ρ hid st k e s := by
  obtain ⟨base, fz, led, m, mloc, ⟨⟨r, u, d⟩, b0, b1⟩, fl⟩ := h
  refine ⟨base, fz, led, m, mloc, ⟨⟨⟨r.F, r.N, ?_, r.gens, r.os, r.tk⟩, u, d⟩, b0, b1⟩, fl⟩
  have B := r.B
  refine ⟨B.nd, B.cm, ?_, B.len, B.own, B.obj, B.sep, fun r hr => B.hin r (.tail _ hr), fun r hr => B.hsep r (.tail _ hr), B.cel, fun y c hc => ⟨fun r hr => (B.csep y c hc).1 r (.tail _ hr), (B.csep y c hc).2⟩, B.fin, B.fz0, fun r hr => B.hfz r (.tail _ hr), B.fsep, B.fcel, B.loc⟩
  rcases B.ln with h | ⟨g1, o, es, ep, g2, g3, g4, g5, g6, g7, g8, g9⟩
  · exact .inl h
  · exact .inr ⟨g1, o, es, ep, g2, g3, g4, g5, g6, fun r hr => g7 r (.tail _ hr), g8, g9⟩
/-- noted in the frame's own code, and back -/
theorem EX.noted (ok : cx.Ok) (hfe : cx.env.frame = some cx.L) (hfe2 : cx.env = cx.fenv) {ρ : Map} {hid : Hd} {st : St} {k : String} {e : Addr} {s : Shared} (h : EX cx ρ hid st k e s) {E : Value → Shared → Prop}
    (hE : ∀ s', EX cx ρ hid st k e s' → E (.ref e) s') : notedBy cx.M cx.A cx.env (fun x s' => cameBackBy cx.M cx.A cx.env E x s') (.ref e) s := by
  obtain ⟨base, fz, led, m, mloc, hx, fl⟩ := h
  unfold notedBy
  refine note_flt (L := cx.L) (outer := cx.outer) (base := base) (cls := .type k) (by rw [hfe2]; exact ok.frames) hfe (by rw [hfe2]; exact fl) fun h1 a0 k1 k2 => ?_
  have hx1 := hx.go ok k1.1 k2
  refine back_flt hfe k1 fun h2 k3 k4 => ?_
  rw [hfe2] at k3
  exact hE _ ⟨base, fz, led, m, mloc, hx1.go ok k3.1 k4, .held a0 k3⟩
theorem nox_iterOf (v : V) : NoX (iterOf v) := fun st k st' h => by
  unfold iterOf at h
  split at h
  · split at h
    · cases h
    · cases h
    · split at h <;> cases h
    · cases h
  · cases h
  · cases h
theorem chk_nox (src : Src) : NoX (chk src) := fun st k st' h => by
  unfold chk at h
  split at h
  · cases h
  · split at h <;> cases h
theorem x_turns (ok : cx.Ok) (hfe : cx.env.frame = some cx.L) (hfe2 : cx.env = cx.fenv) {target : Expr} {body : List Stmt} {g : V → PM Unit} {mb : PM Fl} (hg : SimG cx target g) (hgx : ∀ v, NoX (g v)) (hb : SimSs cx body mb) (xb : SimX EX cx (execs body cx.env) mb) {src : Src} {xs : List V} {I : Addr} {At : Nat → Heap → Prop} {ρ₀ : Map} {hid : Hd} (It : Iter cx ρ₀ src xs I At) (hI : ∀ q ∈ hid.h, q.1 ≠ I)
    {o : Obj} {st st' : St} {s : Shared} (x : Rel cx ρ₀ (hid.cons (I, o)) st s) (hat : At 0 s.heap) {k : String} (h : loopF src (fun v => PM.bind (g v) fun _ => mb) xs st = .exc k st') {R : Result → Shared → Prop} {E : Value → Shared → Prop}
    (hR : ∀ v s', cameBackBy cx.M cx.A cx.env E v s' → R (.error v) s') (hE : ∀ e s' ρ', ρ₀ <+: ρ' → EX cx ρ' hid st' k e s' → E (.ref e) s') : codeAny cx.M cx.A (.forLoop target (.ref I) body [] cx.env) R s := by
  refine codeAny_forLoop_any (fun n s' => ∃ i ρ' o' st1, ρ₀ <+: ρ' ∧ Rel cx ρ' (hid.cons (I, o')) st1 s' ∧ At i s'.heap ∧ i ≤ xs.length ∧ n = xs.length + 1 - i ∧ loopF src (fun v => PM.bind (g v) fun _ => mb) (xs.drop i) st1 = .exc k st') ?_ (xs.length + 1)
    ⟨0, ρ₀, o, st, pre_refl _, x, hat, Nat.zero_le _, rfl, h⟩
  rintro n s1 ⟨i, ρ1, o1, st1, p1, r1, a1, hi, rfl, e1⟩
  rcases Nat.lt_or_ge i xs.length with hlt | hge
  · have hx : xs[i]? = some xs[i] := List.getElem?_eq_getElem hlt
    have hd : xs.drop i = xs[i] :: xs.drop (i + 1) := List.drop_eq_getElem_cons hlt
    rw [hd] at e1
    unfold loopF at e1
    rcases bind_exc e1 with e1 | ⟨_, st2, c1, e2⟩
    · exact absurd e1 (chk_nox _ _ _ _)
    obtain ⟨rfl, c2⟩ := chk_ok c1
    have hc : ∃ st4, g xs[i] st2 = .ok () st4 ∧ (mb st4 = .exc k st' ∨ ∃ f st3, mb st4 = .ok f st3 ∧ (match f with | .next => loopF src (fun v => PM.bind (g v) fun _ => mb) (xs.drop (i + 1)) | .cont => loopF src (fun v => PM.bind (g v) fun _ => mb) (xs.drop (i + 1)) | .brk => PM.pure .next | .ret v => PM.pure (.ret v)) st3 = .exc k st') := by
      rcases bind_exc e2 with e2 | ⟨f, st3, c3, e3⟩
      · rcases bind_exc e2 with e2 | ⟨_, st4, c4, c5⟩
        · exact absurd e2 (hgx _ _ _ _)
        · exact ⟨st4, c4, .inl c5⟩
      · obtain ⟨_, st4, c4, c5⟩ := bind_ok c3
        exact ⟨st4, c4, .inr ⟨f, st3, c5, by cases f <;> exact e3⟩⟩
    obtain ⟨st4, c4, hc⟩ := hc
    refine lf r1.pos (It.next i xs[i] ρ1 _ _ s1 hx a1 p1 r1 c2 cx.A _ _ fun W h' tk w1 w2 w3 htk => ?_)
    obtain ⟨o2, ho2⟩ := It.there _ _ w2
    have r2 := r1.turn (tk := tk) hI w3 ho2
    refine It.go (i + 1) _ w2 cx.A target W _ _ ?_
    refine wp_seq (hg ρ1 _ _ _ r2 _ W w1 () st4 c4) fun _ s3 ρ3 p3 r3 _ => ?_
    rcases hc with c5 | ⟨f, st3, c5, e3⟩
    · refine wpAny_mono (xb ρ3 _ _ _ r3 k st' c5) (fun _ _ z => z.elim) fun v s4 ⟨e, ρ4, hv, p4, r4⟩ => ?_
      subst hv
      have key := EX.noted ok hfe hfe2 r4.less (E := E) fun s' hs' => hE e s' ρ4 (pre_trans p1 (pre_trans p3 p4)) hs'
      unfold notedBy at key ⊢
      exact wpAny_mono key (fun _ s5 q => hR _ _ q) fun v s5 q => hR _ _ q
    · refine wp_seq (hb ρ3 _ _ _ r3 f st3 c5) fun fw s4 ρ4 p4 r4 hf => ?_
      have hat4 : At (i + 1) s4.heap := by
        refine It.frame (i + 1) h' s4.heap w2 fun ob hob => ?_
        have : ob = o2 := Option.some.inj (hob.symm.trans ho2)
        subst this
        obtain ⟨fz, led, m, mloc, r4'⟩ := id r4
        exact (r4'.N _ (r4'.B.hin _ (.head _))).1
      have pp : ρ₀ <+: ρ4 := pre_trans p1 (pre_trans p3 p4)
      cases hf with
      | next => exact ⟨xs.length + 1 - (i + 1), by omega, i + 1, ρ4, o2, st3, pp, r4, hat4, hlt, rfl, e3⟩
      | cont => exact ⟨xs.length + 1 - (i + 1), by omega, i + 1, ρ4, o2, st3, pp, r4, hat4, hlt, rfl, e3⟩
      | brk => cases e3
      | ret hv => cases e3
  · have hil : i = xs.length := Nat.le_antisymm hi hge
    subst hil
    rw [List.drop_length] at e1
    unfold loopF at e1
    rcases bind_exc e1 with e1 | ⟨_, st2, c1, e2⟩
    · exact absurd e1 (chk_nox _ _ _ _)
    · cases e2
theorem x_For (ok : cx.Ok) (hfe : cx.env.frame = some cx.L) (hfe2 : cx.env = cx.fenv) {target iter : Expr} {body : List Stmt} {pos : Pos} {mi : PM V} {g : V → PM Unit} {mb : PM Fl} (hi : SimV cx (eval iter cx.env) mi) (hmi : NoX mi) (hg : SimG cx target g) (hgx : ∀ v, NoX (g v)) (hb : SimSs cx body mb) (xb : SimX EX cx (execs body cx.env) mb)
    (hs : ∀ x, foldedSetIterable iter cx.env x = pure x) : SimX EX cx (exec (.For target iter body [] pos) cx.env) (PM.bind mi fun v => PM.bind (iterOf v) fun p => loopF p.1 (fun x => PM.bind (g x) fun _ => mb) p.2) := by
  intro ρ hid st s x k st' h
  rcases bind_exc h with e | ⟨a, st1, e1, h1⟩
  · exact absurd e (hmi _ _ _)
  rcases bind_exc h1 with e | ⟨p, st2, e2, h2⟩
  · exact absurd e (nox_iterOf _ _ _ _)
  refine wpAny_For (wp_seq (hi ρ hid st s x a st1 e1) fun A s1 ρ1 p1 r1 v1 => iter_start r1 v1 e2 fun I o At s2 It hat r2 hI => ?_) hs
  exact x_turns ok hfe hfe2 hg hgx hb xb (It cx) hI r2 hat h2 (fun v s' hq => hq) fun e s' ρ' pp hx => ⟨e, ρ', rfl, pre_trans p1 pp, hx⟩
end
end Mine
set_option linter.unusedVariables false
namespace Mine
section
variable {cx : Cx}
theorem call_posX {prog : Program} {w : World} {A : Around} {R : Result → Shared → Prop} {s : Shared} {fd : FuncData} {body : List Stmt} {f : Addr} {fo : Obj} {args : Args} {binds : List (Str × Value)} (hpos : 0 < s.toks)
    (hroom : A.depth < recursionLimit) (ho : s.heap.get? f = some fo) (hd : fo.data = .func fd) (hbd : fd.body = .stmts body) (hcl : fd.closure = []) (hgl : fd.globals = mainGlobals) (hbn : fd.builtins = builtinsNs) (hlim : s.heap.NoLimit) (hcd : s.heap.CodeRec fd.code fd.qualname)
    (hbind : BindsTo s fd args binds) (hkind : ∀ n, ∀ x ∈ binds, fd.scope.names.lookup x.1 = some .local ∨ (fd.scope.names.lookup x.1 = some .cell ∧ ((cellsFrom n fd.scope.names []).lookup x.1).isSome = true))
    (hnd : ((cellsFrom 0 fd.scope.names []).map (·.1)).Nodup)
    (h : ∀ h₁ tk cells, 0 < tk → Fr s.heap s.heap.objs.size h₁ (bindL (envOfC fd.qualname fd.scope s.heap.objs.size f fd.code).kindOf binds fun _ => none) → News s.heap s.heap.objs.size h₁ cells →
      CellsAre (bindC (envOfC fd.qualname fd.scope s.heap.objs.size f fd.code).kindOf binds fun _ => none) (cellsFrom (s.heap.objs.size + 1) fd.scope.names []) cells →
      wpAny (model prog w) (A.deeper (envOfC fd.qualname fd.scope s.heap.objs.size f fd.code)) (execs body (envOfC fd.qualname fd.scope s.heap.objs.size f fd.code))
        (fun fl s' => False) (fun e s' => wpAny (model prog w) (A.deeper (envOfC fd.qualname fd.scope s.heap.objs.size f fd.code)) (leaving (envOfC fd.qualname fd.scope s.heap.objs.size f fd.code) e) (fun _ s'' => R (.error e) s'') (fun e' s'' => R (.error e') s'') s') { s with heap := h₁, toks := tk })
    (hco : fd.scope.isCoroutine = false) (hgen : fd.scope.isGenerator = false) (hk : fd.scope.kind = .function) : codeAny (model prog w) A (.call (.ref f) args) R s := by
  obtain ⟨name, qualname, params, bd, scope, globals, closure, defaults, kwdefaults, doc, pyModule, annotations, code, closureTuple, builtins⟩ := fd
  dsimp only at *
  subst hbd hcl hgl hbn
  refine codeAny_call_function hroom ho hd hco hgen rfl hcd (hbind _ _ _ _ ?_)
  refine lf hpos (wpAny_newFunctionEnv_cells hk (hkind _) fun env' he s' x htk => ?_)
  subst he
  refine ⟨hlim.keeps x.toInCall.keep, codeAny_func ?_⟩
  obtain ⟨h₁, tk, rfl, _⟩ := x.done
  obtain ⟨cells, NC, Y⟩ := Cl.news (h₀ := s.heap) (Nat.le_refl _) fun n c hm => ⟨x.cell n c (lookup_of_mem_nodup (cellsFrom_names scope.names 0 (s.heap.objs.size + 1) [] [] rfl ▸ hnd) hm), x.above n c hm⟩
  exact wpAny_mono (h h₁ tk cells htk ⟨x.toInCall.ns, x.toInCall.keep, Nat.le_refl _⟩ NC Y) (fun fl s' hl => hl.elim) fun _ _ y => y
/-- an exception in the tail of a body -/
theorem ExD.frz {base : Heap} {ρ : Map} {hid : Hd} {fz led : Led} {m mloc : Str → Option Value} {st : St} {s : Shared} (h : ExD cx base ρ hid fz led m mloc st s) : ExD cx.frz base ρ hid fz led m mloc st s :=
  ⟨⟨⟨h.x.r.F, h.x.r.N, Bear.frz (cx := cx.low) h.x.r.B, h.x.r.gens, h.x.r.os, h.x.r.tk⟩, h.x.u, h.x.d⟩, h.b0, h.b1⟩
theorem code_userX (ok : cx.Ok) {k : Nat} (hdp : cx.A.depth + 4 * k + 5 < recursionLimit) (hun : cx.A.units + 40 * k + 203 < cLine) {ps : List String} {mb : PM Fl} {name qual : Str} {params : Arguments} {body : List Stmt} {scope : Scope} {dV kV doc pm cdv ct oc : Value} {an od : Option Addr} {osl : Array (Option Value)} {f : Addr}
    (ho : cx.K.lookup f = some ⟨oc, od, .func (fnOf name qual params body scope dV kV doc pm an cdv ct), osl⟩) (hcd : codeIn cx.K cdv qual = true)
    (hb : ∀ Vs : List Value, Vs.length = ps.length → bindArgs (fnOf name qual params body scope dV kV doc pm an cdv ct) ⟨Vs, []⟩ = pure ((ps.map Str.ofString).zip Vs))
    (hkind : ∀ p ∈ ps, scope.names.lookup (Str.ofString p) = some .local ∨ scope.names.lookup (Str.ofString p) = some .cell) (hps : ps.Nodup) (hnd : ((cellsFrom 0 scope.names []).map (·.1)).Nodup)
    (hco : scope.isCoroutine = false) (hgen : scope.isGenerator = false) (hk : scope.kind = .function)
    (hbody : ∀ g L', (cx.inn g L' (envOfC qual scope L' f cdv) k).Ok → SimX EX (cx.inn g L' (envOfC qual scope L' f cdv) k) (execs body (envOfC qual scope L' f cdv)) mb)
    {ρ : Map} {hid : Hd} {st st' : St} {s : Shared} (x : Rel cx ρ hid st s) {vs : List V} {Vs : List Value} (hv : VRs ρ vs Vs) {kk : String} (h : callP ps mb vs st = .exc kk st') {R : Result → Shared → Prop}
    (hR : ∀ ρ' e s', ρ <+: ρ' → EXo cx ρ' hid st' kk e s' → R (.error (.ref e)) s') : codeAny cx.M cx.A (.call (.ref f) ⟨Vs, []⟩) R s := by
  unfold callP at h
  split at h
  · rename_i hlen
    split at h
    · cases h
    · rename_i k1 st1 e1
      cases h
      obtain ⟨fz, led, m, mloc, x⟩ := x
      obtain ⟨A₀, hB⟩ := ok.below
      have hVl : Vs.length = ps.length := by rw [← hv.length]; exact hlen
      obtain ⟨FG, B', stays, lv⟩ := groundX (A := cx.A) (R := R) hB x.F x.N ok.frames ok.fframe ok.fkind
      refine call_posX x.tk (by have := ok.depth; omega) (ok.kin.keeps x.F.keep _ _ ho) rfl rfl rfl rfl rfl (ok.top.nolimit.keeps x.F.keep) (codeRec_of (ok.kin.keeps x.F.keep) hcd) (BindsTo.of_eq (hb Vs hVl)) (fun j y hy => ?_) hnd
        (fun h₁ tk cells htk F1 N1 C' => ?_) hco hgen hk
      · have := (List.of_mem_zip (a := y.1) (b := y.2) hy).1
        obtain ⟨p, hp, e⟩ := List.mem_map.mp this
        rw [← e]
        rcases hkind p hp with q | q
        · exact .inl q
        · exact .inr ⟨q, cellsFrom_some scope.names j [] (.inl q)⟩
      · have hlt : ∀ p ∈ led, p.1 < s.heap.objs.size := fun p hp => Heap.lt_size (x.N p hp).1
        have ok' := inn_ok (qual := qual) (f := f) (cdv := cdv) (L' := s.heap.objs.size) ok hdp hun hk stays B'
        have Br := bear_inn (k := k) (g := hideAll s.heap (led.map (·.1))) x.B hlt hv hps hkind C'
        have F' : Fr (hideAll s.heap (led.map (·.1))) s.heap.objs.size h₁ (bindL (envOfC qual scope s.heap.objs.size f cdv).kindOf ((ps.map Str.ofString).zip Vs) fun _ => none) := ⟨F1.ns, fun b o e => F1.keep b o (of_hideAll _ e), Nat.le_of_eq (hideAll_size _ _)⟩
        have N' : News (hideAll s.heap (led.map (·.1))) s.heap.objs.size h₁ (cells ++ led) := fun p hp => by
          rcases List.mem_append.mp hp with hp | hp
          · refine ⟨(N1 p hp).1, (N1 p hp).2.1, ?_⟩
            cases q : (hideAll s.heap (led.map (·.1))).get? p.1 with
            | none => rfl
            | some o => have := of_hideAll _ q; rw [(N1 p hp).2.2] at this; cases this
          · exact ⟨F1.keep _ _ (x.N p hp).1, Nat.ne_of_lt (hlt p hp), hideAll_none _ (List.mem_map_of_mem hp)⟩
        have R' : Rel (cx.inn (hideAll s.heap (led.map (·.1))) s.heap.objs.size (envOfC qual scope s.heap.objs.size f cdv) k) ρ (hidOf ρ fz led) ⟨fun n => (ps.zip vs).lookup n, st.sto⟩ { s with heap := h₁, toks := tk } := ⟨fz, cells ++ led, _, _, F', N', Br, x.gens, x.os, htk⟩
        refine wpAny_mono (hbody _ s.heap.objs.size ok' ρ _ _ _ R' kk st1 e1) (fun _ _ z => z.elim) fun v s' ⟨e, ρ', hve, hρ, hx⟩ => ?_
        subst hve
        obtain ⟨base, fz', led', m', mloc', hx1, fl⟩ := hx
        refine leave_flt (L := s.heap.objs.size) (outer := cx.fenv :: cx.outer) (by exact ok'.frames) rfl fl fun h' a0 k1 k2 => ?_
        have hx2 := (hx1.go ok' k1.1 k2).frz
        obtain ⟨y1, y2⟩ := XD.back (cx := cx) ok x hρ hx2.x
        obtain ⟨f1, f2, ⟨_, _, f3⟩, f4⟩ := k1
        exact hR ρ' e _ hρ ⟨base, fz', led', m, mloc, a0, ⟨y1, fun b o q => hx2.b0 b o (y2 b o q), hx2.b1⟩, f1, f2, f3, f4⟩
    · cases h
  · cases h
/-- a def that ends with an exception -/
structure FnX (cx : Cx) (k : Nat) (f : Addr) (ps : List String) (mb : PM Fl) : Prop where
  run : cx.Ok → cx.A.depth + 4 * k + 5 < recursionLimit → cx.A.units + 40 * k + 203 < cLine → ∀ {ρ : Map} {hid : Hd} {st st' : St} {s : Shared}, Rel cx ρ hid st s → ∀ {vs : List V} {Vs : List Value}, VRs ρ vs Vs → ∀ {kk : String}, callP ps mb vs st = .exc kk st' →
    ∀ {R : Result → Shared → Prop}, (∀ ρ' e s', ρ <+: ρ' → EXo cx ρ' hid st' kk e s' → R (.error (.ref e)) s') → codeAny cx.M cx.A (.call (.ref f) ⟨Vs, []⟩) R s
theorem fnX_user {k : Nat} {ps : List String} {mb : PM Fl} {name qual : Str} {params : Arguments} {body : List Stmt} {scope : Scope} {dV kV doc pm cdv ct oc : Value} {an od : Option Addr} {osl : Array (Option Value)} {f : Addr}
    (ho : cx.K.lookup f = some ⟨oc, od, .func (fnOf name qual params body scope dV kV doc pm an cdv ct), osl⟩) (hcd : codeIn cx.K cdv qual = true)
    (hb : ∀ Vs : List Value, Vs.length = ps.length → bindArgs (fnOf name qual params body scope dV kV doc pm an cdv ct) ⟨Vs, []⟩ = pure ((ps.map Str.ofString).zip Vs))
    (hkind : ∀ p ∈ ps, scope.names.lookup (Str.ofString p) = some .local ∨ scope.names.lookup (Str.ofString p) = some .cell) (hps : ps.Nodup) (hnd : ((cellsFrom 0 scope.names []).map (·.1)).Nodup)
    (hco : scope.isCoroutine = false) (hgen : scope.isGenerator = false) (hk : scope.kind = .function)
    (hbody : ∀ g L', (cx.inn g L' (envOfC qual scope L' f cdv) k).Ok → SimX EX (cx.inn g L' (envOfC qual scope L' f cdv) k) (execs body (envOfC qual scope L' f cdv)) mb) : FnX cx k f ps mb :=
  ⟨fun ok hd hu _ _ _ _ _ x _ _ hv _ h _ hR => code_userX ok hd hu ho hcd hb hkind hps hnd hco hgen hk hbody x hv h hR⟩
/-- a callee that ends with an exception -/
def PCX (P : EP) (cx : Cx) (u : Value) (f : List V → PM V) : Prop := ∀ ρ hid st s, Rel cx ρ hid st s → ∀ vs Vs, VRs ρ vs Vs → ∀ k st', f vs st = .exc k st' → wpAny cx.M cx.A (call u Vs) (fun _ _ => False) (XP P cx ρ hid st' k) s
theorem pcx_user (ok : cx.Ok) {k : Nat} (hn : k + 1 ≤ cx.n) {f : Addr} {ps : List String} {mb : PM Fl} (F : FnX cx k f ps mb) : PCX EXo cx (.ref f) (callP ps mb) := by
  intro ρ hid st s x vs Vs hv kk st' h
  exact wpAny_call (F.run ok (by have := ok.depth; omega) (by have := ok.units; omega) x hv h fun ρ' e s' a b => ⟨e, ρ', rfl, a, b⟩)
theorem callx_with (ok : cx.Ok) {P : EP} {u : Value} {pos : Pos} {es : List Expr} {ma : PM (List V)} {f : List V → PM V} {first : List V} {First : List Value} (ha : SimL cx pos es ma) (hk : KeepOk cx u) (hp : PCX P cx u f) (hplain : (backTo pos (starEach es cx.env)).any (·.1) = false)
    {ρ : Map} {hid : Hd} {st st1 st' : St} {s : Shared} (x : Rel cx ρ hid st s) (hf : VRs ρ first First) {vs : List V} {k : String} (e1 : ma st = .ok vs st1) (e2 : f (first ++ vs) st1 = .exc k st') :
    wpAny cx.M cx.A (callWith pos u First (backTo pos (starEach es cx.env)) []) (fun _ _ => False) (XP P cx ρ hid st' k) s := by
  refine callWith_of (P := cx.K.In) (by rw [hplain]; rfl) hk (evalArgs_of hplain (wp_seq (ha ρ hid st s x vs st1 e1) fun Vs s1 ρ1 p1 r1 v1 => ⟨?_, wx p1 (hp ρ1 hid st1 s1 r1 _ _ (vrs_append (hf.mono p1) v1) k st' e2)⟩))
  obtain ⟨fz, led, m, mloc, r⟩ := r1
  exact ok.kin.keeps r.F.keep
/-- a method of the class that ends with an exception -/
theorem nox_isInst (n : String) (v : V) : NoX (isInst n v) := fun st k st' h => by
  unfold isInst at h
  split at h
  · split at h
    · split at h <;> cases h
    · cases h
  · cases h
theorem x_MethI (ok : cx.Ok) {P : EP} {o : Expr} {n : String} {g : Addr} {apos pos : Pos} {es : List Expr} {pl : Sem Bool} {mo : PM V} {ma : PM (List V)} {f : List V → PM V} (hg : plainGet cx.K cx.C (Str.ofString n) = true)
    (hf : findIn cx.K (.ref cx.C) (Str.ofString n) = some (some (.ref g))) (ht : isFn cx.K (.ref g) = true) (hk : keepIn cx.K (.ref g) = true)
    (hp : PCX P cx (.ref g) f) (ho : SimV cx (eval o cx.env) mo) (hmo : NoX mo) (ha : SimL cx pos es ma) (hma : NoX ma) (hplain : (backTo pos (starEach es cx.env)).any (·.1) = false) (he : MethForm cx o (Str.ofString n) apos pos es pl) :
    SimX P cx (eval (.Call (.Attribute o (Str.ofString n) apos) es [] pos) cx.env) (PM.bind mo fun v => PM.bind (isInst n v) fun _ => PM.bind ma fun vs => f (v :: vs)) := by
  intro ρ hid st s x k st' h
  rcases bind_exc h with e | ⟨a, st1, e1, h1⟩
  · exact absurd e (hmo _ _ _)
  rcases bind_exc h1 with e | ⟨u, st2, e2, h2⟩
  · exact absurd e (nox_isInst _ _ _ _ _)
  rcases bind_exc h2 with e | ⟨vs, st3, e3, h3⟩
  · exact absurd e (hma _ _ _)
  clear h h1 h2
  refine MethodCall_ (wp_seq (ho ρ hid st s x a st1 e1) fun A s1 ρ1 p1 r1 v1 => ?_) he
  unfold isInst at e2
  split at e2
  · rename_i i
    obtain ⟨p, hp', rfl⟩ := vr_obj v1
    split at e2
    · rename_i as hi
      split at e2
      · rename_i hl
        cases e2
        obtain ⟨fz, led, m, mloc, r'⟩ := id r1
        obtain ⟨Es, n', j1, j2, j3, j4, I⟩ := inst_at r' hi hp'
        refine method_inst r'.F ok.kin I hg hf ht ?_ (wx p1 (callx_with ok ha (keep_K hk) hp hplain r1 (first := [_]) (.cons v1 .nil) e3 h3))
        unfold PySem.W.getL
        rw [ar_none j1 hl, ar_noref j1]
        rfl
      · cases e2
    · cases e2
  · cases e2
end
end Mine
set_option linter.unusedVariables false
namespace Mine
section
variable {cx : Cx}
/-- a body in which exceptions may have been caught -/
def SimBx (cx : Cx) (ss : List Stmt) (m : PM Fl) : Prop := ∀ ρ hid st s, Rel cx ρ hid st s → ∀ f st', m st = .ok f st' →
  wpAny cx.M cx.A (execs ss cx.env) (fun a s' => ∃ ρ', ρ <+: ρ' ∧ XR cx.frz ρ' hid st' s' ∧ FR ρ' f a) (fun _ _ => False) s
theorem XD.whole {ρ : Map} {hid : Hd} {fz led : Led} {m mloc : Str → Option Value} {st : St} {s : Shared} (ho : cx.outer = []) (x : XD cx ρ hid fz led m mloc st s) : RelD cx ρ hid fz led m mloc st s := by
  have hn : ∀ b, b ∉ cx.fes := fun b hb => by
    have : cx.fes = [] := by show cx.outer.filterMap (·.frame) = []; rw [ho]; rfl
    rw [this] at hb; cases hb
  obtain ⟨r, u, d⟩ := x
  refine ⟨⟨r.F.ns, fun b o e => r.F.keep b o (hideAll_get _ e (hn b)), by have := r.F.above; rw [hideAll_size] at this; exact this⟩, fun q hq => ⟨(r.N q hq).1, (r.N q hq).2.1, ?_⟩, r.B.unH, r.gens, r.os, r.tk⟩
  cases q' : cx.h₀.get? q.1 with
  | none => rfl
  | some o =>
    have h1 := hideAll_get cx.fes q' (hn _)
    have h2 := (r.N q hq).2.2
    rw [show cx.low.h₀ = hideAll cx.h₀ cx.fes from rfl, h1] at h2
    cases h2
theorem code_try (ok : cx.Ok) (hout : cx.outer = []) {k : Nat} (hdp : cx.A.depth + 4 * k + 5 < recursionLimit) (hun : cx.A.units + 40 * k + 203 < cLine) {ps : List String} {mb : PM Fl} {name qual : Str} {params : Arguments} {body : List Stmt} {scope : Scope} {dV kV doc pm cdv ct oc : Value} {an od : Option Addr} {osl : Array (Option Value)} {f : Addr}
    (ho : cx.K.lookup f = some ⟨oc, od, .func (fnOf name qual params body scope dV kV doc pm an cdv ct), osl⟩) (hcd : codeIn cx.K cdv qual = true)
    (hb : ∀ Vs : List Value, Vs.length = ps.length → bindArgs (fnOf name qual params body scope dV kV doc pm an cdv ct) ⟨Vs, []⟩ = pure ((ps.map Str.ofString).zip Vs))
    (hkind : ∀ p ∈ ps, scope.names.lookup (Str.ofString p) = some .local ∨ scope.names.lookup (Str.ofString p) = some .cell) (hps : ps.Nodup) (hnd : ((cellsFrom 0 scope.names []).map (·.1)).Nodup)
    (hco : scope.isCoroutine = false) (hgen : scope.isGenerator = false) (hk : scope.kind = .function)
    (hbody : ∀ g L', (cx.inn g L' (envOfC qual scope L' f cdv) k).Ok → SimBx (cx.inn g L' (envOfC qual scope L' f cdv) k) body mb)
    {ρ : Map} {hid : Hd} {st st' : St} {s : Shared} (x : Rel cx ρ hid st s) {vs : List V} {Vs : List Value} (hv : VRs ρ vs Vs) {v : V} (h : callP ps mb vs st = .ok v st') {R : Result → Shared → Prop}
    (hR : ∀ ρ' W s', ρ <+: ρ' → Rel cx ρ' hid st' s' → VR ρ' v W → R (.ok (.ret W)) s') : codeAny cx.M cx.A (.call (.ref f) ⟨Vs, []⟩) R s := by
  unfold callP at h
  split at h
  · rename_i hlen
    split at h
    · rename_i fl st1 e1
      cases h
      obtain ⟨fz, led, m, mloc, x⟩ := x
      obtain ⟨A₀, hB⟩ := ok.below
      have hVl : Vs.length = ps.length := by rw [← hv.length]; exact hlen
      obtain ⟨FG, B', stays, lv⟩ := groundX (A := cx.A) (R := R) hB x.F x.N ok.frames ok.fframe ok.fkind
      refine call_pos x.tk (by have := ok.depth; omega) (ok.kin.keeps x.F.keep _ _ ho) rfl rfl rfl rfl rfl (ok.top.nolimit.keeps x.F.keep) (codeRec_of (ok.kin.keeps x.F.keep) hcd) (BindsTo.of_eq (hb Vs hVl)) (fun j y hy => ?_) hnd
        (fun h₁ tk cells htk F1 N1 C' => ?_) hco hgen hk
      · have := (List.of_mem_zip (a := y.1) (b := y.2) hy).1
        obtain ⟨p, hp, e⟩ := List.mem_map.mp this
        rw [← e]
        rcases hkind p hp with q | q
        · exact .inl q
        · exact .inr ⟨q, cellsFrom_some scope.names j [] (.inl q)⟩
      · have hlt : ∀ p ∈ led, p.1 < s.heap.objs.size := fun p hp => Heap.lt_size (x.N p hp).1
        have ok' := inn_ok (qual := qual) (f := f) (cdv := cdv) (L' := s.heap.objs.size) ok hdp hun hk stays B'
        have Br := bear_inn (k := k) (g := hideAll s.heap (led.map (·.1))) x.B hlt hv hps hkind C'
        have F' : Fr (hideAll s.heap (led.map (·.1))) s.heap.objs.size h₁ (bindL (envOfC qual scope s.heap.objs.size f cdv).kindOf ((ps.map Str.ofString).zip Vs) fun _ => none) := ⟨F1.ns, fun b o e => F1.keep b o (of_hideAll _ e), Nat.le_of_eq (hideAll_size _ _)⟩
        have N' : News (hideAll s.heap (led.map (·.1))) s.heap.objs.size h₁ (cells ++ led) := fun p hp => by
          rcases List.mem_append.mp hp with hp | hp
          · refine ⟨(N1 p hp).1, (N1 p hp).2.1, ?_⟩
            cases q : (hideAll s.heap (led.map (·.1))).get? p.1 with
            | none => rfl
            | some o => have := of_hideAll _ q; rw [(N1 p hp).2.2] at this; cases this
          · exact ⟨F1.keep _ _ (x.N p hp).1, Nat.ne_of_lt (hlt p hp), hideAll_none _ (List.mem_map_of_mem hp)⟩
        have R' : Rel (cx.inn (hideAll s.heap (led.map (·.1))) s.heap.objs.size (envOfC qual scope s.heap.objs.size f cdv) k) ρ (hidOf ρ fz led) ⟨fun n => (ps.zip vs).lookup n, st.sto⟩ { s with heap := h₁, toks := tk } := ⟨fz, cells ++ led, _, _, F', N', Br, x.gens, x.os, htk⟩
        refine wpAny_mono (hbody _ s.heap.objs.size ok' ρ _ _ _ R' fl st1 e1) (fun fw s' hq => ?_) fun _ _ z => z.elim
        obtain ⟨ρ', hρ, ⟨fz', led', m', mloc', y⟩, hfl⟩ := hq
        refine hR ρ' _ s' hρ ⟨fz', led', m, mloc, (XD.back (cx := cx) ok x hρ y).1.whole hout⟩ ?_
        cases hfl with
        | ret hv => exact hv
        | _ => exact .none
    · cases h
    · cases h
  · cases h
theorem fn_try (hout : cx.outer = []) {k : Nat} {ps : List String} {mb : PM Fl} {name qual : Str} {params : Arguments} {body : List Stmt} {scope : Scope} {dV kV doc pm cdv ct oc : Value} {an od : Option Addr} {osl : Array (Option Value)} {f : Addr}
    (ho : cx.K.lookup f = some ⟨oc, od, .func (fnOf name qual params body scope dV kV doc pm an cdv ct), osl⟩) (hcd : codeIn cx.K cdv qual = true)
    (hb : ∀ Vs : List Value, Vs.length = ps.length → bindArgs (fnOf name qual params body scope dV kV doc pm an cdv ct) ⟨Vs, []⟩ = pure ((ps.map Str.ofString).zip Vs))
    (hkind : ∀ p ∈ ps, scope.names.lookup (Str.ofString p) = some .local ∨ scope.names.lookup (Str.ofString p) = some .cell) (hps : ps.Nodup) (hnd : ((cellsFrom 0 scope.names []).map (·.1)).Nodup)
    (hco : scope.isCoroutine = false) (hgen : scope.isGenerator = false) (hk : scope.kind = .function)
    (hbody : ∀ A' g L', ((cx.at A').inn g L' (envOfC qual scope L' f cdv) k).Ok → SimBx ((cx.at A').inn g L' (envOfC qual scope L' f cdv) k) body mb) : Fn cx k f ps mb :=
  ⟨fun A' ok hd hu _ _ _ _ _ x _ _ hv _ h _ hR => code_try (cx := cx.at A') ok hout hd hu ho hcd hb hkind hps hnd hco hgen hk (hbody A') x.chA hv h fun ρ' W s' a b c => hR ρ' W s' a b.unA c⟩
/-- names in the low form -/
theorem XD.ns {ρ : Map} {hid : Hd} {fz led : Led} {m mloc : Str → Option Value} {st : St} {s : Shared} (x : XD cx ρ hid fz led m mloc st s) {a : Addr} {n : Str → Option Value} (h : cx.h₀.Ns a n) : s.heap.Ns a n := by
  obtain ⟨o, es, ep, ho, hr⟩ := id h
  by_cases hm : a ∈ cx.fes
  · obtain ⟨sl, hs⟩ := x.u a hm o ho
    exact ns_slots h ho hs
  · exact ns_keeps h fun o e => x.r.F.keep _ _ (hideAll_get _ e hm)
theorem XD.name (ok : cx.Ok) {A : Around} {ρ : Map} {hid : Hd} {fz led : Led} {m mloc : Str → Option Value} {st : St} {s : Shared} (r : XD cx ρ hid fz led m mloc st s) {x : Str} {pos : Pos} {u : Value} (hx : cx.env.kindOf x = some .globalImplicit) (e : nsIn cx.K mainGlobals x = some none) (hb : bootBuiltins x = some u) (hn : x ≠ "__name__") (hd : (x == ("__debug__" : Str)) = false) {Q : Value → Shared → Prop} {E : Value → Shared → Prop} (hQ : Q u s) :
    wpAny cx.M A (eval (.Name x pos) cx.env) Q E s :=
  Name_function_global ok.kind hx (loadGlobal_builtin (mg := cx.mg) (mb := cx.mb) (v := u) (by rw [ok.globals]; exact r.ns ok.top.g) (mg_none_of ok.kin ok.top.g e) (by rw [ok.builtins]; exact r.ns ok.top.b) ((ok.top.builtins x hn).trans hb) hQ) hd
/-- an exception under way, its traces put away -/
structure Aw (cx : Cx) (base : Heap) (ρ : Map) (hid : Hd) (fz led : Led) (m mloc : Str → Option Value) (st : St) (X : String) (e : Addr) (a0 : Value) (s : Shared) : Prop where
  x : ExD cx base ρ hid fz led m mloc st s
  f : Heap.FlyingW base (cx.fenv :: cx.outer) e (.type X) a0 s.heap
/-- a suite that gives back a constant -/
def RetC (env : Env) (ss : List Stmt) (v : V) : Prop := ∀ (M : Model) (A : Around) (s : Shared) (Q : Flow → Shared → Prop) (E : Value → Shared → Prop), (∀ W tk, s.toks ≤ tk → (∀ ρ, VR ρ v W) → Q (.ret W) { s with toks := tk }) → wpAny M A (execs ss env) Q E s
theorem ret_str {env : Env} {x : String} {k : Nat} {pos pos' : Pos} : RetC env [.Return (some (.Constant (.str (Str.ofString x)) k pos)) pos'] (.str (cps x)) := fun M A s Q E h =>
  wpAny_execs_cons (wpAny_Return_some (wpAny_Constant_str (h _ _ (Nat.le_succ _) fun ρ => by
    have := VR.str (ρ := ρ) (cps x) s.toks (cps_ok x)
    rwa [← str_cps] at this)))
theorem XD.toks {ρ : Map} {hid : Hd} {fz led : Led} {m mloc : Str → Option Value} {st : St} {s : Shared} (x : XD cx ρ hid fz led m mloc st s) {tk : Nat} (h : s.toks ≤ tk) : XD cx ρ hid fz led m mloc st { s with toks := tk } :=
  ⟨⟨x.r.F, x.r.N, x.r.B, x.r.gens, x.r.os, Nat.lt_of_lt_of_le x.r.tk h⟩, x.u, x.d⟩
theorem XD.frz {ρ : Map} {hid : Hd} {fz led : Led} {m mloc : Str → Option Value} {st : St} {s : Shared} (x : XD cx ρ hid fz led m mloc st s) : XD cx.frz ρ hid fz led m mloc st s :=
  ⟨⟨x.r.F, x.r.N, Bear.frz (cx := cx.low) x.r.B, x.r.gens, x.r.os, x.r.tk⟩, x.u, x.d⟩
/-- a clause that fits -/
theorem hand_hit (ok : cx.Ok) {base : Heap} {ρ : Map} {hid : Hd} {fz led : Led} {m mloc : Str → Option Value} {st : St} {X : String} {e : Addr} {a0 : Value} {s : Shared} (a : Aw cx base ρ hid fz led m mloc st X e a0 s) {x : Str} {np pos : Pos} {b₀ : Stmt} {suite : List Stmt} {rest : List ExceptHandler} {v : V}
    (hx : cx.env.kindOf x = some .globalImplicit) (e1 : nsIn cx.K mainGlobals x = some none) (hb : bootBuiltins x = some (.type X)) (hn : x ≠ "__name__") (hd : (x == ("__debug__" : Str)) = false)
    (hexc : isSubtype (.type X) (.type "BaseException") = pure true) (hnt : isSubtype (.type ((Manifest.find? X).elim "type" fun x => x.metatype)) (.type "tuple") = pure false) (hsub : isSubtype (.type X) (.type X) = pure true)
    (hs : RetC cx.env (b₀ :: suite) v) {Q : Flow → Shared → Prop} {E : Value → Shared → Prop}
    (hQ : ∀ f s', XR cx.frz ρ hid st s' → FR ρ (.ret v) f → Q f s') :
    wpAny cx.M cx.A (handleBy (.ref e) cx.env (.ExceptHandler (some (.Name x np)) none (b₀ :: suite) pos :: rest)) Q E s := by
  obtain ⟨ob, hob, hobc⟩ := a.f.there
  refine wpAny_handleBy_builtin (X := X) (T := X) (b := true) hexc hnt hsub (a.x.x.name ok hx e1 hb hn hd ⟨rfl, ⟨ob, hob, hobc⟩, ?_⟩)
  rw [if_pos rfl]
  refine lands_againW a.f fun h6 k1 k2 => ?_
  have hx6 := a.x.go ok k1.1 k2
  exact hs _ _ _ _ _ fun W tk htk hv => hQ _ _ ⟨fz, led, m, mloc, (hx6.x.toks htk).frz⟩ (.ret (hv ρ))
/-- a clause that does not fit -/
theorem hand_miss (ok : cx.Ok) {base : Heap} {ρ : Map} {hid : Hd} {fz led : Led} {m mloc : Str → Option Value} {st : St} {X T : String} {e : Addr} {a0 : Value} {s : Shared} (a : Aw cx base ρ hid fz led m mloc st X e a0 s) {x : Str} {np pos : Pos} {b₀ : Stmt} {suite : List Stmt} {rest : List ExceptHandler}
    (hx : cx.env.kindOf x = some .globalImplicit) (e1 : nsIn cx.K mainGlobals x = some none) (hb : bootBuiltins x = some (.type T)) (hn : x ≠ "__name__") (hd : (x == ("__debug__" : Str)) = false)
    (hexc : isSubtype (.type T) (.type "BaseException") = pure true) (hnt : isSubtype (.type ((Manifest.find? T).elim "type" fun x => x.metatype)) (.type "tuple") = pure false) (hsub : isSubtype (.type X) (.type T) = pure false)
    {Q : Flow → Shared → Prop} {E : Value → Shared → Prop} (hQ : wpAny cx.M cx.A (handleBy (.ref e) cx.env rest) Q E s) :
    wpAny cx.M cx.A (handleBy (.ref e) cx.env (.ExceptHandler (some (.Name x np)) none (b₀ :: suite) pos :: rest)) Q E s := by
  obtain ⟨ob, hob, hobc⟩ := a.f.there
  exact wpAny_handleBy_builtin (X := X) (T := T) (b := false) hexc hnt hsub (a.x.x.name ok hx e1 hb hn hd ⟨rfl, ⟨ob, hob, hobc⟩, hQ⟩)
/-- try: a body that ends, or ends with an exception that came out of a call -/
def tryP (m : PM Fl) (hs : List (String × V)) : PM Fl := fun st => match m st with
  | .ok f st' => .ok f st'
  | .exc k st' => (match hs.lookup k with | some v => .ok (.ret v) st' | none => .fail)
  | .fail => .fail
theorem sim_Try (ok : cx.Ok) (hfe : cx.env.frame = some cx.L) (hfe2 : cx.env = cx.fenv) {body : List Stmt} {h₀ : ExceptHandler} {hh : List ExceptHandler} {pos : Pos} {m : PM Fl} {hs : List (String × V)} (hb : SimSs cx body m) (xb : SimX EXo cx (execs body cx.env) m)
    (H : ∀ k v, hs.lookup k = some v → ∀ {base : Heap} {ρ : Map} {hid : Hd} {fz led : Led} {m mloc : Str → Option Value} {st : St} {e : Addr} {a0 : Value} {s : Shared}, Aw cx base ρ hid fz led m mloc st k e a0 s → ∀ {Q : Flow → Shared → Prop} {E : Value → Shared → Prop}, (∀ f s', XR cx.frz ρ hid st s' → FR ρ (.ret v) f → Q f s') →
      wpAny cx.M cx.A (handleBy (.ref e) cx.env (h₀ :: hh)) Q E s) : SimBx cx [.Try body (h₀ :: hh) [] [] pos] (tryP m hs) := by
  intro ρ hid st s x f st' h
  unfold tryP at h
  split at h
  · rename_i f1 st1 e1
    cases h
    refine wpAny_execs_cons (wpAny_Try_except (wp_seq (hb ρ hid st s x f st' e1) fun g s1 ρ1 p1 r1 v1 => ?_))
    have hx := r1.frz.xr (frz_ok ok)
    cases v1 with
    | next => exact wpAny_execs_nil (wpAny_execs_nil ⟨ρ1, p1, hx, .next⟩)
    | brk => exact ⟨ρ1, p1, hx, .brk⟩
    | cont => exact ⟨ρ1, p1, hx, .cont⟩
    | ret hv => exact ⟨ρ1, p1, hx, .ret hv⟩
  · rename_i k st1 e1
    split at h
    · rename_i v hl
      cases h
      refine wpAny_execs_cons (wpAny_Try_except (wpAny_mono (xb ρ hid st s x k st' e1) (fun _ _ z => z.elim) fun w s1 ⟨e, ρ1, hw, p1, hx⟩ => ?_))
      subst hw
      obtain ⟨base, fz, led, mm, mloc, a0, hx1, fl⟩ := hx
      refine wpAny_looks_onW (L := cx.L) (outer := cx.outer) (base := base) (by rw [hfe2]; exact ok.frames) hfe (by rw [hfe2]; exact fl) fun h4 k1 k2 => ?_
      refine wpAny_landsW k1 fun h5 k3 k4 => ?_
      rw [hfe2] at k3
      have hx5 := (hx1.go ok k1.1 k2).go ok k3.1 k4
      refine H k v hl ⟨hx5, k3⟩ fun f s' hx hf => ?_
      cases hf with
      | ret hv => exact ⟨ρ1, p1, hx, .ret hv⟩
    · cases h
  · cases h
end
end Mine
set_option linter.unusedVariables false
namespace Mine
theorem getAttr0_int {prog : Program} {w : World} {A : Around} {E : Value → Shared → Prop} {s : Shared} {n : Int} {t : Tok} {name : Str} {Q : Value → Shared → Prop} (hmiss : typeLookup (.type "int") name = pure none) (hA : A.handled = none)
    (h : ∀ h' tk e, Heap.NewExcOf s.heap h' e "AttributeError" → E (.ref e) { s with heap := h', toks := tk }) (hsz : name.length + 100 ≤ sizeLine) :
    wpAny (model prog w) A (getAttr (.int n t) name) Q E s := by
  obtain ⟨hp, g, d, tk, os⟩ := s
  have hT : ∀ s' : Shared, s'.TypeIs (.int n t) "int" := fun _ => rfl
  have f1 := sub_AttributeError
  have f3 := F.slot_int_getattribute.lookup
  have f4 := F.slot_int_getattribute.bind (.int n t)
  have f5 := am_int_getattr_none
  unfold getAttr getAttrBy
  repeat (any_goals (first | assumption | ((with_reducible show wpAny _ _ (call (Value.builtin "int.__getattribute__") _ _) _ _ _); refine call_meets F.slot_int_getattribute (hT _) am_entry_int_getattribute (F.args_int_getattribute_2 _ _) (meets_getattribute_miss_int n t name _ hmiss hsz) ⟨hA, fun h' tk' e hx => ?_⟩) | wp_step))
  obtain ⟨t', u', he⟩ := hx.there
  show wpAny _ _ (getattributeRaised _ _ _ _ _ _ _) _ _ _
  unfold getattributeRaised
  repeat (any_goals (first | assumption | wp_step))
  exact h _ _ _ hx.of
theorem getAttr0_none {prog : Program} {w : World} {A : Around} {E : Value → Shared → Prop} {s : Shared} {name : Str} {Q : Value → Shared → Prop} (hmiss : typeLookup (.type "NoneType") name = pure none) (hA : A.handled = none)
    (h : ∀ h' tk e, Heap.NewExcOf s.heap h' e "AttributeError" → E (.ref e) { s with heap := h', toks := tk }) (hsz : name.length + 100 ≤ sizeLine) :
    wpAny (model prog w) A (getAttr .none name) Q E s := by
  obtain ⟨hp, g, d, tk, os⟩ := s
  have hT : ∀ s' : Shared, s'.TypeIs (.none) "NoneType" := fun _ => rfl
  have f1 := sub_AttributeError
  have f3 := F.slot_NoneType_getattribute.lookup
  have f4 := F.slot_NoneType_getattribute.bind (.none)
  have f5 := am_none_getattr_none
  unfold getAttr getAttrBy
  repeat (any_goals (first | assumption | ((with_reducible show wpAny _ _ (call (Value.builtin "object.__getattribute__") _ _) _ _ _); refine call_meets F.slot_NoneType_getattribute (hT _) F.entry_object_getattribute (F.args_object_getattribute_2 _ _) (meets_getattribute_miss_none name _ hmiss hsz) ⟨hA, fun h' tk' e hx => ?_⟩) | wp_step))
  obtain ⟨t', u', he⟩ := hx.there
  show wpAny _ _ (getattributeRaised _ _ _ _ _ _ _) _ _ _
  unfold getattributeRaised
  repeat (any_goals (first | assumption | wp_step))
  exact h _ _ _ hx.of
theorem getAttr0_list {prog : Program} {w : World} {A : Around} {E : Value → Shared → Prop} {s : Shared} {a : Addr} {o : Obj} {xs : Array Value} {k : Nat} {name : Str} {Q : Value → Shared → Prop}
    (hx : s.heap.get? a = some o) (hc : o.cls = .type "list") (hdat : o.data = .seq xs k) (hd : o.dict = none) (hmiss : typeLookup (.type "list") name = pure none) (hname : (["__module__", "__name__", "__qualname__", "__doc__", "__annotations__"] : List Str).contains name = false) (hA : A.handled = none)
    (h : ∀ h' tk e, Heap.NewExcOf s.heap h' e "AttributeError" → E (.ref e) { s with heap := h', toks := tk }) (hsz : name.length + 100 ≤ sizeLine) :
    wpAny (model prog w) A (getAttr (.ref a) name) Q E s := by
  obtain ⟨c, dct, dat, sl⟩ := o
  simp only at hc hdat hd
  subst hc hdat hd
  obtain ⟨hp, g, d, tk, os⟩ := s
  have hT : ∀ tk', (⟨hp, g, d, tk', os⟩ : Shared).TypeIs (.ref a) "list" := fun _ => ⟨_, hx, rfl⟩
  have f1 := sub_AttributeError
  have f3 := F.slot_list_getattribute.lookup
  have f4 := F.slot_list_getattribute.bind (.ref a)
  have f5 := am_list_getattr_none
  unfold getAttr getAttrBy
  repeat (any_goals (first | assumption | exact hT _ | ((with_reducible show wpAny _ _ (call (Value.builtin "list.__getattribute__") _ _) _ _ _); refine call_meets F.slot_list_getattribute (hT _) am_entry_list_getattribute (F.args_list_getattribute_2 _ _) (meets_getattribute_miss_list a xs k sl name _ hmiss hname hsz) ⟨hx, hA, fun h' tk' e hx' => ?_⟩) | wp_step))
  obtain ⟨t', u', he⟩ := hx'.there
  show wpAny _ _ (getattributeRaised _ _ _ _ _ _ _) _ _ _
  unfold getattributeRaised
  repeat (any_goals (first | assumption | wp_step))
  exact h _ _ _ hx'.of
theorem getMethod_miss {M : Model} {A : Around} {E : Value → Shared → Prop} {s : Shared} {v : Value} {T : String} {name : Str} {pl : Sem Bool} {Q : Value × List Value → Shared → Prop} (hT : s.TypeIs v T) (pa : PlainAttrs T)
    (hmiss : typeLookup (.type T) name = pure none) (h : wpAny M A (getAttr v name) (fun a s' => Q (a, []) s') E s) : wpAny M A (getMethod v name pl) Q E s := by
  obtain ⟨g, hg, hcan⟩ := pa.ga
  unfold getMethod
  refine wpAny_bind (wpAny_specialOf hT hg ?_)
  show wpAny M A (if (Manifest.canonical g != "object.__getattribute__") = true then _ else _) Q E s
  rw [hcan, if_neg Bool.false_ne_true]
  refine wpAny_bind (wpAny_specialOf hT pa.noGetattr ?_)
  refine wpAny_bind (wpAny_specialOf hT hmiss ?_)
  exact wpAny_bind (wpAny_mono h (fun a s' q => wpAny_pure q) fun _ _ z => z)
end Mine
set_option linter.unusedVariables false
namespace Mine
set_option maxRecDepth 100000
theorem slot_bytes_split : Slot "bytes" "split" "bytes.split" :=
  .of (owner := "bytes") (n := "split") (by rw [typeLookup_type, builtinLookup_eq_fast]; kernel_rfl) (by decide +kernel) (by decide +kernel) (by decide +kernel)
    (by first | exact .inl (by decide +kernel) | exact .inr (by decide +kernel)) (by rw [isSubtype_type]; kernel_rfl)
theorem entry_bytes_split : entryFor table "bytes.split" = some Builtin.«bytes.split» := entryFor_of_tree (by kernel_rfl)
theorem args_bytes_split (a b : Value) : argsOk "bytes.split" ⟨[a, b], []⟩ := by
  unfold argsOk; rw [signature?_of (id := "bytes.split") (n := ['t', 'i', 'l', 'p', 's']) (o := ['s', 'e', 't', 'y', 'b']) (by kernel_rfl) FB.owner_bytes]; kernel_rfl
theorem type_bytes_split : typeOf (.builtin "bytes.split") = pure (.type "method_descriptor") := by kernel_rfl
theorem noBuffer_str : typeLookup (.type "str") "__buffer__" = pure none := by rw [typeLookup_type, builtinLookup_eq_fast]; kernel_rfl
theorem meets_bytes_split (b : Array UInt8) (t : Tok) (x : Str) (u : Tok) : Meets (Builtin.«bytes.split» ⟨[.bytes b t, .str x u], []⟩) (raisesNew "TypeError") :=
  Meets.of_wp fun prog w A R s hs => by
    obtain ⟨hp, g, d, tk, os⟩ := s
    have hT : ∀ s' : Shared, s'.TypeIs (.str x u) "str" := fun _ => rfl
    have f1 := noBuffer_str
    unfold Builtin.«bytes.split» Builtin.Bytes.splitM
    refine wpAny_bind (m := Builtin.Bytes.bindOptional _ _ _ _ _) (wpAny_of_eq (a := [some (.str x u), none]) (by rfl) ?_)
    refine wpAny_bind (wpAny_pure ?_)
    refine wpAny_bind (m := Builtin.Bytes.payload _) (wpAny_of_eq (a := b) (by rfl) ?_)
    dsimp only
    refine wpAny_bind ?_
    unfold Builtin.Bytes.bytesLike
    refine wpAny_bind (m := Builtin.Bytes.buffer? _ _ _) ?_
    unfold Builtin.Bytes.buffer?
    refine wpAny_bind (wpAny_specialOf (hT _) f1 ?_)
    refine wpAny_bind (wpAny_specialOf (hT _) f1 ?_)
    refine wpAny_pure ?_
    dsimp only
    refine wpAny_bind (wpAny_rule ?_)
    refine wpAny_bind (m := typeNameOf _) (wpAny_of_eq (a := "str") (by rfl) ?_)
    exact_raiseError plainExc_TypeError hs.1 hs.2
end Mine
set_option linter.unusedVariables false
namespace Mine
set_option maxRecDepth 100000
theorem nox_setL (n : String) (v : V) : NoX (setL n v) := fun st k st' h => by cases h
/-- a text, or what has no such method -/
def isStrX (okB : Bool) : V → PM Unit
  | .str _ => PM.pure ()
  | .int _ => fun st => .exc "AttributeError" st
  | .none => fun st => .exc "AttributeError" st
  | .obj i => fun st => match st.sto[i]? with
    | some (.list _) => .exc "AttributeError" st
    | _ => .fail
  | .byt _ => if okB then PM.pure () else PM.fail
  | _ => PM.fail
def cSplitX : List V → PM V
  | .byt _ :: [.str _] => fun st => .exc "TypeError" st
  | .str l :: r => cSplit (.str l :: r)
  | _ => PM.fail
def cLowerX : List V → PM V
  | .str l :: r => cLower (.str l :: r)
  | _ => PM.fail
theorem miss_int_split : typeLookup (.type "int") "split" = pure none := am_miss_of_fast (by kernel_rfl)
theorem miss_none_split : typeLookup (.type "NoneType") "split" = pure none := am_miss_of_fast (by kernel_rfl)
theorem miss_list_split : typeLookup (.type "list") "split" = pure none := am_miss_of_fast (by kernel_rfl)
theorem miss_int_lower : typeLookup (.type "int") "lower" = pure none := am_miss_of_fast (by kernel_rfl)
theorem miss_none_lower : typeLookup (.type "NoneType") "lower" = pure none := am_miss_of_fast (by kernel_rfl)
theorem miss_list_lower : typeLookup (.type "list") "lower" = pure none := am_miss_of_fast (by kernel_rfl)
section
variable {cx : Cx}
theorem lfE {α : Type} {M : Model} {A : Around} {t : Sem α} {Q : α → Shared → Prop} {E : Value → Shared → Prop} {s : Shared} (x : 0 < s.toks) (h : wpAny M A t Q (fun e s' => 0 < s'.toks → E e s') s) : wpAny M A t Q E s :=
  wpAny_toks x (wpAny_mono h (fun _ _ k _ => k) fun _ _ k => k)
theorem sim_MSX (ok : cx.Ok) {okB : Bool} {o : Expr} {name : Str} {bid : String} {apos pos : Pos} {es : List Expr} {mo : PM V} {ma : PM (List V)} {f : List V → PM V} (slot : Slot "str" name bid) (hty : typeOf (.builtin bid) = pure (.type "method_descriptor"))
    (hp : PC cx (.builtin bid) f) (hfb : ∀ b vs st v st', f (.byt b :: vs) st ≠ .ok v st') (ho : SimV cx (eval o cx.env) mo) (ha : SimL cx pos es ma) (hplain : (backTo pos (starEach es cx.env)).any (·.1) = false) (hb : plainBase o = true) (hl : Nat.ble 30 es.length = false) (hline : (apos.endLine == pos.line) = true) :
    SimV cx (eval (.Call (.Attribute o name apos) es [] pos) cx.env) (PM.bind mo fun v => PM.bind (isStrX okB v) fun _ => PM.bind ma fun vs => f (v :: vs)) := by
  intro ρ hid st s x v st' h
  obtain ⟨a, st1, e1, h1⟩ := bind_ok h
  obtain ⟨u, st2, e2, h2⟩ := bind_ok h1
  obtain ⟨vs, st3, e3, h3⟩ := bind_ok h2
  clear h h1 h2
  refine MethodCall_ (wp_seq (ho ρ hid st s x a st1 e1) fun A s1 ρ1 p1 r1 v1 => ?_) (meth_form hb hplain hl hline)
  unfold isStrX at e2
  split at e2
  · cases e2
    obtain ⟨t, rfl⟩ := vr_str v1
    exact getMethod_builtin (typeIs_str _ _ _) PySem.F.plainAttrs_str slot hty (fun a e => by cases e) (wp_seq (call_with ok ha keep_builtin hp hplain r1 (first := [_]) (.cons v1 .nil) e3 h3) fun W s2 ρ2 p2 r2 v2 => ⟨ρ2, pre_trans p1 p2, r2, v2⟩)
  · cases e2
  · cases e2
  · split at e2 <;> cases e2
  · exact absurd h3 (hfb _ _ _ _ _)
  · cases e2
/-- no such method -/
theorem x_miss (ok : cx.Ok) {name : Str} {pl : Sem Bool} (m1 : typeLookup (.type "int") name = pure none) (m2 : typeLookup (.type "NoneType") name = pure none) (m3 : typeLookup (.type "list") name = pure none) (hname : (["__module__", "__name__", "__qualname__", "__doc__", "__annotations__"] : List Str).contains name = false) (hsz : name.length + 100 ≤ sizeLine)
    {okB : Bool} {ρ : Map} {hid : Hd} {st st' : St} {s : Shared} (x : Rel cx ρ hid st s) {a : V} {A : Value} (v1 : VR ρ a A) {k : String} (h : isStrX okB a st = .exc k st') {Q : Value × List Value → Shared → Prop} : wpAny cx.M cx.A (getMethod A name pl) Q (XP EX cx ρ hid st' k) s := by
  have fin : ∀ h' tk e, Heap.NewExcOf s.heap h' e "AttributeError" → 0 < tk → XP EX cx ρ hid st "AttributeError" (.ref e) { s with heap := h', toks := tk } := fun h' tk e n htk => ⟨e, ρ, rfl, pre_refl ρ, ex_new ok x n htk⟩
  unfold isStrX at h
  split at h
  · cases h
  · cases h
    obtain ⟨t, rfl⟩ := vr_int v1
    exact getMethod_miss (T := "int") (by exact rfl) PySem.F.plainAttrs_int m1 (lfE x.pos (getAttr0_int m1 ok.handled (fun h' tk e n htk => fin h' tk e n htk) hsz))
  · cases h
    cases vr_none v1
    exact getMethod_miss (T := "NoneType") (by exact rfl) PySem.F.plainAttrs_NoneType m2 (lfE x.pos (getAttr0_none m2 ok.handled (fun h' tk e n htk => fin h' tk e n htk) hsz))
  · split at h
    · rename_i i _ xs hi
      cases h
      obtain ⟨p, hp', rfl⟩ := vr_obj v1
      obtain ⟨fz, led, m, mloc, r'⟩ := id x
      obtain ⟨Xs, n, g1, g2⟩ := r'.list_at hi hp'
      have hg := (r'.N _ g2).1
      exact getMethod_miss (T := "list") (by exact ⟨_, hg, rfl⟩) PySem.F.plainAttrs_list m3 (lfE x.pos (getAttr0_list hg rfl rfl rfl m3 hname ok.handled (fun h' tk e n htk => fin h' tk e n htk) hsz))
    · cases h
  · split at h <;> cases h
  · cases h
theorem pc_splitX : PC cx (.builtin "str.split") cSplitX := by
  intro ρ hid st s x vs Vs hv v st' h
  unfold cSplitX at h
  split at h
  · cases h
  · exact pc_split ρ hid st s x _ Vs hv v st' h
  · cases h
theorem pc_lowerX : PC cx (.builtin "str.lower") cLowerX := by
  intro ρ hid st s x vs Vs hv v st' h
  unfold cLowerX at h
  split at h
  · exact pc_lower ρ hid st s x _ Vs hv v st' h
  · cases h
theorem splitX_byt (b : Array UInt8) (vs : List V) (st : St) (v : V) (st' : St) : cSplitX (.byt b :: vs) st ≠ .ok v st' := fun h => by
  rcases vs with _ | ⟨w, _ | ⟨w2, r⟩⟩
  · change Res.fail = _ at h; cases h
  · cases w <;> first | (change Res.fail = _ at h; cases h) | (change Res.exc _ _ = _ at h; cases h)
  · cases w <;> (change Res.fail = _ at h; cases h)
theorem lowerX_byt (b : Array UInt8) (vs : List V) (st : St) (v : V) (st' : St) : cLowerX (.byt b :: vs) st ≠ .ok v st' := fun h => by
  change Res.fail = _ at h
  cases h
theorem nox_lower1 (l : List Nat) (r : List V) : NoX (cLower (.str l :: r)) := fun st k st' h => by
  cases r with
  | nil =>
    change (if l.length ≤ 1000000 ∧ l.all lowKnown = true then Res.ok (V.str (l.map lowP)) st else Res.fail) = _ at h
    split at h <;> cases h
  | cons y r => change Res.fail = _ at h; cases h
theorem nox_split1 (l : List Nat) (r : List V) : NoX (cSplit (.str l :: r)) := fun st k st' h => by
  have fl : ∀ {x : PM V}, x st = Res.fail → x st ≠ .exc k st' := fun e q => by rw [e] at q; cases q
  rcases r with _ | ⟨w, _ | ⟨w2, r⟩⟩
  · exact fl rfl h
  · cases w with
    | str cs =>
      rcases cs with _ | ⟨c, _ | ⟨c2, cs⟩⟩
      · exact fl rfl h
      · change (if l.length ≤ 1000000 then alloc (.list ((splitL c l).map V.str)) st else Res.fail) = _ at h
        split at h <;> cases h
      · exact fl rfl h
    | _ => exact fl rfl h
  · cases w with
    | str cs => rcases cs with _ | ⟨c, _ | ⟨c2, cs⟩⟩ <;> exact fl rfl h
    | _ => exact fl rfl h
theorem nox_lowerX (vs : List V) : NoX (cLowerX vs) := fun st k st' h => by
  unfold cLowerX at h
  split at h
  · exact nox_lower1 _ _ _ _ _ h
  · cases h
theorem pcx_split (ok : cx.Ok) {ρ : Map} {hid : Hd} {st st' : St} {s : Shared} (x : Rel cx ρ hid st s) {b : Array UInt8} {vs : List V} {Vs : List Value} (hv : VRs ρ (.byt b :: vs) Vs) {k : String} (h : cSplitX (.byt b :: vs) st = .exc k st') :
    wpAny cx.M cx.A (call (.builtin "bytes.split") Vs) (fun _ _ => False) (XP EX cx ρ hid st' k) s := by
  have key : ∃ l, vs = [.str l] ∧ k = "TypeError" ∧ st' = st := by
    rcases vs with _ | ⟨w, _ | ⟨w2, r⟩⟩
    · change Res.fail = _ at h; cases h
    · cases w <;> first | (change Res.fail = _ at h; cases h; done) | (change Res.exc _ _ = _ at h; cases h; exact ⟨_, rfl, rfl, rfl⟩)
    · cases w <;> (change Res.fail = _ at h; cases h)
  obtain ⟨l, rfl, rfl, rfl⟩ := key
  · obtain ⟨A, B, rfl, a1, a2⟩ := vrs_two hv
    obtain ⟨u, rfl⟩ := vr_str a2
    cases a1
    exact lfE x.pos (call_meets slot_bytes_split (typeIs_bytes _ _ _) entry_bytes_split (args_bytes_split _ _) (meets_bytes_split _ _ _ _) ⟨ok.handled, fun h' tk e n htk => ⟨e, ρ, rfl, pre_refl ρ, ex_new ok x n.of htk⟩⟩)
theorem x_split (ok : cx.Ok) {o : Expr} {apos pos : Pos} {es : List Expr} {mo : PM V} {ma : PM (List V)} (ho : SimV cx (eval o cx.env) mo) (xo : SimX EX cx (eval o cx.env) mo) (ha : SimL cx pos es ma) (hma : NoX ma) (hplain : (backTo pos (starEach es cx.env)).any (·.1) = false) (hb : plainBase o = true) (hl : Nat.ble 30 es.length = false) (hline : (apos.endLine == pos.line) = true) :
    SimX EX cx (eval (.Call (.Attribute o "split" apos) es [] pos) cx.env) (PM.bind mo fun v => PM.bind (isStrX true v) fun _ => PM.bind ma fun vs => cSplitX (v :: vs)) := by
  intro ρ hid st s x k st' h
  rcases bind_exc h with e | ⟨a, st1, e1, h1⟩
  · exact MethodCall_ (wx (pre_refl _) (xo ρ hid st s x k st' e)) (meth_form hb hplain hl hline)
  refine MethodCall_ (wp_seq (ho ρ hid st s x a st1 e1) fun A s1 ρ1 p1 r1 v1 => ?_) (meth_form hb hplain hl hline)
  rcases bind_exc h1 with e | ⟨u, st2, e2, h2⟩
  · refine wpAny_mono (x_miss ok miss_int_split miss_none_split miss_list_split (by decide) (by decide) r1 v1 e (Q := fun _ _ => False)) (fun _ _ z => z.elim) fun v s' ⟨e, ρ', q1, q2, q3⟩ => ⟨e, ρ', q1, pre_trans p1 q2, q3⟩
  rcases bind_exc h2 with e | ⟨vs, st3, e3, h3⟩
  · exact absurd e (hma _ _ _)
  unfold isStrX at e2
  split at e2
  · exact absurd h3 (nox_split1 _ _ _ _ _)
  · cases e2
  · cases e2
  · split at e2 <;> cases e2
  · rename_i b
    cases e2
    cases v1
    refine getMethod_builtin (typeIs_bytes _ _ _) FB.plainAttrs_bytes slot_bytes_split type_bytes_split (fun a e => by cases e) (wx p1 ?_)
    refine callWith_of (P := cx.K.In) (by rw [hplain]; rfl) keep_builtin (evalArgs_of hplain (wp_seq (ha ρ1 hid _ s1 r1 vs st3 e3) fun Vs s2 ρ2 p2 r2 v2 => ⟨?_, wx p2 (pcx_split ok r2 (.cons (.byt b _) v2) h3)⟩))
    obtain ⟨fz, led, m, mloc, r⟩ := r2
    exact ok.kin.keeps r.F.keep
  · cases e2
theorem x_lower (ok : cx.Ok) {o : Expr} {apos pos : Pos} {es : List Expr} {mo : PM V} {ma : PM (List V)} (ho : SimV cx (eval o cx.env) mo) (xo : SimX EX cx (eval o cx.env) mo) (hma : NoX ma) (hplain : (backTo pos (starEach es cx.env)).any (·.1) = false) (hb : plainBase o = true) (hl : Nat.ble 30 es.length = false) (hline : (apos.endLine == pos.line) = true) :
    SimX EX cx (eval (.Call (.Attribute o "lower" apos) es [] pos) cx.env) (PM.bind mo fun v => PM.bind (isStrX false v) fun _ => PM.bind ma fun vs => cLowerX (v :: vs)) := by
  intro ρ hid st s x k st' h
  rcases bind_exc h with e | ⟨a, st1, e1, h1⟩
  · exact MethodCall_ (wx (pre_refl _) (xo ρ hid st s x k st' e)) (meth_form hb hplain hl hline)
  refine MethodCall_ (wp_seq (ho ρ hid st s x a st1 e1) fun A s1 ρ1 p1 r1 v1 => ?_) (meth_form hb hplain hl hline)
  rcases bind_exc h1 with e | ⟨u, st2, e2, h2⟩
  · refine wpAny_mono (x_miss ok miss_int_lower miss_none_lower miss_list_lower (by decide) (by decide) r1 v1 e (Q := fun _ _ => False)) (fun _ _ z => z.elim) fun v s' ⟨e, ρ', q1, q2, q3⟩ => ⟨e, ρ', q1, pre_trans p1 q2, q3⟩
  rcases bind_exc h2 with e | ⟨vs, st3, e3, h3⟩
  · exact absurd e (hma _ _ _)
  · exact absurd h3 (nox_lowerX _ _ _ _)
theorem x_MI (ok : cx.Ok) (g : Addr) {P : EP} {o : Expr} {n : String} {apos pos : Pos} {es : List Expr} {mo : PM V} {ma : PM (List V)} {f : List V → PM V} (hg : plainGet cx.K cx.C (Str.ofString n) = true)
    (hf : findIn cx.K (.ref cx.C) (Str.ofString n) = some (some (.ref g))) (ht : isFn cx.K (.ref g) = true) (hk : keepIn cx.K (.ref g) = true)
    (hp : PCX P cx (.ref g) f) (ho : SimV cx (eval o cx.env) mo) (hmo : NoX mo) (ha : SimL cx pos es ma) (hma : NoX ma) (hplain : (backTo pos (starEach es cx.env)).any (·.1) = false) (hb : plainBase o = true) (hl : Nat.ble 30 es.length = false) (hline : (apos.endLine == pos.line) = true) :
    SimX P cx (eval (.Call (.Attribute o (Str.ofString n) apos) es [] pos) cx.env) (PM.bind mo fun v => PM.bind (isInst n v) fun _ => PM.bind ma fun vs => f (v :: vs)) := x_MethI ok hg hf ht hk hp ho hmo ha hma hplain (meth_form hb hplain hl hline)
theorem sim_bytes {b : List UInt8} {k : Nat} {pos : Pos} : SimV cx (eval (.Constant (.bytes b) k pos) cx.env) (PM.pure (.byt b.toArray)) := by
  intro ρ hid st s r v st' h; cases h
  exact fun _ _ _ => ⟨ρ, pre_refl ρ, r.toks _, .byt _ s.toks⟩
end
end Mine
set_option linter.unusedVariables false
namespace Mine
section
variable {cx : Cx}
/-- a comprehension up to its filled list -/
theorem comp_runG (ok : cx.Ok) {sa : Addr} {xs : List Int} (hO : Old cx sa xs) {elt iter : Expr} {n : String} {px : Pos} {ifs : List Expr} {scope : Scope} {fr : List String} {pos cpos : Pos} {mi : PM V} {mc : PM Bool} {me : PM V} (c : CompOk scope cx.env fr) (hi : SimV cx (eval iter cx.env) mi)
    (hx : scope.names.lookup (Str.ofString n) = some .local)
    (hc : ∀ C fm, (cx.comp scope C fm).Ok → Sim (cx.comp scope C fm) (Tests (cx.comp scope C fm).env ifs) mc BR) (he : ∀ C fm, (cx.comp scope C fm).Ok → SimV (cx.comp scope C fm) (eval elt (cx.comp scope C fm).env) me)
    (hs : ∀ x, foldedSetIterable iter cx.env x = pure x) {use : Option (Value → Sem Unit)} {Q : Value → Shared → Prop}
    {ρ : Map} {hid : Hd} {st st1 st2 st3 : St} {s : Shared} (x : Rel cx ρ hid st s) {a : V} {p : Src × List V} {vs : List V} (e1 : mi st = .ok a st1) (e2 : iterG sa xs a st1 = .ok p st2) (e3 : inScope fr (compM p.1 (setL n) mc me [] p.2) st2 = .ok vs st3)
    (k : ∀ D C oC es ep Ys k s' ρ', ρ <+: ρ' → VRs ρ' vs Ys → Rel cx ρ' ((hid.cons (D, listObj Ys k)).cons (C, oC)) st3 s' → oC.data = .dict es ep → StrKeys es → (∀ q ∈ hid.h, q.1 ≠ D) → (∀ q ∈ (hid.cons (D, listObj Ys k)).h, q.1 ≠ C) →
      compPost cx.M cx.A (fun _ _ => False) use Q (.ref D) C (.ok .next) s') :
    wpAny cx.M cx.A (comprehension (.ListComp elt [⟨.Name (Str.ofString n) px, iter, ifs, 0⟩] scope pos) scope cx.env cpos (newList []) false (eval iter cx.env) use) Q (fun _ _ => False) s := by
  have hcell : ∀ y ∈ scope.names, y.2 ≠ .cell := fun y hy => by simpa using List.all_eq_true.mp c.nocell y hy
  refine wpAny_comprehension_free (g := ⟨.Name (Str.ofString n) px, iter, ifs, 0⟩) (gs := []) rfl hs (closureFor_eq c.free) c.kind (fun y hy hl => by have := List.all_eq_true.mp c.names y hy; rw [hl] at this; simpa using this) ?_
  obtain ⟨rfl, rfl, rfl⟩ := iterG_ok e2
  refine wp_seq (hi ρ hid st s x _ _ e1) fun A1 s1 ρ1 p1 r1 v1 => ?_
  cases vr_glob v1
  obtain ⟨fz0, led0, m0, mloc0, r0⟩ := id r1
  obtain ⟨Vs0, g1, g2⟩ := id hO
  refine wpAny_pyIter_list (isList_keep g1 r0.F.keep) ?_
  obtain ⟨r2, hI⟩ := r1.hide (ob := { cls := .type "list_iterator", data := .fields #[.ref sa, .int 0 0] }) (tk := s1.toks) rfl
  have hat : (s1.heap.push { cls := .type "list_iterator", data := .fields #[.ref sa, .int 0 0] }).IsListIter s1.heap.objs.size sa 0 := ⟨_, Heap.get?_push_size _ rfl, rfl, rfl⟩
  have It : ∀ C m, Iter (cx.comp scope C m) ρ1 none (xs.map V.int) s1.heap.objs.size (fun i h => h.IsListIter s1.heap.objs.size sa i) := fun C m => iter_old (cx := cx.comp scope C m) hO
  have It0 : Iter cx ρ1 none (xs.map V.int) s1.heap.objs.size (fun i h => h.IsListIter s1.heap.objs.size sa i) := iter_old hO
  obtain ⟨s2, hs2⟩ : ∃ s2 : Shared, s2 = { s1 with heap := s1.heap.push { cls := .type "list_iterator", data := .fields #[.ref sa, .int 0 0] }, toks := s1.toks } := ⟨_, rfl⟩
  obtain ⟨o, ho⟩ : ∃ o : Obj, o = { cls := .type "list_iterator", data := .fields #[.ref sa, .int 0 0] } := ⟨_, rfl⟩
  obtain ⟨I, hIdef⟩ : ∃ I, I = s1.heap.objs.size := ⟨_, rfl⟩
  rw [show ({ s1 with heap := s1.heap.push { cls := .type "list_iterator", data := .fields #[.ref sa, .int 0 0] } } : Shared) = s2 from hs2.symm]
  rw [← hs2, ← ho, ← hIdef] at r2
  rw [← hIdef] at hI It It0 hat ⊢
  have hat : s2.heap.IsListIter I sa 0 := by rw [hs2]; exact hat
  obtain ⟨At, hAt⟩ : ∃ At : Nat → Heap → Prop, At = fun i h => h.IsListIter I sa i := ⟨_, rfl⟩
  rw [← hAt] at It It0
  have hat : At 0 s2.heap := by rw [hAt]; exact hat
  clear hAt ho hIdef hs2
  refine wpAny_newObj_type ?_ (by show (0 : Nat) ≤ sizeLine; exact Nat.zero_le _)
  obtain ⟨r3, hD⟩ := r2.hide (ob := listObj [] 0) (tk := s2.toks) rfl
  generalize hDdef : s2.heap.objs.size = D at r3 hD
  have hDI : I ≠ D := hD (I, o) (.head _)
  have hDh : ∀ q ∈ hid.h, q.1 ≠ D := fun q hq => hD q (.tail _ hq)
  have at3 : At 0 (s2.heap.push (listObj [] 0)) := It0.frame 0 s2.heap _ hat fun ob hob => Heap.get?_push_of_some _ hob
  refine wpAny_newFunctionEnv hcell (by intro y hy; simp at hy) (fun h' hns hsb => ?_) c.kind
  obtain ⟨fz, led, m, mloc, r3⟩ := r3
  have B3 := r3.B
  generalize hH3 : s2.heap.push (listObj [] 0) = H3 at *
  have hfr := news_fresh r3.N
  generalize hCdef : H3.objs.size = C at *
  obtain ⟨oC, es, ep, hoC, hdC, hkC, hfC⟩ := hns
  have hCL : C ≠ cx.L := by
    obtain ⟨oL, _, _, hL, _⟩ := r3.F.ns
    have := Heap.lt_size hL
    intro e
    rw [← e, ← hCdef] at this
    exact Nat.lt_irrefl _ this
  have hC0 : cx.h₀.get? C = none := by
    cases q : cx.h₀.get? C with
    | none => rfl
    | some o' =>
      have := Heap.lt_size (r3.F.keep _ _ q)
      rw [hCdef] at this
      exact absurd this (Nat.lt_irrefl _)
  have old : ∀ b ob, H3.get? b = some ob → h'.get? b = some ob := fun b ob e => by
    have hne : b ≠ C := by
      intro q
      have := Heap.lt_size e
      rw [q, hCdef] at this
      exact Nat.lt_irrefl _ this
    exact (hsb.2 b hne).trans (Heap.get?_push_of_some _ e)
  have F4 : Fr cx.h₀ cx.L h' m := ⟨r3.F.ns.keeps old, fun b ob e => old b ob (r3.F.keep b ob e), r3.F.above⟩
  have N4 : News cx.h₀ cx.L h' ((C, oC) :: led) := fun q hq => by
    rcases List.mem_cons.mp hq with rfl | hq
    · exact ⟨hoC, hCL, hC0⟩
    · have := r3.N q hq
      exact ⟨old _ _ this.1, this.2⟩
  have B4 := bear_comp_in B3 c (C := C) (oC := oC) hfr hCL hdC hkC (fun y => by rw [hfC]; rfl)
  -- what is hidden within
  have nocl : ∀ q ∈ ((hid.cons (I, o)).cons (D, listObj [] 0)).h, ∀ y ∈ clOf scope cx.env, q.1 ≠ y.2 := fun q hq y hy => by
    obtain ⟨z1, _⟩ := clOf_mem (show (y.1, y.2) ∈ _ from hy)
    exact (B3.csep y.1 y.2 z1).1 q hq
  have inC : ∀ q ∈ ((hid.cons (I, o)).cons (D, listObj [] 0)).h, q ∈ (hidC ρ1 fz led (clOf scope cx.env)).h := fun q hq => mem_hidC.mpr ⟨B3.hin q hq, B3.hsep q hq, fun r hr => B3.hfz q hq r hr, nocl q hq⟩
  let H0 : Hd := ⟨(hidC ρ1 fz led (clOf scope cx.env)).h.filter (fun q => decide (q.1 ≠ I) && decide (q.1 ≠ D)), fz⟩
  have hH0 : ∀ q ∈ H0.h, q ∈ (hidC ρ1 fz led (clOf scope cx.env)).h ∧ q.1 ≠ I ∧ q.1 ≠ D := fun q hq => by
    have := List.mem_filter.mp hq
    rw [Bool.and_eq_true, decide_eq_true_eq, decide_eq_true_eq] at this
    exact this
  have R4 : Rel (cx.comp scope C m) ρ1 ((H0.cons (D, listObj [] 0)).cons (I, o)) ⟨fun k => if k ∈ fr then st2.loc k else none, st2.sto⟩ { s2 with heap := h' } := by
    refine Rel.hsub (hid := hidC ρ1 fz led (clOf scope cx.env)) ⟨fz, _, m, _, F4, N4, B4, r3.gens, r3.os, r3.tk⟩ (fun q hq => ?_) fun q hq => hq
    rcases List.mem_cons.mp hq with rfl | hq
    · exact inC _ (.tail _ (.head _))
    · rcases List.mem_cons.mp hq with rfl | hq
      · exact inC _ (.head _)
      · exact (hH0 q hq).1
  have okc := comp_ok ok c C m
  unfold inScope at e3
  split at e3
  · rename_i vs' st4 e4
    split at e3
    · rename_i hloc
      cases e3
      have at4 : At 0 h' := It0.frame 0 H3 h' at3 fun ob hob => old _ _ hob
      have loop : ∀ s4 : Shared, s4 = { s2 with heap := h', toks := s2.toks + ([] : List (Str × Value)).length } →
          codeAny cx.M cx.A (.compLoop (.ListComp elt [⟨.Name (Str.ofString n) px, iter, ifs, 0⟩] scope pos) 0 (.ref I) (.ref D) (compEnvC scope (clOf scope cx.env) C cx.env)) (compPost cx.M cx.A (fun _ _ => False) use Q (.ref D) C) s4 := by
        rintro s4 rfl
        refine comp_turns (cx := cx.comp scope C m) okc (sim_target okc (.inl (lookup_relabel_local hx))) (hc C m okc) (he C m okc) (It _ _) (fun q hq => (hH0 q hq).2.1) (fun q hq => (hH0 q hq).2.2) (Ne.symm hDI) R4 at4 e4 fun s5 ρ5 Ys kk p5 v5 r5 => ?_
        obtain ⟨fz5, led5, m5, mloc5, r5⟩ := r5
        have B00 := (B3.drop (fun q hq => hD q hq)).drop (fun q hq => hI q hq)
        obtain ⟨rfl, oC5, es5, ep5, d5, k5, mem5, B5⟩ := bear_comp_out (D := D) (oD := listObj Ys kk) ok B00 c hCL p5 r5.B (.head _) (fun q hq => by
            have := List.mem_filter.mp (List.mem_filter.mp hq).1
            exact of_decide_eq_true this.2) (fun q hq hp hf hy => by
            have h1 := List.mem_filter.mp hq
            have h2 := List.mem_filter.mp h1.1
            refine .tail _ (List.mem_filter.mpr ⟨mem_hidC.mpr ⟨h2.1, hp, hf, hy⟩, ?_⟩)
            rw [Bool.and_eq_true]
            exact ⟨h1.2, h2.2⟩) (fun q hq => hq) hloc
        refine k D C oC5 es5 ep5 Ys kk s5 ρ5 (pre_trans p1 p5) v5 ⟨fz5, led5, m5, mloc, r5.F, r5.N, B5, r5.gens, r5.os, r5.tk⟩ d5 k5 hDh fun q hq => ?_
        have := B5.nd
        intro e
        rcases List.mem_cons.mp hq with rfl | hq
        · have h1 := B5.hin _ (.tail _ (.head _))
          have h2 := B5.hin _ (.head _)
          have : listObj Ys kk = oC5 := nodup_mem B5.nd (e ▸ h1) h2
          rw [← this] at d5
          cases d5
        · have := B3.hin q (.tail _ (.tail _ hq))
          exact hfr q this e
      exact codeAny_compStart_list (loop _ rfl) (It0.self 0 _ at4 cx.A _ _ (loop _ rfl))
    · cases e3
  · cases e3
/-- the comprehension's program, over the script -/
noncomputable def compVG (sa : Addr) (xs : List Int) (fr : List String) (n : String) (mi : PM V) (mc : PM Bool) (me : PM V) : PM V := PM.bind mi fun a => PM.bind (iterG sa xs a) fun p => PM.bind (inScope fr (compM p.1 (setL n) mc me [] p.2)) fun vs => alloc (.list vs)
theorem sim_AssignCompG (ok : cx.Ok) {sa : Addr} {xs : List Int} (hO : Old cx sa xs) {elt iter : Expr} {n y : String} {px py spos : Pos} {ifs : List Expr} {scope : Scope} {fr : List String} {pos : Pos} {mi : PM V} {mc : PM Bool} {me : PM V} (c : CompOk scope cx.env fr) (hi : SimV cx (eval iter cx.env) mi)
    (hx : scope.names.lookup (Str.ofString n) = some .local)
    (hc : ∀ C fm, (cx.comp scope C fm).Ok → Sim (cx.comp scope C fm) (Tests (cx.comp scope C fm).env ifs) mc BR) (he : ∀ C fm, (cx.comp scope C fm).Ok → SimV (cx.comp scope C fm) (eval elt (cx.comp scope C fm).env) me)
    (hs : ∀ x, foldedSetIterable iter cx.env x = pure x) (hk : Asg cx y)
    (hsw : swapsWith (.ListComp elt [⟨.Name (Str.ofString n) px, iter, ifs, 0⟩] scope pos) (some (.Name (Str.ofString y) py)) spos.line cx.env = pure true) :
    SimS cx (.Assign [.Name (Str.ofString y) py] (.ListComp elt [⟨.Name (Str.ofString n) px, iter, ifs, 0⟩] scope pos) spos) (PM.bind (compVG sa xs fr n mi mc me) fun v => PM.bind (setL y v) fun _ => PM.pure .next) := by
  intro ρ hid st s x v st' h0
  obtain ⟨w, st5, h, h5⟩ := bind_ok h0
  obtain ⟨a, st1, e1, h1⟩ := bind_ok h
  obtain ⟨p, st2, e2, h2⟩ := bind_ok h1
  obtain ⟨vs, st3, e3, h3⟩ := bind_ok h2
  cases h3
  cases h5
  rw [exec_Assign_Name_used _ _ _ _ hsw]
  refine wpAny_bind (wpAny_standAt (wpAny_bind ?_))
  show wpAny _ cx.A (do let _ ← comprehension (.ListComp elt [⟨.Name (Str.ofString n) px, iter, ifs, 0⟩] scope pos) scope cx.env _ (newList []) false (eval iter cx.env) (some (assign (.Name (Str.ofString y) py) cx.env))) _ _ s
  refine wpAny_bind (wpAny_mono (comp_runG ok hO c hi hx hc he hs (use := some (assign (.Name (Str.ofString y) py) cx.env)) (Q := fun _ s' => ∃ ρ', ρ <+: ρ' ∧ Rel cx ρ' hid _ s' ∧ FR ρ' .next .next) x e1 e2 e3 fun D C oC es ep Ys k s' ρ' pp vv rr hd hkk hD hC => ?_)
    (fun _ s' hq => wpAny_pure (wpAny_pure hq)) fun _ _ e => e)
  show wpAny _ cx.A (assign (.Name (Str.ofString y) py) cx.env (.ref D)) _ _ _
  have rs : Rel cx ρ' ((hid.cons (C, oC)).cons (D, listObj Ys k)) st3 s' := rr.hsub (fun q hq => by
    rcases List.mem_cons.mp hq with rfl | hq
    · exact .tail _ (.head _)
    · rcases List.mem_cons.mp hq with rfl | hq
      · exact .head _
      · exact .tail _ (.tail _ hq)) fun q hq => hq
  obtain ⟨r2, v2⟩ := rs.enterH (fun q hq => by
    rcases List.mem_cons.mp hq with rfl | hq
    · exact Ne.symm (hC _ (.head _))
    · exact hD q hq) vv
  refine wpAny_assign_Name (store_name ok r2 v2 hk fun s'' r'' => ?_)
  obtain ⟨fz, led, m, mloc, rr'⟩ := id r''
  refine ⟨_, ⟨oC, es, ep, (rr'.N _ (rr'.B.hin _ (.head _))).1, hd, hkk, fun _ => rfl⟩, fun h' hs' => ?_⟩
  exact ⟨_, pre_trans pp (List.prefix_append _ _), r''.dropI (tk := s''.toks) (fun q hq => hC q (.tail _ hq)) (fun b ob hb e => (hs'.2 b hb).trans e), .next⟩
end
end Mine
namespace Mine
set_option maxRecDepth 100000
theorem ae_exc : isSubtype (.type "AttributeError") (.type "BaseException") = pure true := by rw [isSubtype_type]; kernel_rfl
theorem ae_nt : isSubtype (.type ((Manifest.find? "AttributeError").elim "type" fun x => x.metatype)) (.type "tuple") = pure false := by
  have e : ((Manifest.find? "AttributeError").elim "type" fun x => x.metatype) = "type" := by kernel_rfl
  rw [e, isSubtype_type]; kernel_rfl
theorem te_nt : isSubtype (.type ((Manifest.find? "TypeError").elim "type" fun x => x.metatype)) (.type "tuple") = pure false := by
  have e : ((Manifest.find? "TypeError").elim "type" fun x => x.metatype) = "type" := by kernel_rfl
  rw [e, isSubtype_type]; kernel_rfl
theorem te_exc : isSubtype (.type "TypeError") (.type "BaseException") = pure true := by rw [isSubtype_type]; kernel_rfl
theorem te_te : isSubtype (.type "TypeError") (.type "TypeError") = pure true := by rw [isSubtype_type]; kernel_rfl
theorem te_ae : isSubtype (.type "TypeError") (.type "AttributeError") = pure false := by rw [isSubtype_type]; kernel_rfl
theorem look_ifX {p n : String} {v : V} {r : List (String × V)} : ((p, v) :: r).lookup n = if n = p then some v else r.lookup n := by
  rw [List.lookup_cons]
  by_cases h : n = p
  · simp [h]
  · have : (n == p) = false := by simpa using h
    simp [h, this]
theorem look1 {a k : String} {x v : V} (h : [(a, x)].lookup k = some v) : k = a ∧ v = x := by
  rw [look_ifX] at h
  split at h
  · rename_i e; cases h; exact ⟨e, rfl⟩
  · cases h
theorem look2 {a b k : String} {x y v : V} (h : [(a, x), (b, y)].lookup k = some v) : (k = a ∧ v = x) ∨ (k = b ∧ v = y) := by
  rw [look_ifX] at h
  split at h
  · rename_i e; cases h; exact .inl ⟨e, rfl⟩
  · exact .inr (look1 h)
/-- identity, octets too -/
def isPX : V → V → Option Bool
  | .byt _, .none => some false
  | a, b => isP a b
def pIsX (a b : V) : PM V := fun st => match isPX a b with | some c => .ok (.bool c) st | none => .fail
theorem p_isX {cx : Cx} : P2 cx (compareOp .Is) pIsX VR := by
  intro ρ hid st s x a A b B ha hb v st' h
  unfold pIsX at h
  split at h
  · rename_i c e
    cases h
    unfold isPX at e
    split at e
    · cases ha; cases vr_none hb; cases e
      exact wpAny_bind (wpAny_pure (a := false) (wpAny_pure (fin_same x (.bool _))))
    · exact wpAny_bind (same_sem ha hb e (wpAny_pure (fin_same x (.bool _))))
  · cases h
end Mine
namespace Mine
noncomputable def applX_08_s1 : PM Fl := (PM.bind (PM.bind (getL "agent") fun v => PM.bind (isStrX false v) fun _ => PM.bind (okOnly (PM.pure [])) fun vs => cLowerX (v :: vs)) fun v => PM.bind (setL "agent" v) fun _ => PM.pure .next)
noncomputable def applX_08_s2 : PM Fl := (okOnly (iteP (PM.bind (getL "agent") fun a => PM.bind (getL "useragent") fun b => PM.bind (pIn a b) pTruthy) (PM.bind (PM.pure (.bool true)) fun v => PM.pure (.ret v)) (PM.pure .next)))
noncomputable def applX_08_f3 : PM Fl := (iteP (okOnly (PM.bind (getL "agent") fun a => PM.bind (PM.pure (.str (cps "*"))) fun b => PM.bind (pNe a b) pTruthy)) (seqF applX_08_s1 applX_08_s2) (PM.pure .next))
noncomputable def applX_08_s4 : PM Fl := (okOnly (iteP (PM.bind (getL "useragent") fun a => PM.bind (PM.pure .none) fun b => PM.bind (pIsX a b) pTruthy) (PM.bind (PM.bind (PM.pure (.str (cps "*"))) fun a => PM.bind (PM.bind (getL "self") (gAttr "useragents")) fun b => pIn a b) fun v => PM.pure (.ret v)) (PM.pure .next)))
noncomputable def applX_08_s5 : PM Fl := (PM.bind (PM.bind (PM.bind (PM.bind (getL "useragent") fun v => PM.bind (isStrX true v) fun _ => PM.bind (okOnly (PM.bind (PM.pure (.str (cps "/"))) fun v => PM.bind (PM.pure []) fun vs => PM.pure (v :: vs))) fun vs => cSplitX (v :: vs)) fun o => PM.bind (PM.pure (.int 0)) fun i => pItem o i) fun v => PM.bind (isStrX false v) fun _ => PM.bind (okOnly (PM.pure [])) fun vs => cLowerX (v :: vs)) fun v => PM.bind (setL "useragent" v) fun _ => PM.pure .next)
noncomputable def applX_08_s6 : PM Fl := (PM.bind (okOnly (PM.bind (getL "self") (gAttr "useragents"))) fun v => PM.bind (iterOf v) fun p => loopF p.1 (fun x => PM.bind ((setL "agent") x) fun _ => applX_08_f3) p.2)
noncomputable def applX_08_s7 : PM Fl := (okOnly (PM.bind (PM.pure (.bool false)) fun v => PM.pure (.ret v)))
noncomputable def applX08 : PM Fl := (seqF applX_08_s4 (seqF applX_08_s5 (seqF applX_08_s6 applX_08_s7)))
noncomputable def told_08_t1 : PM Fl := (PM.bind (PM.bind (getL "one") fun v => PM.bind (isInst "applies_to" v) fun _ => PM.bind (okOnly (PM.bind (getL "name") fun v => PM.bind (PM.pure []) fun vs => PM.pure (v :: vs))) fun vs => (callP ["self", "useragent"] applX08) (v :: vs)) fun v => PM.pure (.ret v))
noncomputable def told08 : PM Fl := (tryP told_08_t1 [("AttributeError", (.str (cps "no such thing"))), ("TypeError", (.str (cps "not of this kind")))])
noncomputable def l08c1 (a : Addr) (xs : List Int) : PM V := compVG a xs [] "x" (getL "script") (PM.pure true) (PM.bind (getL "x") fun a => PM.bind (PM.pure (.int 13)) fun b => pMod a b)
noncomputable def l08c2 : PM V := compV ["agents"] "kind" (getL "left") (PM.pure true) (PM.bind (getL "agents") fun o => PM.bind (getL "kind") fun i => pItem o i)
noncomputable def l08c3 : PM V := compV ["fits"] "kind" (getL "left") (orP (PM.bind (getL "kind") fun a => PM.bind (PM.pure (.int 10)) fun b => PM.bind (pGt a b) pTruthy) (orP (PM.bind (getL "kind") fun a => PM.bind (getL "fits") fun b => PM.bind (pIn a b) pTruthy) (PM.pure false))) (getL "kind")
noncomputable def l08s4 : PM Fl := (PM.bind (PM.pure (.bool false)) fun v => PM.bind (setL "due" v) fun _ => PM.pure .next)
noncomputable def l08s5 : PM Fl := (PM.bind l08c3 fun v => PM.bind (setL "marks" v) fun _ => PM.pure .next)
noncomputable def l08s6 : PM Fl := (iteP (PM.bind (getL "marks") fun a => PM.bind (PM.bind (PM.pure []) allocList) fun b => PM.bind (pNe a b) pTruthy) (PM.bind (iteP (PM.bind (PM.bind (getL "marks") fun o => PM.bind (PM.pure (.int 0)) fun i => pItem o i) fun a => PM.bind (PM.pure (.int 11)) fun b => PM.bind (pLt a b) pTruthy) (PM.pure (.bool true)) (PM.pure (.str (cps "no such thing")))) fun v => PM.bind (setL "due" v) fun _ => PM.pure .next) (PM.pure .next))
noncomputable def l08s7 : PM Fl := (PM.bind (PM.bind (PM.bind (getL "one") fun v => PM.bind (PM.bind (getL "name") fun v => PM.bind (PM.pure []) fun vs => PM.pure (v :: vs)) fun vs => PM.pure (v :: vs)) (callP ["one", "name"] told08)) fun v => PM.bind (setL "told" v) fun _ => PM.pure .next)
noncomputable def l08s8 : PM Fl := (iteP (orP (PM.bind (getL "told") fun a => PM.bind (getL "due") fun b => PM.bind (pNe a b) pTruthy) (orP (PM.bind (PM.bind (PM.bind (getL "told") fun v => PM.bind (PM.pure []) fun vs => PM.pure (v :: vs)) cType) fun a => PM.bind (PM.bind (PM.bind (getL "due") fun v => PM.bind (PM.pure []) fun vs => PM.pure (v :: vs)) cType) fun b => PM.bind (pIsNot a b) pTruthy) (PM.pure false))) (PM.bind (PM.pure (.bool false)) fun v => PM.pure (.ret v)) (PM.pure .next))
noncomputable def l08f9 : PM Fl := (seqF l08s4 (seqF l08s5 (seqF l08s6 (seqF l08s7 l08s8))))
noncomputable def l08c10 : PM V := compV ["agents"] "kind" (getL "left") (PM.pure true) (PM.bind (getL "agents") fun o => PM.bind (getL "kind") fun i => pItem o i)
noncomputable def l08s11 : PM Fl := (PM.bind (getL "given") fun a => PM.bind (delAllP a) fun _ => PM.pure .next)
noncomputable def l08s12 : PM Fl := (PM.bind (PM.bind (getL "given") fun v => PM.bind (isList v) fun _ => PM.bind (PM.bind l08c2 fun v => PM.bind (PM.pure []) fun vs => PM.pure (v :: vs)) fun vs => cExtendE (v :: vs)) fun v => match v with | .obj _ => PM.fail | .glob _ => PM.fail | _ => PM.pure .next)
noncomputable def l08s13 : PM Fl := (PM.bind (getL "names") fun v => PM.bind (iterOf v) fun p => loopF p.1 (fun x => PM.bind ((unpackP [(setL "name"), (setL "fits")]) x) fun _ => l08f9) p.2)
noncomputable def l08s14 : PM Fl := (iteP (PM.bind (PM.bind (PM.bind (getL "one") fun v => PM.bind (PM.bind (PM.pure .none) fun v => PM.bind (PM.pure []) fun vs => PM.pure (v :: vs)) fun vs => PM.pure (v :: vs)) (callP ["one", "name"] told08)) fun a => PM.bind (PM.bind (PM.pure (.int 2)) fun a => PM.bind (getL "left") fun b => pIn a b) fun b => PM.bind (pIsNot a b) pTruthy) (PM.bind (PM.pure (.bool false)) fun v => PM.pure (.ret v)) (PM.pure .next))
noncomputable def l08s15 : PM Fl := (iteP (orP (PM.bind (PM.bind (PM.bind (getL "one") fun v => PM.bind (PM.bind (PM.pure (.int 5)) fun v => PM.bind (PM.pure []) fun vs => PM.pure (v :: vs)) fun vs => PM.pure (v :: vs)) (callP ["one", "name"] told08)) fun a => PM.bind (PM.pure (.str (cps "no such thing"))) fun b => PM.bind (pNe a b) pTruthy) (orP (PM.bind (PM.bind (PM.bind (getL "one") fun v => PM.bind (PM.bind (PM.bind (PM.bind (PM.pure (.str (cps "fig"))) fun v => PM.bind (PM.pure []) fun vs => PM.pure (v :: vs)) allocList) fun v => PM.bind (PM.pure []) fun vs => PM.pure (v :: vs)) fun vs => PM.pure (v :: vs)) (callP ["one", "name"] told08)) fun a => PM.bind (PM.pure (.str (cps "no such thing"))) fun b => PM.bind (pNe a b) pTruthy) (PM.pure false))) (PM.bind (PM.pure (.bool false)) fun v => PM.pure (.ret v)) (PM.pure .next))
noncomputable def l08s16 : PM Fl := (iteP (PM.bind (PM.bind (PM.bind (getL "one") fun v => PM.bind (PM.bind (PM.pure (.byt ([102, 105, 103, 47, 50] : List UInt8).toArray)) fun v => PM.bind (PM.pure []) fun vs => PM.pure (v :: vs)) fun vs => PM.pure (v :: vs)) (callP ["one", "name"] told08)) fun a => PM.bind (PM.pure (.str (cps "not of this kind"))) fun b => PM.bind (pNe a b) pTruthy) (PM.bind (PM.pure (.bool false)) fun v => PM.pure (.ret v)) (PM.pure .next))
noncomputable def l08s17 : PM Fl := (iteP (orP (PM.bind (PM.bind (getL "one") (gAttr "useragents")) fun a => PM.bind (getL "given") fun b => PM.bind (pIsNot a b) pTruthy) (orP (PM.bind (getL "given") fun a => PM.bind l08c10 fun b => PM.bind (pNe a b) pTruthy) (PM.pure false))) (PM.bind (PM.pure (.bool false)) fun v => PM.pure (.ret v)) (PM.pure .next))
noncomputable def l08f18 : PM Fl := (seqF l08s11 (seqF l08s12 (seqF l08s13 (seqF l08s14 (seqF l08s15 (seqF l08s16 l08s17))))))
noncomputable def l08s19 : PM Fl := (PM.bind (PM.bind (PM.bind (PM.pure (.str (cps "fig"))) fun v => PM.bind (PM.bind (PM.pure (.str (cps "Plum"))) fun v => PM.bind (PM.bind (PM.pure (.str (cps "*"))) fun v => PM.bind (PM.bind (PM.pure (.str (cps "fig/2"))) fun v => PM.bind (PM.bind (PM.pure (.str (cps " fig"))) fun v => PM.bind (PM.bind (PM.pure (.str (cps "fig "))) fun v => PM.bind (PM.bind (PM.pure (.str (cps ""))) fun v => PM.bind (PM.bind (PM.pure (.str (cps "ß"))) fun v => PM.bind (PM.bind (PM.pure (.str (cps " *"))) fun v => PM.bind (PM.bind (PM.pure (.str (cps "fIg*"))) fun v => PM.bind (PM.bind (PM.pure (.str (cps "**"))) fun v => PM.bind (PM.bind (PM.pure (.int 7)) fun v => PM.bind (PM.bind (PM.pure .none) fun v => PM.bind (PM.pure []) fun vs => PM.pure (v :: vs)) fun vs => PM.pure (v :: vs)) fun vs => PM.pure (v :: vs)) fun vs => PM.pure (v :: vs)) fun vs => PM.pure (v :: vs)) fun vs => PM.pure (v :: vs)) fun vs => PM.pure (v :: vs)) fun vs => PM.pure (v :: vs)) fun vs => PM.pure (v :: vs)) fun vs => PM.pure (v :: vs)) fun vs => PM.pure (v :: vs)) fun vs => PM.pure (v :: vs)) fun vs => PM.pure (v :: vs)) allocList) fun v => PM.bind (setL "agents" v) fun _ => PM.pure .next)
noncomputable def l08s20 (a : Addr) (xs : List Int) : PM Fl := (PM.bind (l08c1 a xs) fun v => PM.bind (setL "kinds" v) fun _ => PM.pure .next)
noncomputable def l08s21 : PM Fl := (PM.bind (PM.bind (PM.bind (PM.bind (PM.bind (PM.pure (.str (cps "FIG/2"))) fun v => PM.bind (PM.bind (PM.bind (PM.bind (PM.pure (.int 0)) fun v => PM.bind (PM.bind (PM.pure (.int 6)) fun v => PM.bind (PM.pure []) fun vs => PM.pure (v :: vs)) fun vs => PM.pure (v :: vs)) allocList) fun v => PM.bind (PM.pure []) fun vs => PM.pure (v :: vs)) fun vs => PM.pure (v :: vs)) allocTuple) fun v => PM.bind (PM.bind (PM.bind (PM.bind (PM.pure (.str (cps "x-plUMx"))) fun v => PM.bind (PM.bind (PM.bind (PM.bind (PM.pure (.int 1)) fun v => PM.bind (PM.bind (PM.pure (.int 6)) fun v => PM.bind (PM.pure []) fun vs => PM.pure (v :: vs)) fun vs => PM.pure (v :: vs)) allocList) fun v => PM.bind (PM.pure []) fun vs => PM.pure (v :: vs)) fun vs => PM.pure (v :: vs)) allocTuple) fun v => PM.bind (PM.bind (PM.bind (PM.bind (PM.pure (.str (cps "Plum fig"))) fun v => PM.bind (PM.bind (PM.bind (PM.bind (PM.pure (.int 0)) fun v => PM.bind (PM.bind (PM.pure (.int 1)) fun v => PM.bind (PM.bind (PM.pure (.int 4)) fun v => PM.bind (PM.bind (PM.pure (.int 6)) fun v => PM.bind (PM.pure []) fun vs => PM.pure (v :: vs)) fun vs => PM.pure (v :: vs)) fun vs => PM.pure (v :: vs)) fun vs => PM.pure (v :: vs)) allocList) fun v => PM.bind (PM.pure []) fun vs => PM.pure (v :: vs)) fun vs => PM.pure (v :: vs)) allocTuple) fun v => PM.bind (PM.bind (PM.bind (PM.bind (PM.pure (.str (cps "*"))) fun v => PM.bind (PM.bind (PM.bind (PM.bind (PM.pure (.int 6)) fun v => PM.bind (PM.pure []) fun vs => PM.pure (v :: vs)) allocList) fun v => PM.bind (PM.pure []) fun vs => PM.pure (v :: vs)) fun vs => PM.pure (v :: vs)) allocTuple) fun v => PM.bind (PM.bind (PM.bind (PM.bind (PM.pure (.str (cps "pl/um/fig"))) fun v => PM.bind (PM.bind (PM.bind (PM.bind (PM.pure (.int 6)) fun v => PM.bind (PM.pure []) fun vs => PM.pure (v :: vs)) allocList) fun v => PM.bind (PM.pure []) fun vs => PM.pure (v :: vs)) fun vs => PM.pure (v :: vs)) allocTuple) fun v => PM.bind (PM.pure []) fun vs => PM.pure (v :: vs)) fun vs => PM.pure (v :: vs)) fun vs => PM.pure (v :: vs)) fun vs => PM.pure (v :: vs)) fun vs => PM.pure (v :: vs)) allocList) fun v => PM.bind (setL "names" v) fun _ => PM.pure .next)
noncomputable def l08s22 : PM Fl := (PM.bind (PM.bind (getL "names") fun v => PM.bind (isList v) fun _ => PM.bind (PM.bind (PM.bind (PM.bind (PM.bind (PM.bind (PM.pure (.str (cps "pl/fig/um"))) fun v => PM.bind (PM.bind (PM.bind (PM.bind (PM.pure (.int 6)) fun v => PM.bind (PM.pure []) fun vs => PM.pure (v :: vs)) allocList) fun v => PM.bind (PM.pure []) fun vs => PM.pure (v :: vs)) fun vs => PM.pure (v :: vs)) allocTuple) fun v => PM.bind (PM.bind (PM.bind (PM.bind (PM.pure (.str (cps ""))) fun v => PM.bind (PM.bind (PM.bind (PM.bind (PM.pure (.int 6)) fun v => PM.bind (PM.pure []) fun vs => PM.pure (v :: vs)) allocList) fun v => PM.bind (PM.pure []) fun vs => PM.pure (v :: vs)) fun vs => PM.pure (v :: vs)) allocTuple) fun v => PM.bind (PM.bind (PM.bind (PM.bind (PM.pure (.str (cps " Fig /2"))) fun v => PM.bind (PM.bind (PM.bind (PM.bind (PM.pure (.int 0)) fun v => PM.bind (PM.bind (PM.pure (.int 4)) fun v => PM.bind (PM.bind (PM.pure (.int 5)) fun v => PM.bind (PM.bind (PM.pure (.int 6)) fun v => PM.bind (PM.pure []) fun vs => PM.pure (v :: vs)) fun vs => PM.pure (v :: vs)) fun vs => PM.pure (v :: vs)) fun vs => PM.pure (v :: vs)) allocList) fun v => PM.bind (PM.pure []) fun vs => PM.pure (v :: vs)) fun vs => PM.pure (v :: vs)) allocTuple) fun v => PM.bind (PM.bind (PM.bind (PM.bind (PM.pure (.str (cps "Ss/ß"))) fun v => PM.bind (PM.bind (PM.bind (PM.bind (PM.pure (.int 6)) fun v => PM.bind (PM.pure []) fun vs => PM.pure (v :: vs)) allocList) fun v => PM.bind (PM.pure []) fun vs => PM.pure (v :: vs)) fun vs => PM.pure (v :: vs)) allocTuple) fun v => PM.bind (PM.bind (PM.bind (PM.bind (PM.pure (.str (cps "STRAßE"))) fun v => PM.bind (PM.bind (PM.bind (PM.bind (PM.pure (.int 6)) fun v => PM.bind (PM.bind (PM.pure (.int 7)) fun v => PM.bind (PM.pure []) fun vs => PM.pure (v :: vs)) fun vs => PM.pure (v :: vs)) allocList) fun v => PM.bind (PM.pure []) fun vs => PM.pure (v :: vs)) fun vs => PM.pure (v :: vs)) allocTuple) fun v => PM.bind (PM.pure []) fun vs => PM.pure (v :: vs)) fun vs => PM.pure (v :: vs)) fun vs => PM.pure (v :: vs)) fun vs => PM.pure (v :: vs)) fun vs => PM.pure (v :: vs)) allocList) fun v => PM.bind (PM.pure []) fun vs => PM.pure (v :: vs)) fun vs => cExtendE (v :: vs)) fun v => match v with | .obj _ => PM.fail | .glob _ => PM.fail | _ => PM.pure .next)
noncomputable def l08s23 : PM Fl := (PM.bind (PM.bind (getL "names") fun v => PM.bind (isList v) fun _ => PM.bind (PM.bind (PM.bind (PM.bind (PM.bind (PM.bind (PM.pure (.str (cps "/Fig/Plum"))) fun v => PM.bind (PM.bind (PM.bind (PM.bind (PM.pure (.int 6)) fun v => PM.bind (PM.pure []) fun vs => PM.pure (v :: vs)) allocList) fun v => PM.bind (PM.pure []) fun vs => PM.pure (v :: vs)) fun vs => PM.pure (v :: vs)) allocTuple) fun v => PM.bind (PM.bind (PM.bind (PM.bind (PM.pure (.str (cps "Fig* **/9"))) fun v => PM.bind (PM.bind (PM.bind (PM.bind (PM.pure (.int 0)) fun v => PM.bind (PM.bind (PM.pure (.int 6)) fun v => PM.bind (PM.bind (PM.pure (.int 8)) fun v => PM.bind (PM.bind (PM.pure (.int 9)) fun v => PM.bind (PM.bind (PM.pure (.int 10)) fun v => PM.bind (PM.pure []) fun vs => PM.pure (v :: vs)) fun vs => PM.pure (v :: vs)) fun vs => PM.pure (v :: vs)) fun vs => PM.pure (v :: vs)) fun vs => PM.pure (v :: vs)) allocList) fun v => PM.bind (PM.pure []) fun vs => PM.pure (v :: vs)) fun vs => PM.pure (v :: vs)) allocTuple) fun v => PM.bind (PM.pure []) fun vs => PM.pure (v :: vs)) fun vs => PM.pure (v :: vs)) allocList) fun v => PM.bind (PM.pure []) fun vs => PM.pure (v :: vs)) fun vs => cExtendE (v :: vs)) fun v => match v with | .obj _ => PM.fail | .glob _ => PM.fail | _ => PM.pure .next)
noncomputable def l08s24 : PM Fl := (PM.bind (PM.bind (PM.pure []) (newInst initE ["self"])) fun v => PM.bind (setL "one" v) fun _ => PM.pure .next)
noncomputable def l08s25 : PM Fl := (PM.bind (PM.bind (getL "one") (gAttr "useragents")) fun v => PM.bind (setL "given" v) fun _ => PM.pure .next)
noncomputable def l08s26 : PM Fl := (PM.bind (PM.bind (PM.bind (getL "kinds") fun v => PM.bind (PM.bind (iteP (PM.bind (getL "kinds") fun a => PM.bind (PM.bind (PM.pure []) allocList) fun b => PM.bind (pNe a b) pTruthy) (PM.bind (getL "kinds") fun o => PM.bind (PM.pure (.int 1)) fun l => PM.bind (PM.pure .none) fun u => sliceP o l u) (PM.bind (PM.bind (PM.pure (.int 1)) fun v => PM.bind (PM.pure []) fun vs => PM.pure (v :: vs)) allocList)) fun v => PM.bind (PM.pure []) fun vs => PM.pure (v :: vs)) fun vs => PM.pure (v :: vs)) allocTuple) fun v => PM.bind (iterOf v) fun p => loopF p.1 (fun x => PM.bind ((setL "left") x) fun _ => l08f18) p.2)
noncomputable def l08s27 : PM Fl := (PM.bind (PM.pure (.bool true)) fun v => PM.pure (.ret v))
noncomputable def law08 (a : Addr) (xs : List Int) : PM Fl := (seqF l08s19 (seqF (l08s20 a xs) (seqF l08s21 (seqF l08s22 (seqF l08s23 (seqF l08s24 (seqF l08s25 (seqF l08s26 l08s27))))))))
end Mine
set_option linter.unusedSimpArgs false
set_option linter.unusedVariables false
namespace Mine
section
variable {loc : String → Option V} {sto : List O}
end
end Mine
set_option linter.unusedSimpArgs false
set_option linter.unusedVariables false
namespace Mine
section
variable {loc : String → Option V} {sto : List O}
theorem wL_delAll {i : Nat} {xs : List V} {Q : Unit → St → Prop} (h : sto[i]? = some (.list xs)) (hl : xs.length ≤ 1000000) : wp (delAllP (.obj i)) ⟨loc, sto⟩ Q = Q () ⟨loc, sto.set i (.list [])⟩ := by
  unfold wp delAllP
  simp only [h, hl, if_true]
theorem wL_type {v : V} {T : String} {Q : V → St → Prop} (h : typeV v = some T) : wp (cType [v]) ⟨loc, sto⟩ Q = Q (.glob (.type T)) ⟨loc, sto⟩ := by
  unfold wp cType
  simp only [h]
end
end Mine
set_option linter.unusedSimpArgs false
set_option linter.unusedVariables false
namespace Mine
theorem wE_entry {loc : String → Option V} {sto : List O} {Q : V → St → Prop} : wp (newInst initE ["self"] []) ⟨loc, sto⟩ Q = Q (.obj sto.length) ⟨loc, sto ++ [.inst [("useragents", .obj (sto.length + 1)), ("rulelines", .obj (sto.length + 2)), ("delay", .none), ("req_rate", .none)], .list [], .list []]⟩ := by
  have key : wp (newInst initE ["self"] []) ⟨loc, sto⟩ (fun v st => v = .obj sto.length ∧ st = ⟨loc, sto ++ [.inst [("useragents", .obj (sto.length + 1)), ("rulelines", .obj (sto.length + 2)), ("delay", .none), ("req_rate", .none)], .list [], .list []]⟩) := wL_entry ⟨rfl, rfl⟩
  obtain ⟨v, st, e, rfl, rfl⟩ := wp_run key
  unfold wp
  rw [e]
theorem run_wp {m : PM Fl} {st : St} {f : Fl} (w : wp m st (fun g _ => g = f)) : ∃ st', m st = .ok f st' := by
  obtain ⟨g, st', e, rfl⟩ := wp_run w
  exact ⟨st', e⟩
/-- a wp behind a wall: the elaborator does not run it -/
structure WPs (m : PM Fl) (st : St) (Q : Fl → St → Prop) : Prop where
  h : wp m st Q
theorem run_wps {m : PM Fl} {st : St} {f : Fl} (w : WPs m st (fun g _ => g = f)) : ∃ st', m st = .ok f st' := run_wp w.h
def rateV (ss : List O) : Option (Int × Int) → V → Prop
  | none, v => v = .none
  | some r, v => ∃ q bs, v = .obj q ∧ ss[q]? = some (.inst bs) ∧ bs.lookup "requests" = some (.int r.1) ∧ bs.lookup "seconds" = some (.int r.2) ∧ small r.1 = true ∧ small r.2 = true
def delV : Option Int → V
  | none => .none
  | some d => .int d
structure Ent (ss : List O) (i U R : Nat) (ags : List (List Nat)) (dv : Option Int) (rv : Option (Int × Int)) (rs : List V) : Prop where
  at' : ∃ as v, ss[i]? = some (.inst as) ∧ as.lookup "useragents" = some (.obj U) ∧ as.lookup "rulelines" = some (.obj R) ∧ as.lookup "delay" = some (delV dv) ∧ as.lookup "req_rate" = some v ∧ rateV ss rv v
  oU : ss[U]? = some (.list (ags.map V.str))
  oR : ss[R]? = some (.list rs)
  sd : ∀ d, dv = some d → small d = true
end Mine
set_option linter.unusedSimpArgs false
set_option linter.unusedVariables false
namespace Mine
/-- what holds at the end, exceptions told apart -/
def wpx {α : Type} (m : PM α) (st : St) (Q : α → St → Prop) (E : String → St → Prop) : Prop := match m st with
  | .ok a st' => Q a st'
  | .exc k st' => E k st'
  | .fail => False
section
variable {α β : Type} {st : St} {E : String → St → Prop}
theorem wpx_bind {m : PM α} {f : α → PM β} {Q : β → St → Prop} : wpx (PM.bind m f) st Q E = wpx m st (fun a st' => wpx (f a) st' Q E) E := by
  unfold wpx PM.bind
  cases m st <;> rfl
theorem wpx_pure {a : α} {Q : α → St → Prop} : wpx (PM.pure a) st Q E = Q a st := rfl
theorem wpx_wp {m : PM α} {Q : α → St → Prop} (h : wp m st Q) : wpx m st Q E := by
  unfold wp at h
  unfold wpx
  cases e : m st with
  | ok a st' => rw [e] at h; exact h
  | exc k st' => rw [e] at h; exact h.elim
  | fail => rw [e] at h; exact h.elim
theorem wpx_ok {m : PM α} {Q : α → St → Prop} : wpx (okOnly m) st Q E = wp m st Q := by
  unfold wpx okOnly wp
  cases m st <;> rfl
theorem wpx_seq {m k : PM Fl} {Q : Fl → St → Prop} : wpx (seqF m k) st Q E = wpx m st (fun f st' => match f with | .next => wpx k st' Q E | .brk => Q .brk st' | .cont => Q .cont st' | .ret v => Q (.ret v) st') E := by
  unfold seqF
  rw [wpx_bind]
  congr 1
  funext f st'
  cases f <;> rfl
theorem wpx_ite {t : PM Bool} {a b : PM α} {Q : α → St → Prop} : wpx (iteP t a b) st Q E = wpx t st (fun c st' => if c = true then wpx a st' Q E else wpx b st' Q E) E := by
  unfold iteP
  rw [wpx_bind]
  congr 1
  funext c st'
  cases c <;> simp
theorem wpx_get {n : String} {Q : V → St → Prop} : wpx (getL n) st Q E = (match st.loc n with | some v => Q v st | none => False) := by
  unfold wpx getL
  cases st.loc n <;> rfl
theorem wpx_set {n : String} {v : V} {Q : Unit → St → Prop} : wpx (setL n v) st Q E = Q () { st with loc := fun k => if k = n then some v else st.loc k } := rfl
theorem wpx_call {ps : List String} {mb : PM Fl} {vs : List V} {Q : V → St → Prop} (h : vs.length = ps.length) : wpx (callP ps mb vs) st Q E = wpx mb ⟨fun n => (ps.zip vs).lookup n, st.sto⟩ (fun fl st' => Q (match fl with | .ret v => v | _ => .none) ⟨st.loc, st'.sto⟩) (fun k st' => E k ⟨st.loc, st'.sto⟩) := by
  unfold wpx callP
  rw [if_pos h]
  cases mb ⟨fun n => (ps.zip vs).lookup n, st.sto⟩ <;> rfl
theorem wpx_try {m : PM Fl} {hs : List (String × V)} {Q : Fl → St → Prop} (h : wpx m st Q (fun k st' => match hs.lookup k with | some v => Q (.ret v) st' | none => False)) : wp (tryP m hs) st Q := by
  unfold wp tryP
  unfold wpx at h
  cases e : m st with
  | ok a st' => rw [e] at h; exact h
  | exc k st' =>
    rw [e] at h
    dsimp only at h ⊢
    cases q : hs.lookup k with
    | some v => rw [q] at h; exact h
    | none => rw [q] at h; exact h.elim
  | fail => rw [e] at h; exact h.elim
end
/-- an agent: a text, or what is none -/
inductive AgV : V → Prop
  | str (l : List Nat) : l.length ≤ 1000 → l.all lowKnown = true → AgV (.str l)
  | int (i : Int) : AgV (.int i)
  | none : AgV .none
def run8 : List V → List Nat → Option Bool
  | [], _ => some false
  | .str l :: r, p => if l = [42] then run8 r p else if subIn (l.map lowP) p = true then some true else run8 r p
  | _ :: _, _ => none
theorem eqP_intS (st : St) (a : Int) (b : List Nat) : eqP st (.int a) (.str b) = some false := rfl
theorem eqP_noneS (st : St) (b : List Nat) : eqP st .none (.str b) = some false := rfl
/-- the loop over the agents -/
theorem t8_loop {u : Nat} {all : List V} {p : List Nat} {sto : List O} (hu : sto[u]? = some (.list all)) {Q : Fl → St → Prop} {E : String → St → Prop} (hp : p.length ≤ 1000000) :
    ∀ (rs : List V) (loc : String → Option V), loc "useragent" = some (.str p) → (∀ v ∈ rs, AgV v) → (match run8 rs p with | some true => ∀ loc', Q (.ret (.bool true)) ⟨loc', sto⟩ | some false => ∀ loc', Q .next ⟨loc', sto⟩ | none => ∀ loc', E "AttributeError" ⟨loc', sto⟩) →
      wpx (loopF (some (u, .list all)) (fun x => PM.bind (setL "agent" x) fun _ => applX_08_f3) rs) ⟨loc, sto⟩ Q E
  | [], loc, hl, _, h => by
    unfold loopF
    rw [wpx_bind]
    refine wpx_wp ?_
    unfold wp chk
    dsimp only
    rw [if_pos hu]
    exact h loc
  | x :: r, loc, hl, ha, h => by
    have hch : ∀ (Q2 : Unit → St → Prop), Q2 () ⟨loc, sto⟩ → wpx (chk (some (u, .list all))) ⟨loc, sto⟩ Q2 E := fun Q2 q => by
      refine wpx_wp ?_
      unfold wp chk
      dsimp only
      rw [if_pos hu]
      exact q
    have ih := t8_loop hu (Q := Q) (E := E) hp r (fun k => if k = "agent" then some x else loc k) (by simpa using hl) (fun v hv => ha v (.tail _ hv))
    unfold loopF
    rw [wpx_bind]
    refine hch _ ?_
    rw [wpx_bind, wpx_bind, wpx_set]
    unfold applX_08_f3
    rw [wpx_ite, wpx_ok]
    simp only [wp_bind, wp_pure, wpE_get, if_true, wpE_ne]
    rcases ha x (.head _) with ⟨l, hl1, hl2⟩ | ⟨i⟩ | _
    · rw [cps_star, eqP_str]
      simp only [wp_truthyB]
      by_cases h42 : l = [42]
      · have e : run8 (.str l :: r) p = run8 r p := by conv => lhs; unfold run8; rw [if_pos h42]
        rw [e] at h
        simp only [h42, decide_true, Bool.not_true, Bool.false_eq_true, if_false, wpx_pure]
        rw [h42] at ih
        exact ih h
      · simp only [h42, decide_false, Bool.not_false, if_true]
        unfold applX_08_s1
        rw [wpx_seq, wpx_bind, wpx_bind, wpx_get]
        simp only [if_true]
        rw [wpx_bind]
        show wpx (PM.bind (okOnly (PM.pure [])) fun vs => cLowerX (V.str l :: vs)) _ _ _
        rw [wpx_bind, wpx_ok, wp_pure]
        have hlow : ∀ st : St, cLowerX [V.str l] st = .ok (.str (l.map lowP)) st := fun st => by
          show (if l.length ≤ 1000000 ∧ l.all lowKnown = true then Res.ok (V.str (l.map lowP)) st else Res.fail) = _
          rw [if_pos ⟨by omega, hl2⟩]
        have hlx : ∀ (st : St) (Q2 : V → St → Prop) (E2 : String → St → Prop), wpx (cLowerX [V.str l]) st Q2 E2 = Q2 (.str (l.map lowP)) st := fun st Q2 E2 => by
          unfold wpx
          rw [hlow]
        rw [hlx, wpx_bind, wpx_set, wpx_pure]
        unfold applX_08_s2
        dsimp only
        rw [wpx_ok, wp_ite]
        simp only [wp_bind, wp_pure, wpE_get, if_true, String.reduceEq, if_false, reduceIte, hl, wpE_in]
        have hin : ∀ st : St, inP st (.str (l.map lowP)) (.str p) = some (subIn (l.map lowP) p) := fun st => rfl
        rw [hin]
        simp only [wp_truthyB]
        by_cases hs : subIn (l.map lowP) p = true
        · have e : run8 (.str l :: r) p = some true := by conv => lhs; unfold run8; rw [if_neg h42, if_pos hs]
          rw [e] at h
          simp only [hs, if_true]
          exact h _
        · have e : run8 (.str l :: r) p = run8 r p := by conv => lhs; unfold run8; rw [if_neg h42, if_neg hs]
          rw [e] at h
          simp only [hs, if_false]
          exact t8_loop hu (Q := Q) (E := E) hp r _ (by simpa using hl) (fun v hv => ha v (.tail _ hv)) h
    · rw [cps_star, eqP_intS]
      simp only [Bool.not_false, wp_truthyB, if_true]
      unfold applX_08_s1
      rw [wpx_seq, wpx_bind, wpx_bind, wpx_get]
      simp only [if_true]
      rw [wpx_bind]
      exact h _
    · rw [cps_star, eqP_noneS]
      simp only [Bool.not_false, wp_truthyB, if_true]
      unfold applX_08_s1
      rw [wpx_seq, wpx_bind, wpx_bind, wpx_get]
      simp only [if_true]
      rw [wpx_bind]
      exact h _
end Mine
set_option linter.unusedSimpArgs false
set_option linter.unusedVariables false
namespace Mine
def cNo : List Nat := cps "no such thing"
def cKind : List Nat := cps "not of this kind"
def toldOf : Option Bool → V
  | some b => .bool b
  | none => .str cNo
structure Rec8 (ss : List O) (i u : Nat) (ags : List V) : Prop where
  a : ∃ as, ss[i]? = some (.inst as) ∧ as.lookup "useragents" = some (.obj u) ∧ as.lookup "applies_to" = none
  l : ss[u]? = some (.list ags)
  v : ∀ v ∈ ags, AgV v
  n : ags.length ≤ 1000
theorem Rec8.pre {ss ss' : List O} {i u : Nat} {ags : List V} (h : Rec8 ss i u ags) (p : ss <+: ss') : Rec8 ss' i u ags := by
  obtain ⟨as, h1, h2, h3⟩ := h.a
  exact ⟨⟨as, get_pre p h1, h2, h3⟩, get_pre p h.l, h.v, h.n⟩
def dOf8 : V → PyData
  | .str l => .str ⟨l.toArray⟩
  | .int i => .int i
  | _ => .none
theorem toDs_ag (n : Nat) (sto : List O) : ∀ {ags : List V}, (∀ v ∈ ags, AgV v) → toDs (toD (n + 1) sto) ags = some (ags.map dOf8)
  | [], _ => rfl
  | v :: r, h => by
    have ih := toDs_ag n sto (ags := r) fun w hw => h w (.tail _ hw)
    have e : toD (n + 1) sto v = some (dOf8 v) := by
      cases h v (.head _) <;> rfl
    show (match toD (n + 1) sto v, toDs (toD (n + 1) sto) r with | some d, some ds => some (d :: ds) | _, _ => none) = _
    rw [e, ih]
    rfl
theorem wpE_isX {a b : V} {st : St} {Q : V → St → Prop} : wp (pIsX a b) st Q = (match isPX a b with | some c => Q (.bool c) st | none => False) := by
  unfold wp pIsX
  cases isPX a b <;> rfl
theorem wL_split8 {loc : String → Option V} {sto : List O} {l : List Nat} {c : Nat} {Q : V → St → Prop} (hl : l.length ≤ 1000000) : wp (cSplit [.str l, .str [c]]) ⟨loc, sto⟩ Q = Q (.obj sto.length) ⟨loc, sto ++ [.list ((splitL c l).map V.str)]⟩ := by
  unfold wp cSplit
  simp only [hl, if_true]
  rfl
theorem wpx_byt {b : Array UInt8} {st : St} {Q : Unit → St → Prop} {E : String → St → Prop} : wpx (isStrX true (.byt b)) st Q E = Q () st := rfl
theorem wp_isStrX {b : Bool} {l : List Nat} {st : St} {Q : Unit → St → Prop} : wp (isStrX b (.str l)) st Q = Q () st := rfl
theorem wp_okOnly {α : Type} {m : PM α} {st : St} {Q : α → St → Prop} : wp (okOnly m) st Q = wp m st Q := by
  unfold wp okOnly
  cases m st <;> rfl
theorem wp_cSplitX {l c : List Nat} {st : St} {Q : V → St → Prop} : wp (cSplitX [.str l, .str c]) st Q = wp (cSplit [.str l, .str c]) st Q := rfl
theorem wp_cLowerX {l : List Nat} {st : St} {Q : V → St → Prop} (h1 : l.length ≤ 1000000) (h2 : l.all lowKnown = true) : wp (cLowerX [.str l]) st Q = Q (.str (l.map lowP)) st := by
  have : cLowerX [.str l] st = .ok (.str (l.map lowP)) st := by
    show (if l.length ≤ 1000000 ∧ l.all lowKnown = true then Res.ok (V.str (l.map lowP)) st else Res.fail) = _
    rw [if_pos ⟨h1, h2⟩]
  unfold wp
  rw [this]
section
variable {sl : String → Option V} {ss : List O} {i u : Nat} {ags : List V} {Q : V → St → Prop}
/-- the call up to the method's own text -/
theorem t8_enter (h : Rec8 ss i u ags) {name : V} (hw : wpx applX08 ⟨fun n => if n = "self" then some (V.obj i) else if n = "useragent" then some name else none, ss⟩ (fun fl st' => Q (match fl with | .ret v => v | _ => .none) ⟨sl, st'.sto⟩) (fun k st' => match [("AttributeError", V.str cNo), ("TypeError", V.str cKind)].lookup k with | some v => Q v ⟨sl, st'.sto⟩ | none => False)) :
    wp (callP ["one", "name"] told08 [.obj i, name]) ⟨sl, ss⟩ Q := by
  obtain ⟨as, h1, h2, h3⟩ := h.a
  rw [wp_call rfl, loc2]
  unfold told08
  refine wpx_try ?_
  unfold told_08_t1
  rw [wpx_bind, wpx_bind, wpx_get]
  simp only [if_true]
  rw [wpx_bind]
  refine wpx_wp ?_
  rw [wL_isInst h1 h3, wpx_bind, wpx_ok]
  simp only [wp_bind, wp_pure, wpE_get, String.reduceEq, if_false, if_true, reduceIte]
  rw [wpx_call rfl, loc2]
  simp only [wpx_pure]
  exact hw
theorem t8_none (h : Rec8 ss i u ags) (hQ : ∀ b, (b = ags.any fun v => match v with | .str l => decide (l = [42]) | _ => false) → Q (.bool b) ⟨sl, ss⟩) : wp (callP ["one", "name"] told08 [.obj i, .none]) ⟨sl, ss⟩ Q := by
  obtain ⟨as, h1, h2, h3⟩ := h.a
  refine t8_enter h ?_
  unfold applX08 applX_08_s4
  rw [wpx_seq, wpx_ok, wp_ite]
  simp only [wp_bind, wp_pure, wpE_get, String.reduceEq, if_false, if_true, reduceIte, wpE_isX]
  have e : isPX V.none V.none = some true := rfl
  rw [e]
  simp only [wp_truthyB, if_true]
  rw [wL_gAttr (n := "useragents") (v := .obj u) h1 h2 (by intro u e; cases e)]
  simp only [wpE_in, cps_star]
  have hin : ∀ loc, inP ⟨loc, ss⟩ (.str [42]) (.obj u) = some (ags.any fun v => match v with | .str l => decide (l = [42]) | _ => false) := fun loc => by
    unfold inP
    dsimp only
    rw [h.l]
    dsimp only
    rw [toDs_ag 3 ss h.v]
    show some ((ags.map dOf8).any fun y => PyData.eqv y (.str ⟨[42].toArray⟩)) = _
    rw [List.any_map]
    congr 1
    have hv := h.v
    clear h hQ
    induction ags with
    | nil => rfl
    | cons v r ih =>
      rw [List.any_cons, List.any_cons, ih fun w hw => hv w (.tail _ hw)]
      congr 1
      cases hv v (.head _) with
      | str l _ _ => exact eqv_str l [42]
      | int i => rfl
      | none => rfl
  rw [hin]
  exact hQ _ rfl
theorem t8_str (h : Rec8 ss i u ags) {name : List Nat} (hn : name.length ≤ 1000) (hk : name.all lowKnown = true) (hQ : ∀ ss', ss <+: ss' → Q (toldOf (run8 ags (part name))) ⟨sl, ss'⟩) : wp (callP ["one", "name"] told08 [.obj i, .str name]) ⟨sl, ss⟩ Q := by
  obtain ⟨as, h1, h2, h3⟩ := h.a
  refine t8_enter h ?_
  unfold applX08 applX_08_s4
  rw [wpx_seq, wpx_ok, wp_ite]
  simp only [wp_bind, wp_pure, wpE_get, String.reduceEq, if_false, if_true, reduceIte, wpE_isX]
  have e : isPX (V.str name) V.none = some false := rfl
  rw [e]
  simp only [wp_truthyB, Bool.false_eq_true, if_false]
  rw [wpx_seq]
  unfold applX_08_s5
  refine wpx_wp ?_
  simp only [wp_bind, wp_pure, wpE_get, String.reduceEq, if_false, if_true, reduceIte, wp_isStrX, wp_okOnly, wp_cSplitX, cps_slash]
  rw [wL_split8 (by omega)]
  obtain ⟨r, hr⟩ := splitL_head 47 name
  have pA : ss <+: ss ++ [O.list ((splitL 47 name).map V.str)] := List.prefix_append _ _
  have gA : (ss ++ [O.list ((splitL 47 name).map V.str)])[ss.length]? = some (.list ((splitL 47 name).map V.str)) := get_app_len _ _ _
  generalize (ss ++ [O.list ((splitL 47 name).map V.str)]) = A at pA gA
  have hlen : (splitL 47 name).length ≤ 1000000 := Nat.le_trans (splitL_len 47 name) (by omega)
  have it : ∀ (loc : String → Option V) (Q2 : V → St → Prop), wp (pItem (.obj ss.length) (.int 0)) ⟨loc, A⟩ Q2 = Q2 (.str (name.takeWhile (fun x => decide (x ≠ 47)))) ⟨loc, A⟩ := fun loc Q2 => wL_item (k := 0) gA (by rw [List.length_map]; exact hlen) (by rw [hr]; rfl)
  rw [it]
  rw [wp_isStrX, wp_cLowerX (Nat.le_trans (List.Sublist.length_le (List.takeWhile_sublist _)) (by omega)) (by rw [List.all_eq_true] at hk ⊢; exact fun x hx => hk x ((List.takeWhile_sublist _).mem hx)), wp_setL]
  dsimp only
  rw [wpx_seq]
  unfold applX_08_s6
  have hA := h.pre pA
  obtain ⟨as, h1, h2, h3⟩ := hA.a
  rw [wpx_bind, wpx_ok]
  simp only [wp_bind, wp_pure, wpE_get, String.reduceEq, if_false, if_true, reduceIte]
  rw [wL_gAttr (n := "useragents") (v := .obj u) h1 h2 (by intro u e; cases e), wpx_bind]
  refine wpx_wp ?_
  rw [wL_iter hA.l]
  dsimp only
  have key := hQ A pA
  refine t8_loop (p := part name) hA.l ?_ ags _ (by simp [part]) hA.v ?_
  · unfold part
    rw [List.length_map]
    exact Nat.le_trans (List.Sublist.length_le (List.takeWhile_sublist _)) (by omega)
  · cases hr8 : run8 ags (part name) with
    | none => rw [hr8] at key; exact fun _ => key
    | some b =>
      rw [hr8] at key
      cases b with
      | true => exact fun _ => key
      | false =>
        intro loc'
        dsimp only
        unfold applX_08_s7
        rw [wpx_ok]
        exact key
/-- a name that is no text -/
theorem t8_int (h : Rec8 ss i u ags) {n : Int} (hQ : Q (.str cNo) ⟨sl, ss⟩) : wp (callP ["one", "name"] told08 [.obj i, .int n]) ⟨sl, ss⟩ Q := by
  refine t8_enter h ?_
  unfold applX08 applX_08_s4
  rw [wpx_seq, wpx_ok, wp_ite]
  simp only [wp_bind, wp_pure, wpE_get, String.reduceEq, if_false, if_true, reduceIte, wpE_isX]
  have e : isPX (V.int n) V.none = some false := rfl
  rw [e]
  simp only [wp_truthyB, Bool.false_eq_true, if_false]
  rw [wpx_seq]
  unfold applX_08_s5
  rw [wpx_bind, wpx_bind, wpx_bind, wpx_bind, wpx_get]
  simp only [String.reduceEq, if_false, if_true, reduceIte]
  rw [wpx_bind]
  exact hQ
theorem t8_list (h : Rec8 ss i u ags) {j : Nat} {ys : List V} (hj : ss[j]? = some (.list ys)) (hQ : Q (.str cNo) ⟨sl, ss⟩) : wp (callP ["one", "name"] told08 [.obj i, .obj j]) ⟨sl, ss⟩ Q := by
  refine t8_enter h ?_
  unfold applX08 applX_08_s4
  rw [wpx_seq, wpx_ok, wp_ite]
  simp only [wp_bind, wp_pure, wpE_get, String.reduceEq, if_false, if_true, reduceIte, wpE_isX]
  have e : isPX (V.obj j) V.none = some false := rfl
  rw [e]
  simp only [wp_truthyB, Bool.false_eq_true, if_false]
  rw [wpx_seq]
  unfold applX_08_s5
  rw [wpx_bind, wpx_bind, wpx_bind, wpx_bind, wpx_get]
  simp only [String.reduceEq, if_false, if_true, reduceIte]
  rw [wpx_bind]
  unfold wpx isStrX
  dsimp only
  rw [hj]
  exact hQ
theorem t8_byt (h : Rec8 ss i u ags) {b : Array UInt8} (hQ : Q (.str cKind) ⟨sl, ss⟩) : wp (callP ["one", "name"] told08 [.obj i, .byt b]) ⟨sl, ss⟩ Q := by
  refine t8_enter h ?_
  unfold applX08 applX_08_s4
  rw [wpx_seq, wpx_ok, wp_ite]
  simp only [wp_bind, wp_pure, wpE_get, String.reduceEq, if_false, if_true, reduceIte, wpE_isX]
  have e : isPX (V.byt b) V.none = some false := rfl
  rw [e]
  simp only [wp_truthyB, Bool.false_eq_true, if_false]
  rw [wpx_seq]
  unfold applX_08_s5
  rw [wpx_bind, wpx_bind, wpx_bind, wpx_bind, wpx_get]
  simp only [String.reduceEq, if_false, if_true, reduceIte]
  rw [wpx_bind]
  rw [wpx_byt, wpx_bind, wpx_ok]
  simp only [wp_bind, wp_pure]
  exact hQ
end
end Mine
set_option linter.unusedSimpArgs false
set_option linter.unusedVariables false
namespace Mine
theorem wp_compG {sa : Addr} {xs0 : List Int} {α : Type} {f : α → V} {fr : List String} {n : String} {mi : PM V} {mc : PM Bool} {me : PM V} {st : St} {Q : V → St → Prop} {src : Src} {a : V} {st1 : St} (xs : List α) (keep : α → Bool) (val : α → V)
    (hmi : wp mi st (fun v s => v = a ∧ s = st1)) (hit : wp (iterG sa xs0 a) st1 (fun v s => v = (src, xs.map f) ∧ s = st1)) (hn : n ∉ fr) (hsrc : ∀ p, src = some p → st1.sto[p.1]? = some p.2) (hl : xs.length ≤ 1000000)
    (step : ∀ x ∈ xs, ∀ loc sto, (∀ m ∈ fr, loc m = st1.loc m) → sto = st1.sto → loc n = some (f x) →
      wp mc ⟨loc, sto⟩ (fun b s2 => b = keep x ∧ (s2.loc = loc ∧ s2.sto = st1.sto) ∧ (keep x = true → wp me s2 (fun v s3 => v = val x ∧ s3.loc = loc ∧ s3.sto = st1.sto))))
    (hQ : Q (.obj st1.sto.length) ⟨st1.loc, st1.sto ++ [.list ((xs.filter keep).map val)]⟩) : wp (compVG sa xs0 fr n mi mc me) st Q := by
  obtain ⟨_, _, e1, rfl, rfl⟩ := wp_run hmi
  obtain ⟨_, _, e2, rfl, rfl⟩ := wp_run hit
  unfold compVG
  rw [wp_bind]
  refine wp_of e1 ?_
  rw [wp_bind]
  refine wp_of e2 ?_
  rw [wp_bind]
  rename_i st1
  have key : ∀ (ys : List α) (acc : List V) (s : St), (∀ y ∈ ys, y ∈ xs) → acc.length + ys.length ≤ 1000000 → (∀ m ∈ fr, s.loc m = st1.loc m) ∧ s.sto = st1.sto →
      wp (compM src (setL n) mc me acc (ys.map f)) s (fun vs s' => vs = acc ++ (ys.filter keep).map val ∧ (∀ m ∈ fr, s'.loc m = st1.loc m) ∧ s'.sto = st1.sto) := by
    intro ys
    have hchk : ∀ s : St, s.sto = st1.sto → chk src s = .ok () s := fun s hs => by
      cases src with
      | none => rfl
      | some p => exact chk_some (by rw [hs]; exact hsrc p rfl)
    induction ys with
    | nil =>
      intro acc s _ _ h
      rw [List.map_nil]
      unfold compM
      rw [wp_bind]
      exact wp_of (hchk s h.2) ⟨by simp, h⟩
    | cons y r ih =>
      intro acc s hm hl h
      rw [List.map_cons]
      unfold compM
      rw [wp_bind]
      refine wp_of (hchk s h.2) ?_
      rw [wp_bind, wp_setL, wp_bind]
      have hs' : ∀ m ∈ fr, (if m = n then some (f y) else s.loc m) = st1.loc m := fun m hm => by
        have hne : ¬ m = n := fun (e : m = n) => hn (e ▸ hm)
        rw [if_neg hne]; exact h.1 m hm
      simp only [List.length_cons] at hl
      refine wp_mono (step y (hm y (.head _)) (fun k => if k = n then some (f y) else s.loc k) s.sto hs' h.2 (by simp)) fun b s2 q => ?_
      obtain ⟨rfl, q2, q3⟩ := q
      cases hk : keep y with
      | true =>
        dsimp only
        rw [wp_bind]
        refine wp_mono (q3 hk) fun v s3 q4 => ?_
        obtain ⟨rfl, q5, q6⟩ := q4
        have hle : acc.length ≤ 1000000 := by omega
        have e0 : (fun st => if acc.length ≤ 1000000 then compM src (setL n) mc me (acc ++ [val y]) (r.map f) st else .fail : PM (List V)) = compM src (setL n) mc me (acc ++ [val y]) (r.map f) := by
          funext s'; rw [if_pos hle]
        rw [e0]
        refine wp_mono (ih (acc ++ [val y]) s3 (fun z hz => hm z (.tail _ hz)) (by simp; omega) ⟨fun m hm => by rw [q5]; exact hs' m hm, q6⟩) fun vs s' q7 => ⟨?_, q7.2⟩
        rw [q7.1, List.filter_cons, hk]
        simp
      | false =>
        dsimp only
        refine wp_mono (ih acc s2 (fun z hz => hm z (.tail _ hz)) (by omega) ⟨fun m hm => by rw [q2.1]; exact hs' m hm, q2.2⟩) fun vs s' q7 => ⟨?_, q7.2⟩
        rw [q7.1, List.filter_cons, hk]
        simp
  obtain ⟨vs, s', e, q⟩ := wp_run (key xs [] ⟨fun m => if m ∈ fr then st1.loc m else none, st1.sto⟩ (fun _ h => h) (by simpa using hl) ⟨fun m hm => by simp [hm], rfl⟩)
  unfold wp inScope
  dsimp only at e ⊢
  rw [e]
  dsimp only
  rw [if_pos q.2.1]
  dsimp only
  rw [q.1]
  obtain ⟨l', o'⟩ := s'
  have hq := q.2.2
  dsimp only at hq
  subst hq
  exact hQ
/-- the agents' table and the names -/
def tab8 : List V := [.str (cps "fig"), .str (cps "Plum"), .str (cps "*"), .str (cps "fig/2"), .str (cps " fig"), .str (cps "fig "), .str (cps ""), .str (cps "ß"), .str (cps " *"), .str (cps "fIg*"), .str (cps "**"), .int 7, .none]
def nms8 : List (List Nat × List Int) := [(cps "FIG/2", [0, 6]), (cps "x-plUMx", [1, 6]), (cps "Plum fig", [0, 1, 4, 6]), (cps "*", [6]), (cps "pl/um/fig", [6]),
  (cps "pl/fig/um", [6]), (cps "", [6]), (cps " Fig /2", [0, 4, 5, 6]), (cps "Ss/ß", [6]), (cps "STRAßE", [6, 7]), (cps "/Fig/Plum", [6]), (cps "Fig* **/9", [0, 6, 8, 9, 10])]
def one8 (q : List Nat × List Int) (k : Nat) : Bool := match tab8[k]? with
  | some (.str l) => decide (k < 11) && (if l = [42] then decide (k = 2) && !(q.2.contains (k : Int)) else decide (k ≠ 2) && (subIn (l.map lowP) (part q.1) == q.2.contains (k : Int)))
  | some (.int _) => decide (10 < k)
  | some .none => decide (10 < k)
  | _ => false
theorem one8_ok : (nms8.all fun q => (List.range 13).all fun k => one8 q k) = true := by decide +kernel
def nm8 (q : List Nat × List Int) : Bool := decide (q.1.length ≤ 100) && q.1.all lowKnown && decide (q.2.length ≤ 10)
theorem nm8_ok : (nms8.all nm8) = true := by decide +kernel
def ag8o (v : V) : Bool := match v with
  | .str l => decide (l.length ≤ 1000) && l.all lowKnown
  | .int _ => true
  | .none => true
  | _ => false
theorem tab8_ok : tab8.all ag8o = true := by decide +kernel
theorem tab8_len : tab8.length = 13 := rfl
def ag8 (k : Int) : V := tab8.getD k.toNat .none
def due8 (left fits : List Int) : V := match left.filter (fun k => decide (10 < k) || fits.contains k) with
  | [] => .bool false
  | m :: _ => if m < 11 then .bool true else .str cNo
theorem agv8 {v : V} (h : ag8o v = true) : AgV v := by
  unfold ag8o at h
  split at h
  · rw [Bool.and_eq_true, decide_eq_true_eq] at h
    exact .str _ h.1 h.2
  · exact .int _
  · exact .none
  · cases h
theorem ag8_at {k : Int} (h0 : 0 ≤ k) (h1 : k < 13) : tab8[k.toNat]? = some (ag8 k) := by
  have hlt : k.toNat < tab8.length := by rw [tab8_len]; omega
  unfold ag8
  rw [List.getElem?_eq_getElem hlt, List.getD_eq_getElem?_getD, List.getElem?_eq_getElem hlt]
  rfl
theorem ag8_v {k : Int} (h0 : 0 ≤ k) (h1 : k < 13) : AgV (ag8 k) := agv8 (List.all_eq_true.mp tab8_ok _ (List.mem_of_getElem? (ag8_at h0 h1)))
theorem run_due {q : List Nat × List Int} (hq : q ∈ nms8) : ∀ {left : List Int}, (∀ k ∈ left, 0 ≤ k ∧ k < 13) → toldOf (run8 (left.map ag8) (part q.1)) = due8 left q.2
  | [], _ => rfl
  | k :: r, h => by
    obtain ⟨h0, h1⟩ := h k (.head _)
    have ih := run_due hq (left := r) fun j hj => h j (.tail _ hj)
    have h1k := List.all_eq_true.mp (List.all_eq_true.mp one8_ok q hq) k.toNat (List.mem_range.mpr (by omega))
    have hk : ((k.toNat : Nat) : Int) = k := Int.toNat_of_nonneg h0
    unfold one8 at h1k
    rw [ag8_at h0 h1] at h1k
    rw [List.map_cons]
    have skip : ¬ (10 < k) → q.2.contains k = false → due8 (k :: r) q.2 = due8 r q.2 := fun a b => by
      unfold due8
      rw [List.filter_cons, if_neg (by rw [b]; simp; omega)]
    have take : (10 < k ∨ q.2.contains k = true) → due8 (k :: r) q.2 = if k < 11 then .bool true else .str cNo := fun a => by
      unfold due8
      rw [List.filter_cons, if_pos (by rw [Bool.or_eq_true, decide_eq_true_eq]; exact a)]
    cases ha : ag8 k with
    | str l =>
      rw [ha] at h1k
      dsimp only at h1k
      rw [Bool.and_eq_true, decide_eq_true_eq] at h1k
      obtain ⟨hlt, h1k⟩ := h1k
      rw [hk] at h1k
      by_cases h42 : l = [42]
      · rw [if_pos h42, Bool.and_eq_true, decide_eq_true_eq] at h1k
        have e : run8 (.str l :: r.map ag8) (part q.1) = run8 (r.map ag8) (part q.1) := by conv => lhs; unfold run8; rw [if_pos h42]
        rw [e, ih, skip (by omega) (by simpa using h1k.2)]
      · rw [if_neg h42, Bool.and_eq_true, beq_iff_eq] at h1k
        by_cases hs : subIn (l.map lowP) (part q.1) = true
        · have e : run8 (.str l :: r.map ag8) (part q.1) = some true := by conv => lhs; unfold run8; rw [if_neg h42, if_pos hs]
          rw [e, take (.inr (by rw [← h1k.2]; exact hs)), if_pos (by omega)]
          rfl
        · have e : run8 (.str l :: r.map ag8) (part q.1) = run8 (r.map ag8) (part q.1) := by conv => lhs; unfold run8; rw [if_neg h42, if_neg hs]
          rw [e, ih, skip (by omega) (by rw [← h1k.2]; simpa using hs)]
    | int i =>
      rw [ha] at h1k
      dsimp only at h1k
      rw [decide_eq_true_eq] at h1k
      rw [take (.inl (by omega)), if_neg (by omega)]
      rfl
    | none =>
      rw [ha] at h1k
      dsimp only at h1k
      rw [decide_eq_true_eq] at h1k
      rw [take (.inl (by omega)), if_neg (by omega)]
      rfl
    | bool b => rw [ha] at h1k; cases h1k
    | byt b => rw [ha] at h1k; cases h1k
    | obj i => rw [ha] at h1k; cases h1k
    | glob u => rw [ha] at h1k; cases h1k
theorem star8 : ((List.range 13).all fun k => match tab8[k]? with | some (.str l) => decide (l = [42]) == decide (k = 2) | _ => decide (k ≠ 2)) = true := by decide +kernel
theorem any_star : ∀ {left : List Int}, (∀ k ∈ left, 0 ≤ k ∧ k < 13) → ((left.map ag8).any fun v => match v with | .str l => decide (l = [42]) | _ => false) = left.any fun k => decide (k = 2)
  | [], _ => rfl
  | k :: r, h => by
    obtain ⟨h0, h1⟩ := h k (.head _)
    rw [List.map_cons, List.any_cons, List.any_cons, any_star fun j hj => h j (.tail _ hj)]
    congr 1
    have h1k := List.all_eq_true.mp star8 k.toNat (List.mem_range.mpr (by omega))
    rw [ag8_at h0 h1] at h1k
    have hk2 : decide (k.toNat = 2) = decide (k = 2) := by rw [decide_eq_decide]; omega
    cases ha : ag8 k with
    | str l =>
      rw [ha] at h1k
      dsimp only at h1k
      rw [beq_iff_eq, hk2] at h1k
      exact h1k
    | _ =>
      rw [ha] at h1k
      dsimp only at h1k ⊢
      rw [decide_eq_true_eq] at h1k
      symm
      rw [decide_eq_false_iff_not]
      omega
end Mine
set_option linter.unusedSimpArgs false
set_option linter.unusedVariables false
namespace Mine
theorem ints_ag (xs : List Int) : ∀ v ∈ xs.map V.int, AgV v := fun v hv => by
  obtain ⟨x, _, rfl⟩ := List.mem_map.mp hv
  exact .int x
theorem eqvAll8 : ∀ {l : List PyData}, (∀ d ∈ l, PyData.eqv d d = true) → PyData.eqvAll l l = true
  | [], _ => rfl
  | x :: r, h => by
    show (PyData.eqv x x && PyData.eqvAll r r) = true
    rw [h x (.head _), eqvAll8 fun d hd => h d (.tail _ hd)]
    rfl
theorem eqv_d8 (v : V) : PyData.eqv (dOf8 v) (dOf8 v) = true := by
  cases v <;> simp [dOf8, PyData.eqv]
section
variable {loc : String → Option V} {sto : List O}
theorem toD_ag {i : Nat} {vs : List V} (h : sto[i]? = some (.list vs)) (ha : ∀ v ∈ vs, AgV v) : toD 4 sto (.obj i) = some (.list (vs.map dOf8)) := by
  show (match sto[i]? with | some (.list xs) => (toDs (toD 3 sto) xs).map PyData.list | some (.tuple xs) => (toDs (toD 3 sto) xs).map PyData.tuple | _ => none) = _
  rw [h]
  dsimp only
  rw [toDs_ag 2 sto ha]
  rfl
theorem eqP_same8 {i j : Nat} {vs : List V} (h1 : sto[i]? = some (.list vs)) (h2 : sto[j]? = some (.list vs)) (ha : ∀ v ∈ vs, AgV v) : eqP ⟨loc, sto⟩ (.obj i) (.obj j) = some true := by
  unfold eqP
  simp only [toD_ag h1 ha, toD_ag h2 ha]
  have : PyData.eqv (.list (vs.map dOf8)) (.list (vs.map dOf8)) = true := eqvAll8 fun d hd => by
    obtain ⟨v, _, rfl⟩ := List.mem_map.mp hd
    exact eqv_d8 v
  rw [this]
theorem eqP_nil8 {i j : Nat} {vs : List V} (h1 : sto[i]? = some (.list vs)) (h2 : sto[j]? = some (.list [])) (ha : ∀ v ∈ vs, AgV v) : eqP ⟨loc, sto⟩ (.obj i) (.obj j) = some (decide (vs = [])) := by
  unfold eqP
  simp only [toD_ag h1 ha, toD_ag h2 (fun v hv => by cases hv)]
  congr 1
  cases vs with
  | nil => rfl
  | cons v r => simp [PyData.eqv, PyData.eqvAll]
theorem inP_int8 {f : Nat} {fits : List Int} {k : Int} (h : sto[f]? = some (.list (fits.map V.int))) : inP ⟨loc, sto⟩ (.int k) (.obj f) = some (fits.contains k) := by
  unfold inP
  dsimp only
  rw [h]
  dsimp only
  rw [toDs_ag 3 sto (ints_ag fits)]
  show some (((fits.map V.int).map dOf8).any fun y => PyData.eqv y (.int k)) = _
  congr 1
  clear h
  induction fits with
  | nil => rfl
  | cons x r ih =>
    rw [List.map_cons, List.map_cons, List.any_cons, ih, List.contains_cons]
    congr 1
    show PyData.eqv (.int x) (.int k) = _
    have e : PyData.eqv (.int x) (.int k) = decide (x = k) := by
      have e1 : PyData.eqv (.int x) (.int k) = (x == k) := by simp [PyData.eqv]
      rw [e1, Bool.eq_iff_iff, beq_iff_eq, decide_eq_true_eq]
    rw [e]
    by_cases hx : x = k
    · simp [hx]
    · have : (k == x) = false := by simpa using fun e : k = x => hx e.symm
      simp [hx, this]
end
def tps8 : List Nat := [3, 5, 7, 9, 11, 14, 16, 18, 20, 22, 25, 27]
structure L8 (sl : String → Option V) : Prop where
  l1 : sl "agents" = some (.obj 0)
  l2 : sl "names" = some (.obj 12)
  l3 : sl "one" = some (.obj 29)
  l4 : sl "given" = some (.obj 30)
theorem L8.upd {sl sl' : String → Option V} (h : L8 sl) (k : ∀ m, m ∈ ["agents", "names", "one", "given"] → sl' m = sl m) : L8 sl' :=
  ⟨(k _ (by decide)).trans h.l1, (k _ (by decide)).trans h.l2, (k _ (by decide)).trans h.l3, (k _ (by decide)).trans h.l4⟩
structure G8 (ss : List O) : Prop where
  g0 : ss[0]? = some (.list tab8)
  gn : ss[12]? = some (.list (tps8.map V.obj))
  gt : ∀ tq ∈ tps8.zip nms8, ss[tq.1]? = some (.tuple [.str tq.2.1, .obj (tq.1 - 1)]) ∧ ss[tq.1 - 1]? = some (.list (tq.2.2.map V.int))
  ga : ∃ as, ss[29]? = some (.inst as) ∧ as.lookup "useragents" = some (.obj 30) ∧ as.lookup "applies_to" = none
theorem tps_ne : ∀ tq ∈ tps8.zip nms8, tq.1 ≠ 30 ∧ tq.1 - 1 ≠ 30 := by
  intro tq h
  have := List.of_mem_zip (a := tq.1) (b := tq.2) h
  have h1 : ∀ t ∈ tps8, t ≠ 30 ∧ t - 1 ≠ 30 := by decide
  exact h1 _ this.1
theorem G8.ke {ss ss' : List O} (h : G8 ss) (k : ∀ i o, i ≠ 30 → ss[i]? = some o → ss'[i]? = some o) : G8 ss' := by
  obtain ⟨as, a1, a2, a3⟩ := h.ga
  exact ⟨k _ _ (by decide) h.g0, k _ _ (by decide) h.gn, fun tq htq => ⟨k _ _ (tps_ne tq htq).1 (h.gt tq htq).1, k _ _ (tps_ne tq htq).2 (h.gt tq htq).2⟩, ⟨as, k _ _ (by decide) a1, a2, a3⟩⟩
theorem G8.pre {ss ss' : List O} (h : G8 ss) (p : ss <+: ss') : G8 ss' := h.ke fun i o _ e => get_pre p e
theorem due8_ty (left fits : List Int) : (∃ b, due8 left fits = .bool b) ∨ due8 left fits = .str cNo := by
  unfold due8
  split
  · exact .inl ⟨_, rfl⟩
  · split
    · exact .inl ⟨_, rfl⟩
    · exact .inr rfl
section
variable {sl : String → Option V} {ss : List O}
theorem typeV_due (left fits : List Int) : ∃ T, typeV (due8 left fits) = some T := by
  rcases due8_ty left fits with ⟨b, e⟩ | e <;> rw [e] <;> exact ⟨_, rfl⟩
theorem eqP_due8 (st : St) (left fits : List Int) : eqP st (due8 left fits) (due8 left fits) = some true := by
  rcases due8_ty left fits with ⟨b, e⟩ | e
  · rw [e]
    show some (PyData.eqv (.bool b) (.bool b)) = _
    cases b <;> rfl
  · rw [e, eqP_str]; simp
/-- the answer is compared -/
theorem t8_cmp {left : List Int} {q : List Nat × List Int} (h3 : sl "one" = some (.obj 29)) (hq : q ∈ nms8) (hn : sl "name" = some (.str q.1)) (hd : sl "due" = some (due8 left q.2)) (hb : ∀ k ∈ left, 0 ≤ k ∧ k < 13) (R : Rec8 ss 29 30 (left.map ag8))
    {Q : Fl → St → Prop} (hQ : ∀ sl' ss', (∀ m, m ≠ "told" → sl' m = sl m) → ss <+: ss' → Q .next ⟨sl', ss'⟩) : wp (seqF l08s7 l08s8) ⟨sl, ss⟩ Q := by
  have hnm := List.all_eq_true.mp nm8_ok q hq
  unfold nm8 at hnm
  rw [Bool.and_eq_true, Bool.and_eq_true, decide_eq_true_eq, decide_eq_true_eq] at hnm
  rw [wp_seq']
  unfold l08s7
  simp only [wp_bind, wp_pure, wpE_get, h3, hn]
  refine t8_str R (by omega) hnm.1.2 fun ss' p => ?_
  rw [run_due hq hb]
  simp only [wp_setL]
  obtain ⟨T, hT⟩ := typeV_due left q.2
  unfold l08s8
  rw [wp_ite, wp_or]
  simp only [wp_bind, wp_pure, wpE_get, String.reduceEq, if_false, if_true, reduceIte, hd, wpE_ne, eqP_due8, Bool.not_true, wp_truthyB, Bool.false_eq_true]
  rw [wp_or]
  simp only [wp_bind, wp_pure, wpE_get, String.reduceEq, if_false, if_true, reduceIte, hd, wL_type hT, wpE_isnot]
  have e : isP (V.glob (.type T)) (V.glob (.type T)) = some true := by
    show some (T == T) = _
    simp
  rw [e]
  simp only [Bool.not_true, wp_truthyB, Bool.false_eq_true, if_false]
  exact hQ _ _ (fun m hm => by simp [hm]) p
/-- one name is asked -/
theorem t8_ask {left : List Int} {j f : Nat} {q : List Nat × List Int} (hl : L8 sl) (hq : q ∈ nms8) (hn : sl "name" = some (.str q.1)) (hf : sl "fits" = some (.obj f)) (hj : sl "left" = some (.obj j)) (gf : ss[f]? = some (.list (q.2.map V.int))) (gj : ss[j]? = some (.list (left.map V.int))) (hb : ∀ k ∈ left, 0 ≤ k ∧ k < 13) (hlen : left.length ≤ 1000) (R : Rec8 ss 29 30 (left.map ag8))
    {Q : Fl → St → Prop} (hQ : ∀ sl' ss', (∀ m, m ∉ ["due", "marks", "told"] → sl' m = sl m) → ss <+: ss' → Q .next ⟨sl', ss'⟩) : wp l08f9 ⟨sl, ss⟩ Q := by
  have hnm := List.all_eq_true.mp nm8_ok q hq
  unfold nm8 at hnm
  rw [Bool.and_eq_true, Bool.and_eq_true, decide_eq_true_eq, decide_eq_true_eq] at hnm
  unfold l08f9
  rw [wp_seq']
  unfold l08s4
  simp only [wp_bind, wp_pure, wp_setL]
  rw [wp_seq']
  unfold l08s5
  rw [wp_bind]
  unfold l08c3
  refine wp_comp (f := V.int) (a := .obj j) (st1 := ⟨fun k => if k = "due" then some (.bool false) else sl k, ss⟩) (src := some (j, .list (left.map V.int))) left (fun k => decide (10 < k) || q.2.contains k) (fun k => .int k) ?_ ?_ (by simp) (fun p hp => by cases hp; exact gj) (by omega) (fun k hk loc sto hfr hpre hk2 => ?_) (fun sto' hp => ?_)
  · simp only [wpE_get, String.reduceEq, if_false, reduceIte, hj, and_self]
  · rw [wL_iter gj]; exact ⟨rfl, rfl⟩
  · have hff : loc "fits" = some (.obj f) := by rw [hfr "fits" (by simp)]; simpa using hf
    have hinf : ∀ l2, inP ⟨l2, sto⟩ (.int k) (.obj f) = some (q.2.contains k) := fun l2 => inP_int8 (get_pre hpre gf)
    simp only [wp_or, wp_bind, wp_pure, wpE_get, hk2, hff, wpE_gt, wp_truthyB, wpE_in, hinf]
    by_cases h10 : 10 < k
    · simp only [h10, decide_true, if_true, Bool.true_or]
      exact ⟨trivial, ⟨trivial, hpre⟩, fun _ => ⟨trivial, trivial, hpre⟩⟩
    · simp only [h10, decide_false, Bool.false_eq_true, if_false, Bool.false_or]
      cases hc : q.2.contains k with
      | true =>
        simp only [if_true]
        exact ⟨trivial, ⟨trivial, hpre⟩, fun _ => ⟨trivial, trivial, hpre⟩⟩
      | false =>
        simp only [Bool.false_eq_true, if_false]
        exact ⟨trivial, ⟨trivial, hpre⟩, fun h => h.elim⟩
  · simp only [wp_setL, wp_bind, wp_pure]
    have gM : (sto' ++ [O.list ((left.filter fun k => decide (10 < k) || q.2.contains k).map fun k => V.int k)])[sto'.length]? = some (.list ((left.filter fun k => decide (10 < k) || q.2.contains k).map V.int)) := get_app_len _ _ _
    have pA : ss <+: sto' ++ [O.list ((left.filter fun k => decide (10 < k) || q.2.contains k).map fun k => V.int k)] := List.IsPrefix.trans hp (List.prefix_append _ _)
    generalize (sto' ++ [O.list ((left.filter fun k => decide (10 < k) || q.2.contains k).map fun k => V.int k)]) = A at gM pA
    generalize sto'.length = M at gM
    have hml : (left.filter fun k => decide (10 < k) || q.2.contains k).length ≤ 1000 := Nat.le_trans (List.length_filter_le _ _) hlen
    rw [wp_seq']
    unfold l08s6
    rw [wp_ite]
    simp only [wp_bind, wp_pure, wpE_get, String.reduceEq, if_false, if_true, reduceIte, wp_allocList, List.length_nil, Nat.zero_le, true_and, wpE_ne]
    have pB : A <+: A ++ [O.list []] := List.prefix_append _ _
    have gZ : (A ++ [O.list []])[A.length]? = some (.list []) := get_app_len _ _ _
    generalize (A ++ [O.list []]) = B at pB gZ
    rw [eqP_nil8 (get_pre pB gM) gZ (ints_ag _)]
    simp only [wp_truthyB]
    have fin : ∀ sl1 : String → Option V, (∀ m, m ∉ ["due", "marks"] → sl1 m = sl m) → sl1 "due" = some (due8 left q.2) → wp (seqF l08s7 l08s8) ⟨sl1, B⟩ Q := fun sl1 k1 k2 => by
      refine t8_cmp (left := left) ((k1 _ (by decide)).trans hl.l3) hq ((k1 _ (by decide)).trans hn) k2 hb (R.pre (pA.trans pB)) fun sl' ss' k3 p3 => hQ sl' ss' (fun m hm => ?_) ((pA.trans pB).trans p3)
      simp only [List.mem_cons, List.not_mem_nil, or_false, not_or] at hm
      rw [k3 m hm.2.2]
      exact k1 m (by simp [hm])
    have hdue : due8 left q.2 = (match (left.filter fun k => decide (10 < k) || q.2.contains k) with | [] => .bool false | m :: _ => if m < 11 then .bool true else .str cNo) := rfl
    generalize (left.filter fun k => decide (10 < k) || q.2.contains k) = ms at gM hml hdue
    cases ms with
    | nil =>
      simp only [List.map_nil, decide_true, Bool.not_true, Bool.false_eq_true, if_false]
      refine fin _ (fun m hm => ?_) ?_
      · simp only [List.mem_cons, List.not_mem_nil, or_false, not_or] at hm
        simp [hm]
      · rw [hdue]; simp
    | cons m r =>
      have hne : ¬ ((m :: r).map V.int = []) := by simp
      have it : ∀ (l2 : String → Option V) (Q2 : V → St → Prop), wp (pItem (.obj M) (.int 0)) ⟨l2, B⟩ Q2 = Q2 (.int m) ⟨l2, B⟩ := fun l2 Q2 => wL_item (k := 0) (get_pre pB gM) (by rw [List.length_map]; omega) rfl
      simp only [hne, decide_false, Bool.not_false, if_true]
      rw [wp_ite]
      simp only [wp_bind, wp_pure, wpE_get, String.reduceEq, if_false, if_true, reduceIte, it, wpE_lt, wp_truthyB]
      have hd2 : due8 left q.2 = if m < 11 then .bool true else .str cNo := hdue
      by_cases h11 : m < 11
      · simp only [h11, decide_true, if_true, wp_setL]
        refine fin _ (fun m hm => ?_) ?_
        · simp only [List.mem_cons, List.not_mem_nil, or_false, not_or] at hm
          simp [hm]
        · rw [hd2, if_pos h11]; simp
      · simp only [h11, decide_false, Bool.false_eq_true, if_false, wp_setL]
        refine fin _ (fun m hm => ?_) ?_
        · simp only [List.mem_cons, List.not_mem_nil, or_false, not_or] at hm
          simp [hm]
        · rw [hd2, if_neg h11]; simp [cNo]
end
end Mine
set_option linter.unusedSimpArgs false
set_option linter.unusedVariables false
namespace Mine
section
variable {sl : String → Option V} {ss : List O}
theorem zip8 : (tps8.zip nms8).map (fun tq => V.obj tq.1) = tps8.map V.obj := rfl
/-- all names are asked -/
theorem t8_names {left : List Int} {j : Nat} (hl : L8 sl) (hg : G8 ss) (hj : sl "left" = some (.obj j)) (gj : ss[j]? = some (.list (left.map V.int))) (hb : ∀ k ∈ left, 0 ≤ k ∧ k < 13) (hlen : left.length ≤ 1000) (R : Rec8 ss 29 30 (left.map ag8))
    {Q : Fl → St → Prop} (hQ : ∀ sl' ss', L8 sl' → sl' "left" = some (.obj j) → ss <+: ss' → Q .next ⟨sl', ss'⟩) : wp l08s13 ⟨sl, ss⟩ Q := by
  unfold l08s13
  simp only [wp_bind, wp_pure, wpE_get, hl.l2]
  rw [wL_iter hg.gn]
  dsimp only
  rw [← zip8]
  refine wp_for (f := fun tq : Nat × (List Nat × List Int) => V.obj tq.1) (tps8.zip nms8) (fun _ l s => L8 l ∧ l "left" = some (.obj j) ∧ ss <+: s) (fun d l s hI p hp => ?_) (fun d x r l s hx hI => ?_) (fun l s hI => hQ l s hI.1 hI.2.1 hI.2.2) ⟨hl, hj, List.prefix_refl _⟩
  · cases hp
    rw [zip8]
    exact get_pre hI.2.2 hg.gn
  · obtain ⟨i1, i2, i3⟩ := hI
    have hxm : x ∈ tps8.zip nms8 := by rw [hx]; simp
    have g1 := (hg.pre i3).gt x hxm
    have hq : x.2 ∈ nms8 := (List.of_mem_zip (a := x.1) (b := x.2) hxm).2
    rw [wp_bind, wL_unpack2 g1.1]
    simp only [wp_setL]
    refine t8_ask (left := left) (j := j) (f := x.1 - 1) (q := x.2) (i1.upd fun m hm => ?_) hq (by simp) (by simp) (by simpa using i2) g1.2 (get_pre i3 gj) hb hlen (R.pre i3) fun sl' ss' k p => ⟨(i1.upd fun m hm => ?_), ?_, i3.trans p⟩
    · simp only [List.mem_cons, List.not_mem_nil, or_false] at hm
      rcases hm with rfl | rfl | rfl | rfl <;> rfl
    · show sl' m = l m
      rw [k m (by revert m; decide)]
      simp only [List.mem_cons, List.not_mem_nil, or_false] at hm
      rcases hm with rfl | rfl | rfl | rfl <;> rfl
    · show sl' "left" = _
      rw [k _ (by decide)]
      simpa using i2
theorem eqNo (st : St) : eqP st (.str cNo) (.str (cps "no such thing")) = some true := by
  rw [eqP_str]
  congr 1
theorem eqKind (st : St) : eqP st (.str cKind) (.str (cps "not of this kind")) = some true := by
  rw [eqP_str]
  congr 1
theorem t8_s14 {left : List Int} {j : Nat} (hl : L8 sl) (hj : sl "left" = some (.obj j)) (gj : ss[j]? = some (.list (left.map V.int))) (hb : ∀ k ∈ left, 0 ≤ k ∧ k < 13) (R : Rec8 ss 29 30 (left.map ag8))
    {Q : Fl → St → Prop} (hQ : Q .next ⟨sl, ss⟩) : wp l08s14 ⟨sl, ss⟩ Q := by
  unfold l08s14
  rw [wp_ite]
  simp only [wp_bind, wp_pure, wpE_get, hl.l3]
  refine t8_none R fun b hbb => ?_
  have hb2 := hbb.trans (any_star hb)
  clear hbb
  simp only [wp_bind, wp_pure, wpE_get, hj, wpE_in]
  rw [inP_int8 gj]
  have e : left.contains 2 = b := by
    rw [hb2]
    clear hb2 gj hb R
    induction left with
    | nil => rfl
    | cons x r ih =>
      rw [List.contains_cons, List.any_cons, ih]
      congr 1
      by_cases h : x = 2
      · subst h; rfl
      · rw [decide_eq_false h, beq_eq_false_iff_ne]
        exact fun e => h e.symm
  rw [e]
  simp only [wpE_isnot, isP_bool, beq_self_eq_true, Bool.not_true, wp_truthyB, Bool.false_eq_true, if_false]
  exact hQ
theorem t8_s15 {ags : List V} (h3 : sl "one" = some (.obj 29)) (R : Rec8 ss 29 30 ags) {Q : Fl → St → Prop} (hQ : ∀ ss', ss <+: ss' → Q .next ⟨sl, ss'⟩) : wp l08s15 ⟨sl, ss⟩ Q := by
  unfold l08s15
  rw [wp_ite, wp_or]
  simp only [wp_bind, wp_pure, wpE_get, h3]
  refine t8_int R ?_
  simp only [wpE_ne, eqNo, Bool.not_true, wp_truthyB, Bool.false_eq_true, if_false]
  rw [wp_or]
  simp only [wp_bind, wp_pure, wpE_get, h3, wp_allocList, List.length_cons, List.length_nil]
  refine ⟨by omega, ?_⟩
  have p := List.prefix_append ss [O.list [V.str (cps "fig")]]
  refine t8_list (R.pre p) (get_app_len _ _ _) ?_
  simp only [wpE_ne, eqNo, Bool.not_true, wp_truthyB, Bool.false_eq_true, if_false]
  exact hQ _ p
theorem t8_s16 {ags : List V} (h3 : sl "one" = some (.obj 29)) (R : Rec8 ss 29 30 ags) {Q : Fl → St → Prop} (hQ : Q .next ⟨sl, ss⟩) : wp l08s16 ⟨sl, ss⟩ Q := by
  unfold l08s16
  rw [wp_ite]
  simp only [wp_bind, wp_pure, wpE_get, h3]
  refine t8_byt R ?_
  simp only [wpE_ne, eqKind, Bool.not_true, wp_truthyB, Bool.false_eq_true, if_false]
  exact hQ
/-- the agents by their kinds -/
theorem t8_agents {left : List Int} {j : Nat} (h1 : sl "agents" = some (.obj 0)) (g0 : ss[0]? = some (.list tab8)) (hj : sl "left" = some (.obj j)) (gj : ss[j]? = some (.list (left.map V.int))) (hb : ∀ k ∈ left, 0 ≤ k ∧ k < 13) (hlen : left.length ≤ 1000)
    {Q : V → St → Prop} (hQ : ∀ ss' i, ss <+: ss' → ss'[i]? = some (.list (left.map ag8)) → ss.length ≤ i → Q (.obj i) ⟨sl, ss'⟩) : wp (compV ["agents"] "kind" (getL "left") (PM.pure true) (PM.bind (getL "agents") fun o => PM.bind (getL "kind") fun i => pItem o i)) ⟨sl, ss⟩ Q := by
  refine wp_comp (f := V.int) (a := .obj j) (st1 := ⟨sl, ss⟩) (src := some (j, .list (left.map V.int))) left (fun _ => true) ag8 ?_ ?_ (by simp) (fun p hp => by cases hp; exact gj) (by omega) (fun k hk loc sto hfr hpre hk2 => ?_) (fun sto' hp => ?_)
  · simp only [wpE_get, hj, and_self]
  · rw [wL_iter gj]; exact ⟨rfl, rfl⟩
  · have hff : loc "agents" = some (.obj 0) := by rw [hfr "agents" (by simp)]; exact h1
    obtain ⟨k0, k1⟩ := hb k hk
    have hkk : ((k.toNat : Nat) : Int) = k := Int.toNat_of_nonneg k0
    have it : ∀ Q2 : V → St → Prop, wp (pItem (.obj 0) (.int k)) ⟨loc, sto⟩ Q2 = Q2 (ag8 k) ⟨loc, sto⟩ := fun Q2 => by
      have := wL_item (loc := loc) (Q := Q2) (get_pre hpre g0) (by rw [tab8_len]; omega) (ag8_at k0 k1)
      rw [hkk] at this
      exact this
    simp only [wp_bind, wp_pure, wpE_get, hff, hk2, it]
    exact ⟨trivial, ⟨trivial, hpre⟩, fun _ => ⟨trivial, trivial, hpre⟩⟩
  · rw [filt_true]
    exact hQ _ _ (List.IsPrefix.trans hp (List.prefix_append _ _)) (get_app_len _ _ _) (List.IsPrefix.length_le hp)
theorem t8_s17 {left : List Int} {j : Nat} (hl : L8 sl) (hg : G8 ss) (hj : sl "left" = some (.obj j)) (gj : ss[j]? = some (.list (left.map V.int))) (hb : ∀ k ∈ left, 0 ≤ k ∧ k < 13) (hlen : left.length ≤ 1000) (R : Rec8 ss 29 30 (left.map ag8))
    {Q : Fl → St → Prop} (hQ : ∀ ss', ss <+: ss' → Q .next ⟨sl, ss'⟩) : wp l08s17 ⟨sl, ss⟩ Q := by
  obtain ⟨as, a1, a2, a3⟩ := R.a
  unfold l08s17
  rw [wp_ite, wp_or]
  simp only [wp_bind, wp_pure, wpE_get, hl.l3, hl.l4]
  rw [wL_gAttr (n := "useragents") (v := .obj 30) a1 a2 (by intro u e; cases e)]
  simp only [wpE_isnot, isP_obj, Bool.not_true, wp_truthyB, Bool.false_eq_true, if_false]
  rw [wp_or]
  simp only [wp_bind, wp_pure, wpE_get, hl.l4]
  unfold l08c10
  refine t8_agents hl.l1 hg.g0 hj gj hb hlen fun ss' i p gi _ => ?_
  simp only [wpE_ne]
  rw [eqP_same8 (get_pre p R.l) gi R.v]
  simp only [Bool.not_true, wp_truthyB, Bool.false_eq_true, if_false]
  exact hQ _ p
theorem wL_extendE8 {i j : Nat} {xs : List V} {loc : String → Option V} {sto : List O} {Q : V → St → Prop} (hi : sto[i]? = some (.list [])) (hj : sto[j]? = some (.list xs)) (hx : xs.length ≤ 1000000) (hQ : Q .none ⟨loc, sto.set i (.list xs)⟩) : wp (cExtendE [.obj i, .obj j]) ⟨loc, sto⟩ Q := by
  cases xs with
  | nil =>
    have e : sto.set i (.list []) = sto := by
      refine List.ext_getElem? fun k => ?_
      by_cases h : i = k
      · subst h; rw [get_set_here hi, hi]
      · rw [List.getElem?_set_ne h]
    rw [e] at hQ
    refine wp_of (a := .none) ?_ hQ
    unfold cExtendE
    simp only [hi, hj, List.length_nil, Nat.zero_le, if_true]
  | cons x r =>
    have e : cExtendE [.obj i, .obj j] ⟨loc, sto⟩ = cExtend [.obj i, .obj j] ⟨loc, sto⟩ := by
      unfold cExtendE
      simp only [hi, hj]
    unfold wp
    rw [e]
    have := wL_extend (loc := loc) (Q := Q) hi hj
    unfold wp at this
    rw [this]
    exact ⟨⟨by simpa using hx, by simp⟩, by simpa using hQ⟩
/-- the body of the outer loop -/
theorem t8_body {left : List Int} {j : Nat} {old : List V} (hl : L8 sl) (hg : G8 ss) (h30 : ss[30]? = some (.list old)) (hold : old.length ≤ 1000) (hj : sl "left" = some (.obj j)) (gj : ss[j]? = some (.list (left.map V.int))) (hj30 : j ≠ 30) (hb : ∀ k ∈ left, 0 ≤ k ∧ k < 13) (hlen : left.length ≤ 1000)
    {Q : Fl → St → Prop} (hQ : ∀ sl' ss', L8 sl' → (∀ i o, i ≠ 30 → ss[i]? = some o → ss'[i]? = some o) → ss'[30]? = some (.list (left.map ag8)) → Q .next ⟨sl', ss'⟩) : wp l08f18 ⟨sl, ss⟩ Q := by
  unfold l08f18
  rw [wp_seq']
  unfold l08s11
  simp only [wp_bind, wp_pure, wpE_get, hl.l4]
  rw [wL_delAll h30 (by omega)]
  have kA : ∀ i o, i ≠ 30 → ss[i]? = some o → (ss.set 30 (.list []))[i]? = some o := fun i o h e => get_set_other e (fun e => h e.symm)
  have gA : (ss.set 30 (O.list []))[30]? = some (.list []) := get_set_here h30
  generalize ss.set 30 (O.list []) = A at kA gA
  have hgA := hg.ke kA
  rw [wp_seq']
  unfold l08s12
  simp only [wp_bind, wp_pure, wpE_get, hl.l4]
  rw [wL_isList gA]
  unfold l08c2
  refine t8_agents hl.l1 hgA.g0 hj (kA _ _ hj30 gj) hb hlen fun B b pB gb hbb => ?_
  have hb30 : b ≠ 30 := fun e => by
    have := get_lt gA
    omega
  refine wL_extendE8 (get_pre pB gA) gb (by rw [List.length_map]; omega) ?_
  have kC : ∀ i o, i ≠ 30 → ss[i]? = some o → (B.set 30 (.list (left.map ag8)))[i]? = some o := fun i o h e => get_set_other (get_pre pB (kA i o h e)) (fun e => h e.symm)
  have gC : (B.set 30 (O.list (left.map ag8)))[30]? = some (.list (left.map ag8)) := get_set_here (get_pre pB gA)
  generalize B.set 30 (O.list (left.map ag8)) = C at kC gC
  simp only [wp_pure]
  have hgC := hg.ke kC
  have RC : Rec8 C 29 30 (left.map ag8) := ⟨hgC.ga, gC, fun v hv => by
    obtain ⟨k, hk, rfl⟩ := List.mem_map.mp hv
    exact ag8_v (hb k hk).1 (hb k hk).2, by rw [List.length_map]; exact hlen⟩
  have gjC := kC _ _ hj30 gj
  rw [wp_seq']
  refine t8_names hl hgC hj gjC hb hlen RC fun sl1 D l1 l1j pD => ?_
  dsimp only
  rw [wp_seq']
  refine t8_s14 l1 l1j (get_pre pD gjC) hb (RC.pre pD) ?_
  dsimp only
  rw [wp_seq']
  refine t8_s15 l1.l3 (RC.pre pD) fun E pE => ?_
  dsimp only
  have pDE := pD.trans pE
  rw [wp_seq']
  refine t8_s16 l1.l3 (RC.pre pDE) ?_
  dsimp only
  refine t8_s17 l1 (hgC.pre pDE) l1j (get_pre pDE gjC) hb hlen (RC.pre pDE) fun F pF => ?_
  have pF' := pDE.trans pF
  exact hQ sl1 F l1 (fun i o h e => get_pre pF' (kC i o h e)) (get_pre pF' gC)
end
end Mine
set_option linter.unusedSimpArgs false
set_option linter.unusedVariables false
namespace Mine
theorem cut_map8 (xs : List Int) (lo hi : Option Int) : cut (xs.map V.int) lo hi = (cut xs lo hi).map V.int := by
  unfold cut
  rw [List.map_take, List.map_drop, List.length_map]
theorem cut_sub8 {xs : List Int} {lo hi : Option Int} {x : Int} (h : x ∈ cut xs lo hi) : x ∈ xs := List.mem_of_mem_drop (List.mem_of_mem_take h)
theorem cut_len8 (xs : List Int) (lo hi : Option Int) : (cut xs lo hi).length ≤ xs.length := by
  unfold cut
  rw [List.length_take, List.length_drop]
  omega
section
variable {sl : String → Option V} {ss : List O}
/-- the loop over the two lists -/
theorem t8_two {ks ks2 : List Int} {j2 jt : Nat} (hl : L8 sl) (hg : G8 ss) (h30 : ss[30]? = some (.list [])) (g1 : ss[1]? = some (.list (ks.map V.int))) (g2 : ss[j2]? = some (.list (ks2.map V.int))) (gt : ss[jt]? = some (.tuple [.obj 1, .obj j2])) (hj2 : j2 ≠ 30) (hjt : jt ≠ 30)
    (b1 : ∀ k ∈ ks, 0 ≤ k ∧ k < 13) (b2 : ∀ k ∈ ks2, 0 ≤ k ∧ k < 13) (n1 : ks.length ≤ 1000) (n2 : ks2.length ≤ 1000) {Q : Fl → St → Prop} (hQ : ∀ sl' ss', Q .next ⟨sl', ss'⟩) :
    wp (loopF (some (jt, O.tuple [.obj 1, .obj j2])) (fun x => PM.bind ((setL "left") x) fun _ => l08f18) [.obj 1, .obj j2]) ⟨sl, ss⟩ Q := by
  refine wp_for (f := fun q : Nat × List Int => V.obj q.1) [(1, ks), (j2, ks2)] (fun _ l s => L8 l ∧ (∀ i o, i ≠ 30 → ss[i]? = some o → s[i]? = some o) ∧ ∃ old, s[30]? = some (.list old) ∧ old.length ≤ 1000) (fun d l s hI p hp => ?_) (fun d x r l s hx hI => ?_) (fun l s _ => hQ l s) ⟨hl, fun _ _ _ h => h, [], h30, by simp⟩
  · cases hp
    exact hI.2.1 _ _ hjt gt
  · obtain ⟨i1, i2, old, i3, i4⟩ := hI
    have hxm : x ∈ [(1, ks), (j2, ks2)] := by rw [hx]; simp
    have hh : x.1 ≠ 30 ∧ ss[x.1]? = some (.list (x.2.map V.int)) ∧ (∀ k ∈ x.2, 0 ≤ k ∧ k < 13) ∧ x.2.length ≤ 1000 := by
      simp only [List.mem_cons, List.not_mem_nil, or_false] at hxm
      rcases hxm with rfl | rfl
      · exact ⟨(by decide : (1 : Nat) ≠ 30), g1, b1, n1⟩
      · exact ⟨hj2, g2, b2, n2⟩
    rw [wp_bind, wp_setL]
    refine t8_body (left := x.2) (j := x.1) (i1.upd fun m hm => ?_) (hg.ke i2) i3 i4 (by simp) (i2 _ _ hh.1 hh.2.1) hh.1 hh.2.2.1 hh.2.2.2 fun sl' ss' k1 k2 k3 => ⟨k1, fun i o h e => k2 i o h (i2 i o h e), _, k3, by rw [List.length_map]; exact hh.2.2.2⟩
    simp only [List.mem_cons, List.not_mem_nil, or_false] at hm
    rcases hm with rfl | rfl | rfl | rfl <;> rfl
theorem t8_rest {ks : List Int} (hl : L8 sl) (hk : sl "kinds" = some (.obj 1)) (hg : G8 ss) (h30 : ss[30]? = some (.list [])) (g1 : ss[1]? = some (.list (ks.map V.int))) (hlen : ss.length = 32)
    (b1 : ∀ k ∈ ks, 0 ≤ k ∧ k < 13) (n1 : ks.length ≤ 1000) {Q : Fl → St → Prop} (hQ : ∀ st', Q (.ret (.bool true)) st') : wp (seqF l08s26 l08s27) ⟨sl, ss⟩ Q := by
  have fin : ∀ sl' ss', wp l08s27 ⟨sl', ss'⟩ Q := fun sl' ss' => by
    unfold l08s27
    simp only [wp_bind, wp_pure]
    exact hQ _
  rw [wp_seq']
  unfold l08s26
  simp only [wp_bind, wp_pure, wpE_get, hk]
  rw [wp_ite]
  simp only [wp_bind, wp_pure, wpE_get, hk, wp_allocList, List.length_nil, Nat.zero_le, true_and, wpE_ne]
  have pB : ss <+: ss ++ [O.list []] := List.prefix_append _ _
  have gZ : (ss ++ [O.list []])[ss.length]? = some (.list []) := get_app_len _ _ _
  have lB : (ss ++ [O.list []]).length = 33 := by simp [hlen]
  generalize (ss ++ [O.list []]) = B at pB gZ lB
  rw [eqP_nil8 (get_pre pB g1) gZ (ints_ag _)]
  simp only [wp_truthyB]
  have go : ∀ ks2 : List Int, (∀ k ∈ ks2, 0 ≤ k ∧ k < 13) → ks2.length ≤ 1000 → wp (allocTuple [.obj 1, .obj B.length]) ⟨sl, B ++ [O.list (ks2.map V.int)]⟩ (fun v s => wp (iterOf v) s fun p s => wp (loopF p.1 (fun x => PM.bind ((setL "left") x) fun _ => l08f18) p.2) s (fun f st' => match f with | .next => wp l08s27 st' Q | .brk => Q .brk st' | .cont => Q .cont st' | .ret v => Q (.ret v) st')) := fun ks2 b2 n2 => by
    have pC : B <+: B ++ [O.list (ks2.map V.int)] := List.prefix_append _ _
    have gC : (B ++ [O.list (ks2.map V.int)])[B.length]? = some (.list (ks2.map V.int)) := get_app_len _ _ _
    have lC : (B ++ [O.list (ks2.map V.int)]).length = 34 := by simp [lB]
    rw [lB] at gC ⊢
    generalize (B ++ [O.list (ks2.map V.int)]) = C at pC gC lC
    rw [wp_allocTuple]
    refine ⟨by simp, ?_⟩
    dsimp only
    rw [lC]
    have pD : C <+: C ++ [O.tuple [.obj 1, .obj 33]] := List.prefix_append _ _
    have gD : (C ++ [O.tuple [.obj 1, .obj 33]])[C.length]? = some (.tuple [.obj 1, .obj 33]) := get_app_len _ _ _
    rw [lC] at gD
    generalize (C ++ [O.tuple [.obj 1, .obj 33]]) = D at pD gD
    have pA := (pB.trans pC).trans pD
    rw [wL_iterT gD]
    dsimp only
    exact t8_two hl (hg.pre pA) (get_pre pA h30) (get_pre pA g1) (get_pre pD gC) gD (by decide) (by decide) b1 b2 n1 n2 fun sl' ss' => fin sl' ss'
  by_cases h : ks.map V.int = []
  · simp only [h, decide_true, Bool.not_true, Bool.false_eq_true, if_false, List.length_cons, List.length_nil]
    refine ⟨by omega, ?_⟩
    exact go [1] (by decide) (by decide)
  · simp only [h, decide_false, Bool.not_false, if_true, hk]
    rw [wL_slice (get_pre pB g1) (lo := some 1) (hi := none) rfl rfl]
    refine ⟨by rw [List.length_map]; omega, ?_⟩
    rw [cut_map8]
    exact go _ (fun k hk => b1 k (cut_sub8 hk)) (Nat.le_trans (cut_len8 _ _ _) n1)
end
theorem wX_extend {i j : Nat} {xs ys : List V} {loc : String → Option V} {sto : List O} {Q : V → St → Prop} (hi : sto[i]? = some (.list xs)) (hj : sto[j]? = some (.list ys)) (hx : xs.length + ys.length ≤ 1000000) (hy : ys ≠ []) : wp (cExtendE [.obj i, .obj j]) ⟨loc, sto⟩ Q = Q .none ⟨loc, sto.set i (.list (xs ++ ys))⟩ := by
  have e : cExtendE [.obj i, .obj j] ⟨loc, sto⟩ = cExtend [.obj i, .obj j] ⟨loc, sto⟩ := by
    cases ys with
    | nil => exact (hy rfl).elim
    | cons y r =>
      unfold cExtendE
      simp only [hi, hj]
  have := wL_extend (loc := loc) (Q := Q) hi hj
  unfold wp at this ⊢
  rw [e, this, eq_iff_iff]
  exact ⟨fun h => h.2, fun h => ⟨⟨hx, hy⟩, h⟩⟩
theorem t8_pre (a : Addr) (xs : List Int) (hx : xs.length ≤ 63) (W : PM Fl) {Q : Fl → St → Prop} (hW : ∀ sl ss, L8 sl → sl "kinds" = some (.obj 1) → G8 ss → ss[30]? = some (.list []) → ss[1]? = some (.list ((xs.map (· % 13)).map V.int)) → ss.length = 32 → wp W ⟨sl, ss⟩ Q) :
    WPs (seqF l08s19 (seqF (l08s20 a xs) (seqF l08s21 (seqF l08s22 (seqF l08s23 (seqF l08s24 (seqF l08s25 W))))))) ⟨fun k => if k = "script" then some (.glob (.ref a)) else none, []⟩ Q := by
  constructor
  rw [wp_seq']
  unfold l08s19
  simp only [wp_bind, wp_pure, wp_seq', wp_ite, wp_and, wp_or, wp_setL, wp_allocList, wp_allocTuple, wp_alloc, wpE_get, wpE_mod, wpE_div, wpE_pow, wpE_iaddS, wpE_iaddI, wpE_addS, wp_add, wp_sub, wp_neg, wpE_lt, wpE_le, wpE_gt, wpE_ge, wpE_eq, wpE_ne, wpE_is, wpE_isnot, isP_bool, isP_obj, eqP_int, eqP_str, wpE_in, wpE_notin, wp_truthyB, wpE_truthyI, wpE_truthyN, wpE_truthyS, wp_isStr, wpE_lenS, wpE_lenG, wpE_range1, wpE_range2, wpE_iterS, wpE_iterG, wpE_max2, wpE_min2, if_true, if_false, String.reduceEq, reduceIte, true_and, and_true, List.length_nil, List.length_cons, List.nil_append, List.cons_append, Bool.false_eq_true, decide_eq_true_eq, Nat.zero_le, Int.reduceLT, Int.reduceLE, Int.reduceNeg, Nat.reduceLeDiff, Nat.reduceAdd]
  unfold l08s20 l08c1
  rw [wp_bind]
  refine wp_compG (f := V.int) (a := .glob (.ref a)) (st1 := ⟨fun k => if k = "agents" then some (.obj 0) else if k = "script" then some (.glob (.ref a)) else none, [O.list tab8]⟩) (src := none) xs (fun _ => true) (fun x => .int (x % 13)) ?_ ?_ (by simp) (fun p hp => by cases hp) (by omega) (fun k hk loc sto hfr hpre hk2 => ?_) ?_
  · simp only [wpE_get, String.reduceEq, if_false, if_true, reduceIte]
    exact ⟨trivial, rfl⟩
  · rw [wpE_iterG]; exact ⟨rfl, rfl⟩
  · simp only [wp_bind, wp_pure, wpE_get, hk2, wpE_mod]
    exact ⟨trivial, ⟨trivial, hpre⟩, fun _ => ⟨by omega, trivial, trivial, hpre⟩⟩
  · rw [filt_true]
    have e : (xs.map fun x => V.int (x % 13)) = (xs.map (· % 13)).map V.int := by rw [List.map_map]; rfl
    rw [e]
    generalize hK : O.list ((xs.map (· % 13)).map V.int) = K
    generalize hT : O.list tab8 = T
    simp only [wp_bind, wp_pure, wp_seq', wp_ite, wp_and, wp_or, wp_setL, wp_allocList, wp_allocTuple, wp_alloc, wpE_get, wpE_mod, wpE_div, wpE_pow, wpE_iaddS, wpE_iaddI, wpE_addS, wp_add, wp_sub, wp_neg, wpE_lt, wpE_le, wpE_gt, wpE_ge, wpE_eq, wpE_ne, wpE_is, wpE_isnot, isP_bool, isP_obj, eqP_int, eqP_str, wpE_in, wpE_notin, wp_truthyB, wpE_truthyI, wpE_truthyN, wpE_truthyS, wp_isStr, wpE_lenS, wpE_lenG, wpE_range1, wpE_range2, wpE_iterS, wpE_iterG, wpE_max2, wpE_min2, if_true, if_false, String.reduceEq, reduceIte, true_and, and_true, List.length_nil, List.length_cons, List.nil_append, List.cons_append, Bool.false_eq_true, decide_eq_true_eq, Nat.zero_le, Int.reduceLT, Int.reduceLE, Int.reduceNeg, Nat.reduceLeDiff, Nat.reduceAdd]
    unfold l08s21
    simp only [wp_bind, wp_pure, wp_seq', wp_ite, wp_and, wp_or, wp_setL, wp_allocList, wp_allocTuple, wp_alloc, wpE_get, wpE_mod, wpE_div, wpE_pow, wpE_iaddS, wpE_iaddI, wpE_addS, wp_add, wp_sub, wp_neg, wpE_lt, wpE_le, wpE_gt, wpE_ge, wpE_eq, wpE_ne, wpE_is, wpE_isnot, isP_bool, isP_obj, eqP_int, eqP_str, wpE_in, wpE_notin, wp_truthyB, wpE_truthyI, wpE_truthyN, wpE_truthyS, wp_isStr, wpE_lenS, wpE_lenG, wpE_range1, wpE_range2, wpE_iterS, wpE_iterG, wpE_max2, wpE_min2, if_true, if_false, String.reduceEq, reduceIte, true_and, and_true, List.length_nil, List.length_cons, List.nil_append, List.cons_append, Bool.false_eq_true, decide_eq_true_eq, Nat.zero_le, Int.reduceLT, Int.reduceLE, Int.reduceNeg, Nat.reduceLeDiff, Nat.reduceAdd]
    unfold l08s22
    simp only [wp_bind, wp_pure, wp_seq', wp_ite, wp_and, wp_or, wp_setL, wp_allocList, wp_allocTuple, wp_alloc, wpE_get, wpE_mod, wpE_div, wpE_pow, wpE_iaddS, wpE_iaddI, wpE_addS, wp_add, wp_sub, wp_neg, wpE_lt, wpE_le, wpE_gt, wpE_ge, wpE_eq, wpE_ne, wpE_is, wpE_isnot, isP_bool, isP_obj, eqP_int, eqP_str, wpE_in, wpE_notin, wp_truthyB, wpE_truthyI, wpE_truthyN, wpE_truthyS, wp_isStr, wpE_lenS, wpE_lenG, wpE_range1, wpE_range2, wpE_iterS, wpE_iterG, wpE_max2, wpE_min2, if_true, if_false, String.reduceEq, reduceIte, true_and, and_true, List.length_nil, List.length_cons, List.nil_append, List.cons_append, Bool.false_eq_true, decide_eq_true_eq, Nat.zero_le, Int.reduceLT, Int.reduceLE, Int.reduceNeg, Nat.reduceLeDiff, Nat.reduceAdd]
    rw [wL_isList (i := 12) rfl]
    simp only [wp_bind, wp_pure, wp_seq', wp_ite, wp_and, wp_or, wp_setL, wp_allocList, wp_allocTuple, wp_alloc, wpE_get, wpE_mod, wpE_div, wpE_pow, wpE_iaddS, wpE_iaddI, wpE_addS, wp_add, wp_sub, wp_neg, wpE_lt, wpE_le, wpE_gt, wpE_ge, wpE_eq, wpE_ne, wpE_is, wpE_isnot, isP_bool, isP_obj, eqP_int, eqP_str, wpE_in, wpE_notin, wp_truthyB, wpE_truthyI, wpE_truthyN, wpE_truthyS, wp_isStr, wpE_lenS, wpE_lenG, wpE_range1, wpE_range2, wpE_iterS, wpE_iterG, wpE_max2, wpE_min2, if_true, if_false, String.reduceEq, reduceIte, true_and, and_true, List.length_nil, List.length_cons, List.nil_append, List.cons_append, Bool.false_eq_true, decide_eq_true_eq, Nat.zero_le, Int.reduceLT, Int.reduceLE, Int.reduceNeg, Nat.reduceLeDiff, Nat.reduceAdd]
    rw [wX_extend (i := 12) rfl rfl (by decide) (by simp)]
    simp only [List.set_cons_succ, List.set_cons_zero, wp_bind, wp_pure, wp_seq', wp_ite, wp_and, wp_or, wp_setL, wp_allocList, wp_allocTuple, wp_alloc, wpE_get, wpE_mod, wpE_div, wpE_pow, wpE_iaddS, wpE_iaddI, wpE_addS, wp_add, wp_sub, wp_neg, wpE_lt, wpE_le, wpE_gt, wpE_ge, wpE_eq, wpE_ne, wpE_is, wpE_isnot, isP_bool, isP_obj, eqP_int, eqP_str, wpE_in, wpE_notin, wp_truthyB, wpE_truthyI, wpE_truthyN, wpE_truthyS, wp_isStr, wpE_lenS, wpE_lenG, wpE_range1, wpE_range2, wpE_iterS, wpE_iterG, wpE_max2, wpE_min2, if_true, if_false, String.reduceEq, reduceIte, true_and, and_true, List.length_nil, List.length_cons, List.nil_append, List.cons_append, Bool.false_eq_true, decide_eq_true_eq, Nat.zero_le, Int.reduceLT, Int.reduceLE, Int.reduceNeg, Nat.reduceLeDiff, Nat.reduceAdd]
    unfold l08s23
    simp only [wp_bind, wp_pure, wp_seq', wp_ite, wp_and, wp_or, wp_setL, wp_allocList, wp_allocTuple, wp_alloc, wpE_get, wpE_mod, wpE_div, wpE_pow, wpE_iaddS, wpE_iaddI, wpE_addS, wp_add, wp_sub, wp_neg, wpE_lt, wpE_le, wpE_gt, wpE_ge, wpE_eq, wpE_ne, wpE_is, wpE_isnot, isP_bool, isP_obj, eqP_int, eqP_str, wpE_in, wpE_notin, wp_truthyB, wpE_truthyI, wpE_truthyN, wpE_truthyS, wp_isStr, wpE_lenS, wpE_lenG, wpE_range1, wpE_range2, wpE_iterS, wpE_iterG, wpE_max2, wpE_min2, if_true, if_false, String.reduceEq, reduceIte, true_and, and_true, List.length_nil, List.length_cons, List.nil_append, List.cons_append, Bool.false_eq_true, decide_eq_true_eq, Nat.zero_le, Int.reduceLT, Int.reduceLE, Int.reduceNeg, Nat.reduceLeDiff, Nat.reduceAdd]
    rw [wL_isList (i := 12) rfl]
    simp only [wp_bind, wp_pure, wp_seq', wp_ite, wp_and, wp_or, wp_setL, wp_allocList, wp_allocTuple, wp_alloc, wpE_get, wpE_mod, wpE_div, wpE_pow, wpE_iaddS, wpE_iaddI, wpE_addS, wp_add, wp_sub, wp_neg, wpE_lt, wpE_le, wpE_gt, wpE_ge, wpE_eq, wpE_ne, wpE_is, wpE_isnot, isP_bool, isP_obj, eqP_int, eqP_str, wpE_in, wpE_notin, wp_truthyB, wpE_truthyI, wpE_truthyN, wpE_truthyS, wp_isStr, wpE_lenS, wpE_lenG, wpE_range1, wpE_range2, wpE_iterS, wpE_iterG, wpE_max2, wpE_min2, if_true, if_false, String.reduceEq, reduceIte, true_and, and_true, List.length_nil, List.length_cons, List.nil_append, List.cons_append, Bool.false_eq_true, decide_eq_true_eq, Nat.zero_le, Int.reduceLT, Int.reduceLE, Int.reduceNeg, Nat.reduceLeDiff, Nat.reduceAdd]
    rw [wX_extend (i := 12) rfl rfl (by decide) (by simp)]
    simp only [List.set_cons_succ, List.set_cons_zero, wp_bind, wp_pure, wp_seq', wp_ite, wp_and, wp_or, wp_setL, wp_allocList, wp_allocTuple, wp_alloc, wpE_get, wpE_mod, wpE_div, wpE_pow, wpE_iaddS, wpE_iaddI, wpE_addS, wp_add, wp_sub, wp_neg, wpE_lt, wpE_le, wpE_gt, wpE_ge, wpE_eq, wpE_ne, wpE_is, wpE_isnot, isP_bool, isP_obj, eqP_int, eqP_str, wpE_in, wpE_notin, wp_truthyB, wpE_truthyI, wpE_truthyN, wpE_truthyS, wp_isStr, wpE_lenS, wpE_lenG, wpE_range1, wpE_range2, wpE_iterS, wpE_iterG, wpE_max2, wpE_min2, if_true, if_false, String.reduceEq, reduceIte, true_and, and_true, List.length_nil, List.length_cons, List.nil_append, List.cons_append, Bool.false_eq_true, decide_eq_true_eq, Nat.zero_le, Int.reduceLT, Int.reduceLE, Int.reduceNeg, Nat.reduceLeDiff, Nat.reduceAdd]
    unfold l08s24 l08s25
    simp only [wp_bind, wp_pure, wp_seq', wp_ite, wp_and, wp_or, wp_setL, wp_allocList, wp_allocTuple, wp_alloc, wpE_get, wpE_mod, wpE_div, wpE_pow, wpE_iaddS, wpE_iaddI, wpE_addS, wp_add, wp_sub, wp_neg, wpE_lt, wpE_le, wpE_gt, wpE_ge, wpE_eq, wpE_ne, wpE_is, wpE_isnot, isP_bool, isP_obj, eqP_int, eqP_str, wpE_in, wpE_notin, wp_truthyB, wpE_truthyI, wpE_truthyN, wpE_truthyS, wp_isStr, wpE_lenS, wpE_lenG, wpE_range1, wpE_range2, wpE_iterS, wpE_iterG, wpE_max2, wpE_min2, if_true, if_false, String.reduceEq, reduceIte, true_and, and_true, List.length_nil, List.length_cons, List.nil_append, List.cons_append, Bool.false_eq_true, decide_eq_true_eq, Nat.zero_le, Int.reduceLT, Int.reduceLE, Int.reduceNeg, Nat.reduceLeDiff, Nat.reduceAdd, wE_entry]
    rw [wL_gAttr (n := "useragents") (v := .obj 30) (i := 29) rfl rfl (by intro u e; cases e)]
    simp only [wp_bind, wp_pure, wp_seq', wp_ite, wp_and, wp_or, wp_setL, wp_allocList, wp_allocTuple, wp_alloc, wpE_get, wpE_mod, wpE_div, wpE_pow, wpE_iaddS, wpE_iaddI, wpE_addS, wp_add, wp_sub, wp_neg, wpE_lt, wpE_le, wpE_gt, wpE_ge, wpE_eq, wpE_ne, wpE_is, wpE_isnot, isP_bool, isP_obj, eqP_int, eqP_str, wpE_in, wpE_notin, wp_truthyB, wpE_truthyI, wpE_truthyN, wpE_truthyS, wp_isStr, wpE_lenS, wpE_lenG, wpE_range1, wpE_range2, wpE_iterS, wpE_iterG, wpE_max2, wpE_min2, if_true, if_false, String.reduceEq, reduceIte, true_and, and_true, List.length_nil, List.length_cons, List.nil_append, List.cons_append, Bool.false_eq_true, decide_eq_true_eq, Nat.zero_le, Int.reduceLT, Int.reduceLE, Int.reduceNeg, Nat.reduceLeDiff, Nat.reduceAdd]
    subst hK hT
    refine hW _ _ ⟨by simp, by simp, by simp, by simp⟩ (by simp) ⟨rfl, rfl, ?_, ⟨_, rfl, rfl, rfl⟩⟩ rfl rfl rfl
    intro tq h
    have hm : tq ∈ [(3, (cps "FIG/2", [0, 6])), (5, (cps "x-plUMx", [1, 6])), (7, (cps "Plum fig", [0, 1, 4, 6])), (9, (cps "*", [6])), (11, (cps "pl/um/fig", [6])), (14, (cps "pl/fig/um", [6])), (16, (cps "", [6])), (18, (cps " Fig /2", [0, 4, 5, 6])), (20, (cps "Ss/ß", [6])), (22, (cps "STRAßE", [6, 7])), (25, (cps "/Fig/Plum", [6])), (27, (cps "Fig* **/9", [0, 6, 8, 9, 10]))] := h
    simp only [List.mem_cons, List.not_mem_nil, or_false] at hm
    rcases hm with rfl | rfl | rfl | rfl | rfl | rfl | rfl | rfl | rfl | rfl | rfl | rfl <;> exact ⟨rfl, rfl⟩
theorem law08_eq (a : Addr) (xs : List Int) : law08 a xs = seqF l08s19 (seqF (l08s20 a xs) (seqF l08s21 (seqF l08s22 (seqF l08s23 (seqF l08s24 (seqF l08s25 (seqF l08s26 l08s27))))))) := by
  with_reducible unfold law08
  with_reducible rfl
theorem t8_run (a : Addr) (xs : List Int) (hx : xs.length ≤ 63) (W : PM Fl) (hW : ∀ sl ss, L8 sl → sl "kinds" = some (.obj 1) → G8 ss → ss[30]? = some (.list []) → ss[1]? = some (.list ((xs.map (· % 13)).map V.int)) → ss.length = 32 → wp W ⟨sl, ss⟩ (fun f _ => f = .ret (.bool true))) :
    ∃ st', (seqF l08s19 (seqF (l08s20 a xs) (seqF l08s21 (seqF l08s22 (seqF l08s23 (seqF l08s24 (seqF l08s25 W))))))) ⟨fun k => if k = "script" then some (.glob (.ref a)) else none, []⟩ = .ok (.ret (.bool true)) st' := run_wps (t8_pre a xs hx W hW)
theorem law08_true (a : Addr) (xs : List Int) (hx : xs.length ≤ 63) : ∃ st', law08 a xs ⟨fun k => if k = "script" then some (.glob (.ref a)) else none, []⟩ = .ok (.ret (.bool true)) st' := by
  rw [law08_eq]
  refine t8_run a xs hx (seqF l08s26 l08s27) fun sl ss hl hk hg h30 g1 hlen => ?_
  refine t8_rest hl hk hg h30 g1 hlen (fun k hk => ?_) (by rw [List.length_map]; omega) (fun _ => rfl)
  obtain ⟨x, _, rfl⟩ := List.mem_map.mp hk
  omega
end Mine
namespace Mine
set_option maxRecDepth 100000 in
set_option maxHeartbeats 8000000 in
open_top hd for PySem.Challenge.rw_dn0257_08
set_option maxRecDepth 100000
set_option maxHeartbeats 8000000
theorem fn_init (cx : Cx) (hK : cx.K = hd.heap_39 cx.w.params) (hC : cx.C = 59) : Fn cx 0 35 ["self"] initE := by
  obtain ⟨prog, w, K, C, p, loose, mg, mb, h₀, L, A, fenv, env, base, outer, os, n, fm, fzn, lam, tab⟩ := cx
  dsimp only at hK hC
  subst hK hC
  refine fn_user (by rfl) (by rfl) (fun Vs hVs => ?_) ?_ (by decide) (by decide) rfl rfl rfl ?_
  · match Vs, hVs with
    | [a], _ => rfl
  · decide
  · intro A' g L' ok
    refine body_of ?_
    · refine sim_cons ?_ ?_
      · refine sim_AssignAttr ok ?_ ?_ ?_ ?_
        · refine sim_List ?_
          · exact sim_args_nil
        · refine sim_Name ok ?_ ?_
          · kernel_rfl
          · kernel_rfl
        · kernel_rfl
        · kernel_rfl
      · refine sim_cons ?_ ?_
        · refine sim_AssignAttr ok ?_ ?_ ?_ ?_
          · refine sim_List ?_
            · exact sim_args_nil
          · refine sim_Name ok ?_ ?_
            · kernel_rfl
            · kernel_rfl
          · kernel_rfl
          · kernel_rfl
        · refine sim_cons ?_ ?_
          · refine sim_AssignAttr ok ?_ ?_ ?_ ?_
            · exact sim_none
            · refine sim_Name ok ?_ ?_
              · kernel_rfl
              · kernel_rfl
            · kernel_rfl
            · kernel_rfl
          · refine sim_one ?_
            · refine sim_AssignAttr ok ?_ ?_ ?_ ?_
              · exact sim_none
              · refine sim_Name ok ?_ ?_
                · kernel_rfl
                · kernel_rfl
              · kernel_rfl
              · kernel_rfl
theorem fn_applX (cx : Cx) (hK : cx.K = hd.heap_39 cx.w.params) (hC : cx.C = 59) : Fn cx 0 49 ["self", "useragent"] applX08 := by
  obtain ⟨prog, w, K, C, p, loose, mg, mb, h₀, L, A, fenv, env, base, outer, os, n, fm, fzn, lam, tab⟩ := cx
  dsimp only at hK hC
  subst hK hC
  refine fn_user (by rfl) (by rfl) (fun Vs hVs => ?_) ?_ (by decide) (by decide) rfl rfl rfl ?_
  · match Vs, hVs with
    | [a, b], _ => rfl
  · decide
  · intro A' g L' ok
    refine body_of ?_
    refine sim_cons ?_ ?_
    · refine sim_ok ?_
      · refine sim_If ?_ ?_ ?_
        · refine sim_test_Compare ?_ ?_ p_isX p_truthy ?_
          · refine sim_Name ok ?_ ?_
            · kernel_rfl
            · kernel_rfl
          · exact sim_none
          · exact rfl
        · refine sim_one ?_
          · refine sim_Return ?_
            · refine sim_Compare ?_ ?_ ?_ ?_
              · exact sim_str
              · refine sim_Attribute ok ?_ ?_
                · refine sim_Name ok ?_ ?_
                  · kernel_rfl
                  · kernel_rfl
                · kernel_rfl
              · exact (p_in ok)
              · exact rfl
        · exact sim_nil
    · refine sim_cons ?_ ?_
      · refine sim_Assign ok ?_ ?_ ?_
        · refine sim_MSX ok PySem.F.slot_str_lower ?_ pc_lowerX lowerX_byt ?_ ?_ plain_nil ?_ ?_ ?_
          · exact rfl
          · refine sim_Subscript ok ?_ ?_ ?_
            · refine sim_MSX ok PySem.F.slot_str_split ?_ pc_splitX splitX_byt ?_ ?_ ?_ ?_ ?_ ?_
              · exact rfl
              · refine sim_Name ok ?_ ?_
                · kernel_rfl
                · kernel_rfl
              · refine sim_ok ?_
                · refine sim_args_cons ?_ ?_ ?_
                  · exact sim_str
                  · exact sim_args_nil
                  · exact (star_plain rfl)
              · exact (plain_cons rfl plain_nil)
              · exact rfl
              · exact rfl
              · exact rfl
            · exact sim_int
            · exact fun _ _ => rfl
          · refine sim_ok ?_
            · exact sim_args_nil
          · exact rfl
          · exact rfl
          · exact rfl
        · exact (.inl (by kernel_rfl))
        · kernel_rfl
      · refine sim_cons ?_ ?_
        · refine sim_For ok ?_ ?_ ?_ ?_
          · refine sim_ok ?_
            · refine sim_Attribute ok ?_ ?_
              · refine sim_Name ok ?_ ?_
                · kernel_rfl
                · kernel_rfl
              · kernel_rfl
          · refine sim_target ok ?_
            · exact (.inl (by kernel_rfl))
          · refine sim_one ?_
            · refine sim_If ?_ ?_ ?_
              · refine sim_ok ?_
                · refine sim_test_Compare ?_ ?_ ?_ p_truthy ?_
                  · refine sim_Name ok ?_ ?_
                    · kernel_rfl
                    · kernel_rfl
                  · exact sim_str
                  · exact (p_ne ok)
                  · exact rfl
              · refine sim_cons ?_ ?_
                · refine sim_Assign ok ?_ ?_ ?_
                  · refine sim_MSX ok PySem.F.slot_str_lower ?_ pc_lowerX lowerX_byt ?_ ?_ plain_nil ?_ ?_ ?_
                    · exact rfl
                    · refine sim_Name ok ?_ ?_
                      · kernel_rfl
                      · kernel_rfl
                    · refine sim_ok ?_
                      · exact sim_args_nil
                    · exact rfl
                    · exact rfl
                    · exact rfl
                  · exact (.inl (by kernel_rfl))
                  · kernel_rfl
                · refine sim_one ?_
                  · refine sim_ok ?_
                    · refine sim_If ?_ ?_ ?_
                      · refine sim_test_Compare ?_ ?_ ?_ p_truthy ?_
                        · refine sim_Name ok ?_ ?_
                          · kernel_rfl
                          · kernel_rfl
                        · refine sim_Name ok ?_ ?_
                          · kernel_rfl
                          · kernel_rfl
                        · exact (p_in ok)
                        · exact rfl
                      · refine sim_one ?_
                        · refine sim_Return ?_
                          · exact sim_bool
                      · exact sim_nil
              · exact sim_nil
          · exact fun _ => rfl
        · refine sim_one ?_
          · refine sim_ok ?_
            · refine sim_Return ?_
              · exact sim_bool
theorem fnx_applX (cx : Cx) (hK : cx.K = hd.heap_39 cx.w.params) (hC : cx.C = 59) : FnX cx 0 49 ["self", "useragent"] applX08 := by
  obtain ⟨prog, w, K, C, p, loose, mg, mb, h₀, L, A, fenv, env, base, outer, os, n, fm, fzn, lam, tab⟩ := cx
  dsimp only at hK hC
  subst hK hC
  refine fnX_user (by rfl) (by rfl) (fun Vs hVs => ?_) ?_ (by decide) (by decide) rfl rfl rfl ?_
  · match Vs, hVs with
    | [a, b], _ => rfl
  · decide
  · intro g L' ok
    refine x_cons ?_ ?_ ?_
    · refine sim_ok ?_
      · refine sim_If ?_ ?_ ?_
        · refine sim_test_Compare ?_ ?_ p_isX p_truthy ?_
          · refine sim_Name ok ?_ ?_
            · kernel_rfl
            · kernel_rfl
          · exact sim_none
          · exact rfl
        · refine sim_one ?_
          · refine sim_Return ?_
            · refine sim_Compare ?_ ?_ ?_ ?_
              · exact sim_str
              · refine sim_Attribute ok ?_ ?_
                · refine sim_Name ok ?_ ?_
                  · kernel_rfl
                  · kernel_rfl
                · kernel_rfl
              · exact (p_in ok)
              · exact rfl
        · exact sim_nil
    · refine x_nox ?_
      · exact nox_ok _
    · refine x_cons ?_ ?_ ?_
      · refine sim_Assign ok ?_ ?_ ?_
        · refine sim_MSX ok PySem.F.slot_str_lower ?_ pc_lowerX lowerX_byt ?_ ?_ plain_nil ?_ ?_ ?_
          · exact rfl
          · refine sim_Subscript ok ?_ ?_ ?_
            · refine sim_MSX ok PySem.F.slot_str_split ?_ pc_splitX splitX_byt ?_ ?_ ?_ ?_ ?_ ?_
              · exact rfl
              · refine sim_Name ok ?_ ?_
                · kernel_rfl
                · kernel_rfl
              · refine sim_ok ?_
                · refine sim_args_cons ?_ ?_ ?_
                  · exact sim_str
                  · exact sim_args_nil
                  · exact (star_plain rfl)
              · exact (plain_cons rfl plain_nil)
              · exact rfl
              · exact rfl
              · exact rfl
            · exact sim_int
            · exact fun _ _ => rfl
          · refine sim_ok ?_
            · exact sim_args_nil
          · exact rfl
          · exact rfl
          · exact rfl
        · exact (.inl (by kernel_rfl))
        · kernel_rfl
      · refine x_Assign ?_ ?_
        · refine x_lower ok ?_ ?_ ?_ plain_nil ?_ ?_ ?_
          · refine sim_Subscript ok ?_ ?_ ?_
            · refine sim_MSX ok PySem.F.slot_str_split ?_ pc_splitX splitX_byt ?_ ?_ ?_ ?_ ?_ ?_
              · exact rfl
              · refine sim_Name ok ?_ ?_
                · kernel_rfl
                · kernel_rfl
              · refine sim_ok ?_
                · refine sim_args_cons ?_ ?_ ?_
                  · exact sim_str
                  · exact sim_args_nil
                  · exact (star_plain rfl)
              · exact (plain_cons rfl plain_nil)
              · exact rfl
              · exact rfl
              · exact rfl
            · exact sim_int
            · exact fun _ _ => rfl
          · refine x_Subscript ?_ ?_
            · refine x_split ok ?_ ?_ ?_ ?_ ?_ ?_ ?_ ?_
              · refine sim_Name ok ?_ ?_
                · kernel_rfl
                · kernel_rfl
              · refine x_nox ?_
                · exact nox_getL _
              · refine sim_ok ?_
                · refine sim_args_cons ?_ ?_ ?_
                  · exact sim_str
                  · exact sim_args_nil
                  · exact (star_plain rfl)
              · exact (nox_ok _)
              · exact (plain_cons rfl plain_nil)
              · exact rfl
              · exact rfl
              · exact rfl
            · exact nox_pure _
          · exact (nox_ok _)
          · exact rfl
          · exact rfl
          · exact rfl
        · kernel_rfl
      · refine x_cons ?_ ?_ ?_
        · refine sim_For ok ?_ ?_ ?_ ?_
          · refine sim_ok ?_
            · refine sim_Attribute ok ?_ ?_
              · refine sim_Name ok ?_ ?_
                · kernel_rfl
                · kernel_rfl
              · kernel_rfl
          · refine sim_target ok ?_
            · exact (.inl (by kernel_rfl))
          · refine sim_one ?_
            · refine sim_If ?_ ?_ ?_
              · refine sim_ok ?_
                · refine sim_test_Compare ?_ ?_ ?_ p_truthy ?_
                  · refine sim_Name ok ?_ ?_
                    · kernel_rfl
                    · kernel_rfl
                  · exact sim_str
                  · exact (p_ne ok)
                  · exact rfl
              · refine sim_cons ?_ ?_
                · refine sim_Assign ok ?_ ?_ ?_
                  · refine sim_MSX ok PySem.F.slot_str_lower ?_ pc_lowerX lowerX_byt ?_ ?_ plain_nil ?_ ?_ ?_
                    · exact rfl
                    · refine sim_Name ok ?_ ?_
                      · kernel_rfl
                      · kernel_rfl
                    · refine sim_ok ?_
                      · exact sim_args_nil
                    · exact rfl
                    · exact rfl
                    · exact rfl
                  · exact (.inl (by kernel_rfl))
                  · kernel_rfl
                · refine sim_one ?_
                  · refine sim_ok ?_
                    · refine sim_If ?_ ?_ ?_
                      · refine sim_test_Compare ?_ ?_ ?_ p_truthy ?_
                        · refine sim_Name ok ?_ ?_
                          · kernel_rfl
                          · kernel_rfl
                        · refine sim_Name ok ?_ ?_
                          · kernel_rfl
                          · kernel_rfl
                        · exact (p_in ok)
                        · exact rfl
                      · refine sim_one ?_
                        · refine sim_Return ?_
                          · exact sim_bool
                      · exact sim_nil
              · exact sim_nil
          · exact fun _ => rfl
        · refine x_For ok ?_ ?_ ?_ ?_ ?_ ?_ ?_ ?_ ?_
          · exact rfl
          · exact rfl
          · refine sim_ok ?_
            · refine sim_Attribute ok ?_ ?_
              · refine sim_Name ok ?_ ?_
                · kernel_rfl
                · kernel_rfl
              · kernel_rfl
          · exact (nox_ok _)
          · refine sim_target ok ?_
            · exact (.inl (by kernel_rfl))
          · exact (fun _ => nox_setL _ _)
          · refine sim_one ?_
            · refine sim_If ?_ ?_ ?_
              · refine sim_ok ?_
                · refine sim_test_Compare ?_ ?_ ?_ p_truthy ?_
                  · refine sim_Name ok ?_ ?_
                    · kernel_rfl
                    · kernel_rfl
                  · exact sim_str
                  · exact (p_ne ok)
                  · exact rfl
              · refine sim_cons ?_ ?_
                · refine sim_Assign ok ?_ ?_ ?_
                  · refine sim_MSX ok PySem.F.slot_str_lower ?_ pc_lowerX lowerX_byt ?_ ?_ plain_nil ?_ ?_ ?_
                    · exact rfl
                    · refine sim_Name ok ?_ ?_
                      · kernel_rfl
                      · kernel_rfl
                    · refine sim_ok ?_
                      · exact sim_args_nil
                    · exact rfl
                    · exact rfl
                    · exact rfl
                  · exact (.inl (by kernel_rfl))
                  · kernel_rfl
                · refine sim_one ?_
                  · refine sim_ok ?_
                    · refine sim_If ?_ ?_ ?_
                      · refine sim_test_Compare ?_ ?_ ?_ p_truthy ?_
                        · refine sim_Name ok ?_ ?_
                          · kernel_rfl
                          · kernel_rfl
                        · refine sim_Name ok ?_ ?_
                          · kernel_rfl
                          · kernel_rfl
                        · exact (p_in ok)
                        · exact rfl
                      · refine sim_one ?_
                        · refine sim_Return ?_
                          · exact sim_bool
                      · exact sim_nil
              · exact sim_nil
          · refine x_one ?_
            · refine x_If ?_ ?_ ?_ ?_
              · refine sim_ok ?_
                · refine sim_test_Compare ?_ ?_ ?_ p_truthy ?_
                  · refine sim_Name ok ?_ ?_
                    · kernel_rfl
                    · kernel_rfl
                  · exact sim_str
                  · exact (p_ne ok)
                  · exact rfl
              · exact nox_ok _
              · refine x_cons ?_ ?_ ?_
                · refine sim_Assign ok ?_ ?_ ?_
                  · refine sim_MSX ok PySem.F.slot_str_lower ?_ pc_lowerX lowerX_byt ?_ ?_ plain_nil ?_ ?_ ?_
                    · exact rfl
                    · refine sim_Name ok ?_ ?_
                      · kernel_rfl
                      · kernel_rfl
                    · refine sim_ok ?_
                      · exact sim_args_nil
                    · exact rfl
                    · exact rfl
                    · exact rfl
                  · exact (.inl (by kernel_rfl))
                  · kernel_rfl
                · refine x_Assign ?_ ?_
                  · refine x_lower ok ?_ ?_ ?_ plain_nil ?_ ?_ ?_
                    · refine sim_Name ok ?_ ?_
                      · kernel_rfl
                      · kernel_rfl
                    · refine x_nox ?_
                      · exact nox_getL _
                    · exact (nox_ok _)
                    · exact rfl
                    · exact rfl
                    · exact rfl
                  · kernel_rfl
                · refine x_one ?_
                  · refine x_nox ?_
                    · exact nox_ok _
              · exact x_nil
          · exact fun _ => rfl
        · refine x_one ?_
          · refine x_nox ?_
            · exact nox_ok _
theorem fn_told (cx : Cx) (hK : cx.K = hd.heap_39 cx.w.params) (hC : cx.C = 59) (hout : cx.outer = []) : Fn cx 1 70 ["one", "name"] told08 := by
  obtain ⟨prog, w, K, C, p, loose, mg, mb, h₀, L, A, fenv, env, base, outer, os, n, fm, fzn, lam, tab⟩ := cx
  dsimp only at hK hC
  subst hK hC
  refine fn_try hout (by rfl) (by rfl) (fun Vs hVs => ?_) ?_ (by decide) (by decide) rfl rfl rfl ?_
  · match Vs, hVs with
    | [a, b], _ => rfl
  · decide
  · intro A' g L' ok
    refine sim_Try ok rfl rfl ?_ ?_ ?_
    · refine sim_one ?_
      · refine sim_Return ?_
        · refine sim_MI ok 49 ?_ ?_ ?_ ?_ ?_ ?_ ?_ ?_ ?_ ?_ ?_
          · kernel_rfl
          · kernel_rfl
          · kernel_rfl
          · kernel_rfl
          · exact (pc_user ok (k := 0) (Nat.le_of_ble_eq_true (by kernel_rfl)) (fn_applX _ rfl rfl))
          · refine sim_Name ok ?_ ?_
            · kernel_rfl
            · kernel_rfl
          · refine sim_ok ?_
            · refine sim_args_cons ?_ ?_ ?_
              · refine sim_Name ok ?_ ?_
                · kernel_rfl
                · kernel_rfl
              · exact sim_args_nil
              · exact (star_plain rfl)
          · exact (plain_cons rfl plain_nil)
          · exact rfl
          · exact rfl
          · exact rfl
    · refine x_one ?_
      · refine x_Return ?_
        · refine x_MI ok 49 ?_ ?_ ?_ ?_ ?_ ?_ ?_ ?_ ?_ ?_ ?_ ?_ ?_
          · kernel_rfl
          · kernel_rfl
          · kernel_rfl
          · kernel_rfl
          · exact (pcx_user ok (k := 0) (Nat.le_of_ble_eq_true (by kernel_rfl)) (fnx_applX _ rfl rfl))
          · refine sim_Name ok ?_ ?_
            · kernel_rfl
            · kernel_rfl
          · exact (nox_getL _)
          · refine sim_ok ?_
            · refine sim_args_cons ?_ ?_ ?_
              · refine sim_Name ok ?_ ?_
                · kernel_rfl
                · kernel_rfl
              · exact sim_args_nil
              · exact (star_plain rfl)
          · exact (nox_ok _)
          · exact (plain_cons rfl plain_nil)
          · exact rfl
          · exact rfl
          · exact rfl
    · intro k v hl base ρ hid fz led m mloc st e a0 s a Q E hQ
      rcases look2 hl with ⟨rfl, rfl⟩ | ⟨rfl, rfl⟩
      · exact hand_hit ok a (by kernel_rfl) (by kernel_rfl) (by kernel_rfl) (by decide) (by kernel_rfl) ae_exc ae_nt sub_AttributeError ret_str hQ
      · refine hand_miss ok a (by kernel_rfl) (by kernel_rfl) (by kernel_rfl) (by decide) (by kernel_rfl) ae_exc ae_nt te_ae ?_
        exact hand_hit ok a (by kernel_rfl) (by kernel_rfl) (by kernel_rfl) (by decide) (by kernel_rfl) te_exc te_nt te_te ret_str hQ
end Mine
set_option maxRecDepth 100000 in
set_option maxHeartbeats 8000000 in
theorem PySem.Challenge.cw_dn0257_08_holds : PySem.Challenge.rw_dn0257_08.Holds := by
  refine Mine.hd ?_
  k_fill
  intro w s₀ s₁ mg mb G Y fa o pm cd doc dV kV ho hd hcd hD hmg hg args vals as hpre hlay hrd hwl hlo
  have KX := kIn_of Y
  refine Ground.open G ?_
  intro T B D TE TW
  try (refine guard_noD D (by decide +kernel) ?_; clear D)
  clear hmg
  wrow_args hpre hlay hrd hwl hlo
  all_goals (
    first | refine callC_kw (enter_call ?_) | refine enter_call ?_
    try refine codeAny_mono ?_ (fun _ _ g => GoodW.toG g))
  have he := Dflts.none hD rfl; subst he; have he := Dflts.noKw hD; subst he
  rename_i xs _ _ _ _ _ _ _ a Vs _ hL _ _ _ hI _ hc _
  skip
  refine Mine.enter_law (n := 5) (C := 59) (xs := xs) (mbody := Mine.law08 a xs) (by decide) (topRead_of T) (by exact T.bmain) KX ho (fd_plain hd) hcd hg hL hI rfl rfl (by decide) rfl rfl rfl (fun ok hO => ?_) ?_ ?_
  · open Mine in
    refine sim_cons ?_ ?_
    · refine sim_Assign ok ?_ ?_ ?_
      · refine sim_List ?_
        · refine sim_args_cons ?_ ?_ ?_
          · exact sim_str
          · refine sim_args_cons ?_ ?_ ?_
            · exact sim_str
            · refine sim_args_cons ?_ ?_ ?_
              · exact sim_str
              · refine sim_args_cons ?_ ?_ ?_
                · exact sim_str
                · refine sim_args_cons ?_ ?_ ?_
                  · exact sim_str
                  · refine sim_args_cons ?_ ?_ ?_
                    · exact sim_str
                    · refine sim_args_cons ?_ ?_ ?_
                      · exact sim_str
                      · refine sim_args_cons ?_ ?_ ?_
                        · exact sim_str
                        · refine sim_args_cons ?_ ?_ ?_
                          · exact sim_str
                          · refine sim_args_cons ?_ ?_ ?_
                            · exact sim_str
                            · refine sim_args_cons ?_ ?_ ?_
                              · exact sim_str
                              · refine sim_args_cons ?_ ?_ ?_
                                · exact sim_int
                                · refine sim_args_cons ?_ ?_ ?_
                                  · exact sim_none
                                  · exact sim_args_nil
                                  · exact (star_plain rfl)
                                · exact (star_plain rfl)
                              · exact (star_plain rfl)
                            · exact (star_plain rfl)
                          · exact (star_plain rfl)
                        · exact (star_plain rfl)
                      · exact (star_plain rfl)
                    · exact (star_plain rfl)
                  · exact (star_plain rfl)
                · exact (star_plain rfl)
              · exact (star_plain rfl)
            · exact (star_plain rfl)
          · exact (star_plain rfl)
      · exact (.inr ⟨by kernel_rfl, by kernel_rfl, rfl⟩)
      · kernel_rfl
    · refine sim_cons ?_ ?_
      · refine sim_AssignCompG ok hO (fr := []) ?_ ?_ ?_ ?_ ?_ ?_ ?_ ?_
        · exact ⟨by kernel_rfl, by kernel_rfl, by kernel_rfl, by kernel_rfl, by kernel_rfl, by kernel_rfl, by kernel_rfl⟩
        · refine sim_Name ok ?_ ?_
          · kernel_rfl
          · kernel_rfl
        · kernel_rfl
        · intro _ _ ok
          exact sim_tests_nil
        · intro _ _ ok
          refine sim_BinOp ?_ ?_ p_mod
          · refine sim_Name ok ?_ ?_
            · kernel_rfl
            · kernel_rfl
          · exact sim_int
        · exact (fun _ => rfl)
        · exact (.inl (by kernel_rfl))
        · kernel_rfl
      · refine sim_cons ?_ ?_
        · refine sim_Assign ok ?_ ?_ ?_
          · refine sim_List ?_
            · refine sim_args_cons ?_ ?_ ?_
              · refine sim_Tuple ?_
                · refine sim_args_cons ?_ ?_ ?_
                  · exact sim_str
                  · refine sim_args_cons ?_ ?_ ?_
                    · refine sim_List ?_
                      · refine sim_args_cons ?_ ?_ ?_
                        · exact sim_int
                        · refine sim_args_cons ?_ ?_ ?_
                          · exact sim_int
                          · exact sim_args_nil
                          · exact (star_plain rfl)
                        · exact (star_plain rfl)
                    · exact sim_args_nil
                    · exact (star_plain rfl)
                  · exact (star_plain rfl)
              · refine sim_args_cons ?_ ?_ ?_
                · refine sim_Tuple ?_
                  · refine sim_args_cons ?_ ?_ ?_
                    · exact sim_str
                    · refine sim_args_cons ?_ ?_ ?_
                      · refine sim_List ?_
                        · refine sim_args_cons ?_ ?_ ?_
                          · exact sim_int
                          · refine sim_args_cons ?_ ?_ ?_
                            · exact sim_int
                            · exact sim_args_nil
                            · exact (star_plain rfl)
                          · exact (star_plain rfl)
                      · exact sim_args_nil
                      · exact (star_plain rfl)
                    · exact (star_plain rfl)
                · refine sim_args_cons ?_ ?_ ?_
                  · refine sim_Tuple ?_
                    · refine sim_args_cons ?_ ?_ ?_
                      · exact sim_str
                      · refine sim_args_cons ?_ ?_ ?_
                        · refine sim_List ?_
                          · refine sim_args_cons ?_ ?_ ?_
                            · exact sim_int
                            · refine sim_args_cons ?_ ?_ ?_
                              · exact sim_int
                              · refine sim_args_cons ?_ ?_ ?_
                                · exact sim_int
                                · refine sim_args_cons ?_ ?_ ?_
                                  · exact sim_int
                                  · exact sim_args_nil
                                  · exact (star_plain rfl)
                                · exact (star_plain rfl)
                              · exact (star_plain rfl)
                            · exact (star_plain rfl)
                        · exact sim_args_nil
                        · exact (star_plain rfl)
                      · exact (star_plain rfl)
                  · refine sim_args_cons ?_ ?_ ?_
                    · refine sim_Tuple ?_
                      · refine sim_args_cons ?_ ?_ ?_
                        · exact sim_str
                        · refine sim_args_cons ?_ ?_ ?_
                          · refine sim_List ?_
                            · refine sim_args_cons ?_ ?_ ?_
                              · exact sim_int
                              · exact sim_args_nil
                              · exact (star_plain rfl)
                          · exact sim_args_nil
                          · exact (star_plain rfl)
                        · exact (star_plain rfl)
                    · refine sim_args_cons ?_ ?_ ?_
                      · refine sim_Tuple ?_
                        · refine sim_args_cons ?_ ?_ ?_
                          · exact sim_str
                          · refine sim_args_cons ?_ ?_ ?_
                            · refine sim_List ?_
                              · refine sim_args_cons ?_ ?_ ?_
                                · exact sim_int
                                · exact sim_args_nil
                                · exact (star_plain rfl)
                            · exact sim_args_nil
                            · exact (star_plain rfl)
                          · exact (star_plain rfl)
                      · exact sim_args_nil
                      · exact (star_plain rfl)
                    · exact (star_plain rfl)
                  · exact (star_plain rfl)
                · exact (star_plain rfl)
              · exact (star_plain rfl)
          · exact (.inl (by kernel_rfl))
          · kernel_rfl
        · refine sim_cons ?_ ?_
          · refine sim_Expr ?_ ?_ ?_ ?_
            · refine sim_ML ok PySem.F.slot_list_extend ?_ pc_extendE ?_ ?_ ?_ ?_ ?_ ?_
              · exact rfl
              · refine sim_Name ok ?_ ?_
                · kernel_rfl
                · kernel_rfl
              · refine sim_args_cons ?_ ?_ ?_
                · refine sim_List ?_
                  · refine sim_args_cons ?_ ?_ ?_
                    · refine sim_Tuple ?_
                      · refine sim_args_cons ?_ ?_ ?_
                        · exact sim_str
                        · refine sim_args_cons ?_ ?_ ?_
                          · refine sim_List ?_
                            · refine sim_args_cons ?_ ?_ ?_
                              · exact sim_int
                              · exact sim_args_nil
                              · exact (star_plain rfl)
                          · exact sim_args_nil
                          · exact (star_plain rfl)
                        · exact (star_plain rfl)
                    · refine sim_args_cons ?_ ?_ ?_
                      · refine sim_Tuple ?_
                        · refine sim_args_cons ?_ ?_ ?_
                          · exact sim_str
                          · refine sim_args_cons ?_ ?_ ?_
                            · refine sim_List ?_
                              · refine sim_args_cons ?_ ?_ ?_
                                · exact sim_int
                                · exact sim_args_nil
                                · exact (star_plain rfl)
                            · exact sim_args_nil
                            · exact (star_plain rfl)
                          · exact (star_plain rfl)
                      · refine sim_args_cons ?_ ?_ ?_
                        · refine sim_Tuple ?_
                          · refine sim_args_cons ?_ ?_ ?_
                            · exact sim_str
                            · refine sim_args_cons ?_ ?_ ?_
                              · refine sim_List ?_
                                · refine sim_args_cons ?_ ?_ ?_
                                  · exact sim_int
                                  · refine sim_args_cons ?_ ?_ ?_
                                    · exact sim_int
                                    · refine sim_args_cons ?_ ?_ ?_
                                      · exact sim_int
                                      · refine sim_args_cons ?_ ?_ ?_
                                        · exact sim_int
                                        · exact sim_args_nil
                                        · exact (star_plain rfl)
                                      · exact (star_plain rfl)
                                    · exact (star_plain rfl)
                                  · exact (star_plain rfl)
                              · exact sim_args_nil
                              · exact (star_plain rfl)
                            · exact (star_plain rfl)
                        · refine sim_args_cons ?_ ?_ ?_
                          · refine sim_Tuple ?_
                            · refine sim_args_cons ?_ ?_ ?_
                              · exact sim_str
                              · refine sim_args_cons ?_ ?_ ?_
                                · refine sim_List ?_
                                  · refine sim_args_cons ?_ ?_ ?_
                                    · exact sim_int
                                    · exact sim_args_nil
                                    · exact (star_plain rfl)
                                · exact sim_args_nil
                                · exact (star_plain rfl)
                              · exact (star_plain rfl)
                          · refine sim_args_cons ?_ ?_ ?_
                            · refine sim_Tuple ?_
                              · refine sim_args_cons ?_ ?_ ?_
                                · exact sim_str
                                · refine sim_args_cons ?_ ?_ ?_
                                  · refine sim_List ?_
                                    · refine sim_args_cons ?_ ?_ ?_
                                      · exact sim_int
                                      · refine sim_args_cons ?_ ?_ ?_
                                        · exact sim_int
                                        · exact sim_args_nil
                                        · exact (star_plain rfl)
                                      · exact (star_plain rfl)
                                  · exact sim_args_nil
                                  · exact (star_plain rfl)
                                · exact (star_plain rfl)
                            · exact sim_args_nil
                            · exact (star_plain rfl)
                          · exact (star_plain rfl)
                        · exact (star_plain rfl)
                      · exact (star_plain rfl)
                    · exact (star_plain rfl)
                · exact sim_args_nil
                · exact (star_plain rfl)
              · exact (plain_cons rfl plain_nil)
              · exact rfl
              · exact rfl
              · exact rfl
            · kernel_rfl
            · kernel_rfl
            · exact fun _ => by kernel_rfl
          · refine sim_cons ?_ ?_
            · refine sim_Expr ?_ ?_ ?_ ?_
              · refine sim_ML ok PySem.F.slot_list_extend ?_ pc_extendE ?_ ?_ ?_ ?_ ?_ ?_
                · exact rfl
                · refine sim_Name ok ?_ ?_
                  · kernel_rfl
                  · kernel_rfl
                · refine sim_args_cons ?_ ?_ ?_
                  · refine sim_List ?_
                    · refine sim_args_cons ?_ ?_ ?_
                      · refine sim_Tuple ?_
                        · refine sim_args_cons ?_ ?_ ?_
                          · exact sim_str
                          · refine sim_args_cons ?_ ?_ ?_
                            · refine sim_List ?_
                              · refine sim_args_cons ?_ ?_ ?_
                                · exact sim_int
                                · exact sim_args_nil
                                · exact (star_plain rfl)
                            · exact sim_args_nil
                            · exact (star_plain rfl)
                          · exact (star_plain rfl)
                      · refine sim_args_cons ?_ ?_ ?_
                        · refine sim_Tuple ?_
                          · refine sim_args_cons ?_ ?_ ?_
                            · exact sim_str
                            · refine sim_args_cons ?_ ?_ ?_
                              · refine sim_List ?_
                                · refine sim_args_cons ?_ ?_ ?_
                                  · exact sim_int
                                  · refine sim_args_cons ?_ ?_ ?_
                                    · exact sim_int
                                    · refine sim_args_cons ?_ ?_ ?_
                                      · exact sim_int
                                      · refine sim_args_cons ?_ ?_ ?_
                                        · exact sim_int
                                        · refine sim_args_cons ?_ ?_ ?_
                                          · exact sim_int
                                          · exact sim_args_nil
                                          · exact (star_plain rfl)
                                        · exact (star_plain rfl)
                                      · exact (star_plain rfl)
                                    · exact (star_plain rfl)
                                  · exact (star_plain rfl)
                              · exact sim_args_nil
                              · exact (star_plain rfl)
                            · exact (star_plain rfl)
                        · exact sim_args_nil
                        · exact (star_plain rfl)
                      · exact (star_plain rfl)
                  · exact sim_args_nil
                  · exact (star_plain rfl)
                · exact (plain_cons rfl plain_nil)
                · exact rfl
                · exact rfl
                · exact rfl
              · kernel_rfl
              · kernel_rfl
              · exact fun _ => by kernel_rfl
            · refine sim_cons ?_ ?_
              · refine sim_Assign ok ?_ ?_ ?_
                · refine sim_Call ok (u := .ref 59) ?_ ?_ ?_ ?_ plain_nil call_name
                  · refine sim_Global ok ?_ ?_ ?_
                    · kernel_rfl
                    · kernel_rfl
                    · kernel_rfl
                  · exact sim_args_nil
                  · exact (keep_K (by kernel_rfl))
                  · exact (pc_class ok (k := 0) (Nat.le_of_ble_eq_true (by kernel_rfl)) (by kernel_rfl) (by kernel_rfl) (by kernel_rfl) (fn_init _ rfl rfl))
                · exact (.inl (by kernel_rfl))
                · kernel_rfl
              · refine sim_cons ?_ ?_
                · refine sim_Assign ok ?_ ?_ ?_
                  · refine sim_Attribute ok ?_ ?_
                    · refine sim_Name ok ?_ ?_
                      · kernel_rfl
                      · kernel_rfl
                    · kernel_rfl
                  · exact (.inl (by kernel_rfl))
                  · kernel_rfl
                · refine sim_cons ?_ ?_
                  · refine sim_For ok ?_ ?_ ?_ ?_
                    · refine sim_Tuple ?_
                      · refine sim_args_cons ?_ ?_ ?_
                        · refine sim_Name ok ?_ ?_
                          · kernel_rfl
                          · kernel_rfl
                        · refine sim_args_cons ?_ ?_ ?_
                          · refine sim_IfExp ?_ ?_ ?_
                            · refine sim_test_Compare ?_ ?_ ?_ p_truthy ?_
                              · refine sim_Name ok ?_ ?_
                                · kernel_rfl
                                · kernel_rfl
                              · refine sim_List ?_
                                · exact sim_args_nil
                              · exact (p_ne ok)
                              · exact rfl
                            · refine sim_Slice ?_ ?_ ?_
                              · refine sim_Name ok ?_ ?_
                                · kernel_rfl
                                · kernel_rfl
                              · refine sim_part_some ?_
                                · exact sim_int
                              · exact sim_part_none
                            · refine sim_List ?_
                              · refine sim_args_cons ?_ ?_ ?_
                                · exact sim_int
                                · exact sim_args_nil
                                · exact (star_plain rfl)
                          · exact sim_args_nil
                          · exact (star_plain rfl)
                        · exact (star_plain rfl)
                    · refine sim_target ok ?_
                      · exact (.inl (by kernel_rfl))
                    · refine sim_cons ?_ ?_
                      · refine del_all ok ?_
                        · refine sim_Name ok ?_ ?_
                          · kernel_rfl
                          · kernel_rfl
                      · refine sim_cons ?_ ?_
                        · refine sim_Expr ?_ ?_ ?_ ?_
                          · refine sim_ML ok PySem.F.slot_list_extend ?_ pc_extendE ?_ ?_ ?_ ?_ ?_ ?_
                            · exact rfl
                            · refine sim_Name ok ?_ ?_
                              · kernel_rfl
                              · kernel_rfl
                            · refine sim_args_cons ?_ ?_ ?_
                              · refine sim_ListComp ok (fr := ["agents"]) ?_ ?_ ?_ ?_ ?_ ?_
                                · exact ⟨by kernel_rfl, by kernel_rfl, by kernel_rfl, by kernel_rfl, by kernel_rfl, by kernel_rfl, by kernel_rfl⟩
                                · refine sim_Name ok ?_ ?_
                                  · kernel_rfl
                                  · kernel_rfl
                                · kernel_rfl
                                · intro _ _ ok
                                  exact sim_tests_nil
                                · intro _ _ ok
                                  refine sim_Subscript ok ?_ ?_ ?_
                                  · refine sim_Name ok ?_ ?_
                                    · kernel_rfl
                                    · kernel_rfl
                                  · refine sim_Name ok ?_ ?_
                                    · kernel_rfl
                                    · kernel_rfl
                                  · exact fun _ _ => rfl
                                · exact (fun _ => rfl)
                              · exact sim_args_nil
                              · exact (star_plain rfl)
                            · exact (plain_cons rfl plain_nil)
                            · exact rfl
                            · exact rfl
                            · exact rfl
                          · kernel_rfl
                          · kernel_rfl
                          · exact fun _ => by kernel_rfl
                        · refine sim_cons ?_ ?_
                          · refine sim_For ok ?_ ?_ ?_ ?_
                            · refine sim_Name ok ?_ ?_
                              · kernel_rfl
                              · kernel_rfl
                            · refine sim_unpack ok ?_
                              · refine sim_tgts_cons ?_ ?_ ?_
                                · refine sim_target ok ?_
                                  · exact (.inl (by kernel_rfl))
                                · refine sim_tgts_cons ?_ ?_ ?_
                                  · refine sim_target ok ?_
                                    · exact (.inr ⟨by kernel_rfl, by kernel_rfl, rfl⟩)
                                  · exact sim_tgts_nil
                                  · exact rfl
                                · exact rfl
                            · refine sim_cons ?_ ?_
                              · refine sim_Assign ok ?_ ?_ ?_
                                · exact sim_bool
                                · exact (.inl (by kernel_rfl))
                                · kernel_rfl
                              · refine sim_cons ?_ ?_
                                · refine sim_AssignComp ok (fr := ["fits"]) ?_ ?_ ?_ ?_ ?_ ?_ ?_ ?_
                                  · exact ⟨by kernel_rfl, by kernel_rfl, by kernel_rfl, by kernel_rfl, by kernel_rfl, by kernel_rfl, by kernel_rfl⟩
                                  · refine sim_Name ok ?_ ?_
                                    · kernel_rfl
                                    · kernel_rfl
                                  · kernel_rfl
                                  · intro _ _ ok
                                    refine sim_tests_one ?_
                                    · refine sim_test_BoolOp ?_
                                      · refine sim_all_or ?_ ?_
                                        · refine sim_test_Compare ?_ ?_ p_gt p_truthy ?_
                                          · refine sim_Name ok ?_ ?_
                                            · kernel_rfl
                                            · kernel_rfl
                                          · exact sim_int
                                          · exact rfl
                                        · refine sim_all_or ?_ ?_
                                          · refine sim_test_Compare ?_ ?_ ?_ p_truthy ?_
                                            · refine sim_Name ok ?_ ?_
                                              · kernel_rfl
                                              · kernel_rfl
                                            · refine sim_Name ok ?_ ?_
                                              · kernel_rfl
                                              · kernel_rfl
                                            · exact (p_in ok)
                                            · exact rfl
                                          · exact sim_all_nil_or
                                  · intro _ _ ok
                                    refine sim_Name ok ?_ ?_
                                    · kernel_rfl
                                    · kernel_rfl
                                  · exact (fun _ => rfl)
                                  · exact (.inl (by kernel_rfl))
                                  · kernel_rfl
                                · refine sim_cons ?_ ?_
                                  · refine sim_If ?_ ?_ ?_
                                    · refine sim_test_Compare ?_ ?_ ?_ p_truthy ?_
                                      · refine sim_Name ok ?_ ?_
                                        · kernel_rfl
                                        · kernel_rfl
                                      · refine sim_List ?_
                                        · exact sim_args_nil
                                      · exact (p_ne ok)
                                      · exact rfl
                                    · refine sim_one ?_
                                      · refine sim_Assign ok ?_ ?_ ?_
                                        · refine sim_IfExp ?_ ?_ ?_
                                          · refine sim_test_Compare ?_ ?_ p_lt p_truthy ?_
                                            · refine sim_Subscript ok ?_ ?_ ?_
                                              · refine sim_Name ok ?_ ?_
                                                · kernel_rfl
                                                · kernel_rfl
                                              · exact sim_int
                                              · exact fun _ _ => rfl
                                            · exact sim_int
                                            · exact rfl
                                          · exact sim_bool
                                          · exact sim_str
                                        · exact (.inl (by kernel_rfl))
                                        · kernel_rfl
                                    · exact sim_nil
                                  · refine sim_cons ?_ ?_
                                    · refine sim_Assign ok ?_ ?_ ?_
                                      · refine sim_Call ok (u := .ref 70) ?_ ?_ ?_ ?_ ?_ call_name
                                        · refine sim_Global ok ?_ ?_ ?_
                                          · kernel_rfl
                                          · kernel_rfl
                                          · kernel_rfl
                                        · refine sim_args_cons ?_ ?_ ?_
                                          · refine sim_Name ok ?_ ?_
                                            · kernel_rfl
                                            · kernel_rfl
                                          · refine sim_args_cons ?_ ?_ ?_
                                            · refine sim_Name ok ?_ ?_
                                              · kernel_rfl
                                              · kernel_rfl
                                            · exact sim_args_nil
                                            · exact (star_plain rfl)
                                          · exact (star_plain rfl)
                                        · exact (keep_K (by kernel_rfl))
                                        · exact (pc_user ok (k := 1) (Nat.le_of_ble_eq_true (by kernel_rfl)) (fn_told _ rfl rfl rfl))
                                        · exact (plain_cons rfl (plain_cons rfl plain_nil))
                                      · exact (.inl (by kernel_rfl))
                                      · kernel_rfl
                                    · refine sim_one ?_
                                      · refine sim_If ?_ ?_ ?_
                                        · refine sim_test_BoolOp ?_
                                          · refine sim_all_or ?_ ?_
                                            · refine sim_test_Compare ?_ ?_ ?_ p_truthy ?_
                                              · refine sim_Name ok ?_ ?_
                                                · kernel_rfl
                                                · kernel_rfl
                                              · refine sim_Name ok ?_ ?_
                                                · kernel_rfl
                                                · kernel_rfl
                                              · exact (p_ne ok)
                                              · exact rfl
                                            · refine sim_all_or ?_ ?_
                                              · refine sim_test_Compare ?_ ?_ p_isnot p_truthy ?_
                                                · refine sim_Call ok (u := .type "type") ?_ ?_ keep_type pc_type ?_ call_name
                                                  · refine sim_Builtin ok ?_ ?_ ?_ ?_ ?_
                                                    · kernel_rfl
                                                    · kernel_rfl
                                                    · kernel_rfl
                                                    · exact (by decide)
                                                    · kernel_rfl
                                                  · refine sim_args_cons ?_ ?_ ?_
                                                    · refine sim_Name ok ?_ ?_
                                                      · kernel_rfl
                                                      · kernel_rfl
                                                    · exact sim_args_nil
                                                    · exact (star_plain rfl)
                                                  · exact (plain_cons rfl plain_nil)
                                                · refine sim_Call ok (u := .type "type") ?_ ?_ keep_type pc_type ?_ call_name
                                                  · refine sim_Builtin ok ?_ ?_ ?_ ?_ ?_
                                                    · kernel_rfl
                                                    · kernel_rfl
                                                    · kernel_rfl
                                                    · exact (by decide)
                                                    · kernel_rfl
                                                  · refine sim_args_cons ?_ ?_ ?_
                                                    · refine sim_Name ok ?_ ?_
                                                      · kernel_rfl
                                                      · kernel_rfl
                                                    · exact sim_args_nil
                                                    · exact (star_plain rfl)
                                                  · exact (plain_cons rfl plain_nil)
                                                · exact rfl
                                              · exact sim_all_nil_or
                                        · refine sim_one ?_
                                          · refine sim_Return ?_
                                            · exact sim_bool
                                        · exact sim_nil
                            · exact fun _ => rfl
                          · refine sim_cons ?_ ?_
                            · refine sim_If ?_ ?_ ?_
                              · refine sim_test_Compare ?_ ?_ p_isnot p_truthy ?_
                                · refine sim_Call ok (u := .ref 70) ?_ ?_ ?_ ?_ ?_ call_name
                                  · refine sim_Global ok ?_ ?_ ?_
                                    · kernel_rfl
                                    · kernel_rfl
                                    · kernel_rfl
                                  · refine sim_args_cons ?_ ?_ ?_
                                    · refine sim_Name ok ?_ ?_
                                      · kernel_rfl
                                      · kernel_rfl
                                    · refine sim_args_cons ?_ ?_ ?_
                                      · exact sim_none
                                      · exact sim_args_nil
                                      · exact (star_plain rfl)
                                    · exact (star_plain rfl)
                                  · exact (keep_K (by kernel_rfl))
                                  · exact (pc_user ok (k := 1) (Nat.le_of_ble_eq_true (by kernel_rfl)) (fn_told _ rfl rfl rfl))
                                  · exact (plain_cons rfl (plain_cons rfl plain_nil))
                                · refine sim_Compare ?_ ?_ ?_ ?_
                                  · exact sim_int
                                  · refine sim_Name ok ?_ ?_
                                    · kernel_rfl
                                    · kernel_rfl
                                  · exact (p_in ok)
                                  · exact rfl
                                · exact rfl
                              · refine sim_one ?_
                                · refine sim_Return ?_
                                  · exact sim_bool
                              · exact sim_nil
                            · refine sim_cons ?_ ?_
                              · refine sim_If ?_ ?_ ?_
                                · refine sim_test_BoolOp ?_
                                  · refine sim_all_or ?_ ?_
                                    · refine sim_test_Compare ?_ ?_ ?_ p_truthy ?_
                                      · refine sim_Call ok (u := .ref 70) ?_ ?_ ?_ ?_ ?_ call_name
                                        · refine sim_Global ok ?_ ?_ ?_
                                          · kernel_rfl
                                          · kernel_rfl
                                          · kernel_rfl
                                        · refine sim_args_cons ?_ ?_ ?_
                                          · refine sim_Name ok ?_ ?_
                                            · kernel_rfl
                                            · kernel_rfl
                                          · refine sim_args_cons ?_ ?_ ?_
                                            · exact sim_int
                                            · exact sim_args_nil
                                            · exact (star_plain rfl)
                                          · exact (star_plain rfl)
                                        · exact (keep_K (by kernel_rfl))
                                        · exact (pc_user ok (k := 1) (Nat.le_of_ble_eq_true (by kernel_rfl)) (fn_told _ rfl rfl rfl))
                                        · exact (plain_cons rfl (plain_cons rfl plain_nil))
                                      · exact sim_str
                                      · exact (p_ne ok)
                                      · exact rfl
                                    · refine sim_all_or ?_ ?_
                                      · refine sim_test_Compare ?_ ?_ ?_ p_truthy ?_
                                        · refine sim_Call ok (u := .ref 70) ?_ ?_ ?_ ?_ ?_ call_name
                                          · refine sim_Global ok ?_ ?_ ?_
                                            · kernel_rfl
                                            · kernel_rfl
                                            · kernel_rfl
                                          · refine sim_args_cons ?_ ?_ ?_
                                            · refine sim_Name ok ?_ ?_
                                              · kernel_rfl
                                              · kernel_rfl
                                            · refine sim_args_cons ?_ ?_ ?_
                                              · refine sim_List ?_
                                                · refine sim_args_cons ?_ ?_ ?_
                                                  · exact sim_str
                                                  · exact sim_args_nil
                                                  · exact (star_plain rfl)
                                              · exact sim_args_nil
                                              · exact (star_plain rfl)
                                            · exact (star_plain rfl)
                                          · exact (keep_K (by kernel_rfl))
                                          · exact (pc_user ok (k := 1) (Nat.le_of_ble_eq_true (by kernel_rfl)) (fn_told _ rfl rfl rfl))
                                          · exact (plain_cons rfl (plain_cons rfl plain_nil))
                                        · exact sim_str
                                        · exact (p_ne ok)
                                        · exact rfl
                                      · exact sim_all_nil_or
                                · refine sim_one ?_
                                  · refine sim_Return ?_
                                    · exact sim_bool
                                · exact sim_nil
                              · refine sim_cons ?_ ?_
                                · refine sim_If ?_ ?_ ?_
                                  · refine sim_test_Compare ?_ ?_ ?_ p_truthy ?_
                                    · refine sim_Call ok (u := .ref 70) ?_ ?_ ?_ ?_ ?_ call_name
                                      · refine sim_Global ok ?_ ?_ ?_
                                        · kernel_rfl
                                        · kernel_rfl
                                        · kernel_rfl
                                      · refine sim_args_cons ?_ ?_ ?_
                                        · refine sim_Name ok ?_ ?_
                                          · kernel_rfl
                                          · kernel_rfl
                                        · refine sim_args_cons ?_ ?_ ?_
                                          · exact sim_bytes
                                          · exact sim_args_nil
                                          · exact (star_plain rfl)
                                        · exact (star_plain rfl)
                                      · exact (keep_K (by kernel_rfl))
                                      · exact (pc_user ok (k := 1) (Nat.le_of_ble_eq_true (by kernel_rfl)) (fn_told _ rfl rfl rfl))
                                      · exact (plain_cons rfl (plain_cons rfl plain_nil))
                                    · exact sim_str
                                    · exact (p_ne ok)
                                    · exact rfl
                                  · refine sim_one ?_
                                    · refine sim_Return ?_
                                      · exact sim_bool
                                  · exact sim_nil
                                · refine sim_one ?_
                                  · refine sim_If ?_ ?_ ?_
                                    · refine sim_test_BoolOp ?_
                                      · refine sim_all_or ?_ ?_
                                        · refine sim_test_Compare ?_ ?_ p_isnot p_truthy ?_
                                          · refine sim_Attribute ok ?_ ?_
                                            · refine sim_Name ok ?_ ?_
                                              · kernel_rfl
                                              · kernel_rfl
                                            · kernel_rfl
                                          · refine sim_Name ok ?_ ?_
                                            · kernel_rfl
                                            · kernel_rfl
                                          · exact rfl
                                        · refine sim_all_or ?_ ?_
                                          · refine sim_test_Compare ?_ ?_ ?_ p_truthy ?_
                                            · refine sim_Name ok ?_ ?_
                                              · kernel_rfl
                                              · kernel_rfl
                                            · refine sim_ListComp ok (fr := ["agents"]) ?_ ?_ ?_ ?_ ?_ ?_
                                              · exact ⟨by kernel_rfl, by kernel_rfl, by kernel_rfl, by kernel_rfl, by kernel_rfl, by kernel_rfl, by kernel_rfl⟩
                                              · refine sim_Name ok ?_ ?_
                                                · kernel_rfl
                                                · kernel_rfl
                                              · kernel_rfl
                                              · intro _ _ ok
                                                exact sim_tests_nil
                                              · intro _ _ ok
                                                refine sim_Subscript ok ?_ ?_ ?_
                                                · refine sim_Name ok ?_ ?_
                                                  · kernel_rfl
                                                  · kernel_rfl
                                                · refine sim_Name ok ?_ ?_
                                                  · kernel_rfl
                                                  · kernel_rfl
                                                · exact fun _ _ => rfl
                                              · exact (fun _ => rfl)
                                            · exact (p_ne ok)
                                            · exact rfl
                                          · exact sim_all_nil_or
                                    · refine sim_one ?_
                                      · refine sim_Return ?_
                                        · exact sim_bool
                                    · exact sim_nil
                    · exact fun _ => rfl
                  · refine sim_one ?_
                    · refine sim_Return ?_
                      · exact sim_bool
  · exact Mine.law08_true a xs (by omega)
  · intro s' F hg' hos
    obtain ⟨_, _, F⟩ := F
    refine goodW_bool F hg' ?_ ?_ hos
    · first | exact fun _ => rfl | exact raisesW_false (by wrow_none_raised)
    · first | rfl | exact postW_of (by wrow_shape) (by wtm_val) (by str_meet; first | done | w_fin)
