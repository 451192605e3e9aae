import PyProof.Rows.All
import Wide.All
import OpenK.AllK
import Wide.FinOn
import PySem.Challenge.RW_wo0029_01
set_option Elab.async false

section
open PySem PySem.W PyProof.Rows
set_option autoImplicit false
namespace Mine

theorem runs_toks {M : Model} {Γ : Ctx} {p : Pos} {t : Sem Fin} {fs : List Frame} {s : Shared} {e : End} {s' : Shared} (h : Runs M Γ p t fs s e s') : s.toks ≤ s'.toks := by
  induction h with
  | done => exact Nat.le_refl _
  | raise => exact Nat.le_refl _
  | «yield» => exact Nat.le_refl _
  | fresh _ ih => exact Nat.le_trans (Nat.le_succ _) ih
  | call _ _ i1 i2 => exact Nat.le_trans i1 i2
  | resumeFresh _ _ _ _ i1 i2 => exact Nat.le_trans i1 i2
  | resumeSuspended _ _ _ _ i1 i2 => exact Nat.le_trans i1 i2
  | segRet _ _ i1 i2 => exact Nat.le_trans i1 i2
  | segGen _ _ i1 i2 => exact Nat.le_trans i1 i2
  | segSuspGen _ _ _ _ i1 i2 => exact Nat.le_trans i1 i2
  | _ => assumption

theorem wakes_toks {M : Model} {Γ : Ctx} {p : Pos} {g : Nat} {r : Resume} {s : Shared} {res : GenResult} {s' : Shared} (h : Wakes M Γ p g r s res s') : s.toks ≤ s'.toks := by
  unfold Wakes at h
  split at h
  · exact h.elim
  · split at h
    · obtain ⟨e, s₁, hr, _, _, rfl⟩ := h; have := runs_toks hr; exact this
    · rw [h.2]; exact Nat.le_refl _
    · rw [h.2]; exact Nat.le_refl _
  · obtain ⟨e, s₁, hr, _, _, rfl⟩ := h; have := runs_toks hr; exact this
  · rw [h.2]; exact Nat.le_refl _
  · rw [h.2]; exact Nat.le_refl _

theorem wp_le {α : Type} {M : Model} {Γ : Ctx} (t : Sem α) : ∀ (Q : α → Pos → Shared → Prop) (E : Value → Pos → Shared → Prop) (p : Pos) (s : Shared) (k : Nat), k ≤ s.toks →
    Sem.wp M Γ t (fun a p' s' => k ≤ s'.toks → Q a p' s') E p s → Sem.wp M Γ t Q E p s := by
  induction t with
  | pure a => intro Q E p s k hk h; exact h hk
  | raise e => intro Q E p s k hk h; exact h
  | unsupported _ => intro Q E p s k hk h; exact h
  | finish _ => intro Q E p s k hk h; exact h
  | rule tag c ih => intro Q E p s k hk h; exact ih () Q E p s k hk h
  | «at» p₀ c ih => intro Q E p s k hk h; exact ih () Q E p₀ s k hk h
  | load a part c ih => intro Q E p s k hk h; obtain ⟨o, ho, h⟩ := h; exact ⟨o, ho, ih o Q E p s k hk h⟩
  | update a part f c ih => intro Q E p s k hk h; obtain ⟨o, h⟩ := h; exact ⟨o, ih () Q E p _ k hk h⟩
  | loadIfAlive a c ih => intro Q E p s k hk h; exact ih _ Q E p s k hk h
  | point l c ih => intro Q E p s k hk h; exact ih () Q E p s k hk h
  | register a c _ => intro Q E p s k hk h; exact h
  | alloc o c ih => intro Q E p s k hk h; exact ih _ Q E p _ k hk h
  | fresh c ih => intro Q E p s k hk h; exact ih _ Q E p _ k (Nat.le_trans hk (Nat.le_succ _)) h
  | ask c ih => intro Q E p s k hk h; exact ih _ Q E p s k hk h
  | choose src n c ih => intro Q E p s k hk h; obtain ⟨hn, h⟩ := h; exact ⟨hn, ih _ Q E p _ k hk h⟩
  | os q l c ih => intro Q E p s k hk h; exact ih _ Q E p _ k hk h
  | call c h₀ g l c ih =>
    intro Q E p s k hk h
    obtain ⟨r, s₁, hr, h⟩ := h
    exact ⟨r, s₁, hr, ih r Q E p s₁ k (Nat.le_trans hk (runs_toks hr)) h⟩
  | handled own c ih => intro Q E p s k hk h; exact ih _ Q E p s k hk h
  | genState g c ih => intro Q E p s k hk h; obtain ⟨x, hg, h⟩ := h; exact ⟨x, hg, ih _ Q E p s k hk h⟩
  | newGen c₀ c ih => intro Q E p s k hk h; exact ih _ Q E p _ k hk h
  | resume g r l c ih =>
    intro Q E p s k hk h
    obtain ⟨res, s₁, hw, h⟩ := h
    exact ⟨res, s₁, hw, ih res Q E p s₁ k (Nat.le_trans hk (wakes_toks hw)) h⟩
  | «yield» v g l c _ => intro Q E p s k hk h; exact h
  | stack c ih => intro Q E p s k hk h; exact ih _ Q E p s k hk h
  | fork c₀ c _ => intro Q E p s k hk h; exact h
  | thread c ih => intro Q E p s k hk h; exact ih _ Q E p s k hk h
  | await a f d l c _ => intro Q E p s k hk h; exact h

/-- the count of marks only rises -/
theorem wpAny_le {α : Type} {M : Model} {A : Around} {t : Sem α} {Q : α → Shared → Prop} {E : Value → Shared → Prop} {s : Shared}
    (h : wpAny M A t (fun a s' => s.toks ≤ s'.toks → Q a s') E s) : wpAny M A t Q E s := fun Γ p hΓ => wp_le t _ _ p s s.toks (Nat.le_refl _) (h Γ p hΓ)
end Mine
end
section
open PySem PySem.W PyProof.Rows
set_option autoImplicit false
namespace Mine

/-! data on the heap, off the addresses that may still turn -/
noncomputable def Rep (Mu : List Addr) (h : Heap) (v : Value) (d : PyData) : Prop := ∃ as, Reads (hideAll h Mu) v d as
noncomputable def RepAll (Mu : List Addr) (h : Heap) (vs : List Value) (ds : List PyData) : Prop := ∃ as, ReadsAll (hideAll h Mu) vs ds as

noncomputable def KeepsH (h h' : Heap) : Prop := ∀ b o, h.get? b = some o → h'.get? b = some o
noncomputable def Lt (Mu : List Addr) (h : Heap) : Prop := ∀ a ∈ Mu, ∃ o, h.get? a = some o

theorem hide_notin {h : Heap} {Mu : List Addr} {a : Addr} {o : Obj} (e : (hideAll h Mu).get? a = some o) : a ∉ Mu := fun hm => by
  rw [hideAll_none _ hm] at e; cases e

noncomputable def Stays (Mu Mu' : List Addr) (h h' : Heap) : Prop := ∀ a o, a ∉ Mu → h.get? a = some o → a ∉ Mu' ∧ h'.get? a = some o

theorem Stays.hide {Mu Mu' : List Addr} {h h' : Heap} (k : Stays Mu Mu' h h') : KeepsH (hideAll h Mu) (hideAll h' Mu') := fun a o e =>
  let ⟨p, q⟩ := k a o (hide_notin e) (of_hideAll _ e); hideAll_get _ q p

theorem Rep.mono {Mu Mu' : List Addr} {h h' : Heap} {v : Value} {d : PyData} (k : Stays Mu Mu' h h') (r : Rep Mu h v d) : Rep Mu' h' v d :=
  let ⟨as, x⟩ := r; ⟨as, Reads.keeps k.hide x⟩
theorem RepAll.mono {Mu Mu' : List Addr} {h h' : Heap} {vs : List Value} {ds : List PyData} (k : Stays Mu Mu' h h') (r : RepAll Mu h vs ds) : RepAll Mu' h' vs ds :=
  let ⟨as, x⟩ := r; ⟨as, ReadsAll.keeps k.hide x⟩
theorem Stays.of_keeps {Mu : List Addr} {h h' : Heap} (k : KeepsH h h') : Stays Mu Mu h h' := fun a o n e => ⟨n, k a o e⟩
theorem Stays.more {Mu Mu' : List Addr} {h : Heap} (k : ∀ a ∈ Mu', a ∈ Mu ∨ h.get? a = none) : Stays Mu Mu' h h := by
  intro a o n e
  refine ⟨fun hm => ?_, e⟩
  rcases k a hm with h1 | h1
  · exact n h1
  · rw [e] at h1; cases h1
theorem Stays.trans {M₁ M₂ M₃ : List Addr} {h₁ h₂ h₃ : Heap} (a : Stays M₁ M₂ h₁ h₂) (b : Stays M₂ M₃ h₂ h₃) : Stays M₁ M₃ h₁ h₃ := fun x o n e =>
  let ⟨p, q⟩ := a x o n e; b x o p q
theorem KeepsH.trans {h₁ h₂ h₃ : Heap} (a : KeepsH h₁ h₂) (b : KeepsH h₂ h₃) : KeepsH h₁ h₃ := fun x o e => b x o (a x o e)
theorem KeepsH.refl (h : Heap) : KeepsH h h := fun _ _ e => e
theorem Rep.keeps {Mu : List Addr} {h h' : Heap} {v : Value} {d : PyData} (k : KeepsH h h') (r : Rep Mu h v d) : Rep Mu h' v d := r.mono (.of_keeps k)
theorem RepAll.keeps {Mu : List Addr} {h h' : Heap} {vs : List Value} {ds : List PyData} (k : KeepsH h h') (r : RepAll Mu h vs ds) : RepAll Mu h' vs ds := r.mono (.of_keeps k)

theorem Rep.reads {Mu : List Addr} {h : Heap} {v : Value} {d : PyData} (r : Rep Mu h v d) : ∃ as, Reads h v d as :=
  let ⟨as, x⟩ := r; ⟨as, Reads.keeps (fun _ _ e => of_hideAll _ e) x⟩
theorem RepAll.reads {Mu : List Addr} {h : Heap} {vs : List Value} {ds : List PyData} (r : RepAll Mu h vs ds) : ∃ as, ReadsAll h vs ds as :=
  let ⟨as, x⟩ := r; ⟨as, ReadsAll.keeps (fun _ _ e => of_hideAll _ e) x⟩

section
variable {Mu : List Addr} {h : Heap}
theorem Rep.none : Rep Mu h .none .none := ⟨_, .none⟩
theorem Rep.bool (b : Bool) : Rep Mu h (.bool b) (.bool b) := ⟨_, .bool b⟩
theorem Rep.int (i : Int) (t : Tok) : Rep Mu h (.int i t) (.int i) := ⟨_, .int i t⟩
theorem Rep.str (x : PySem.Str) (t : Tok) : Rep Mu h (.str x t) (.str x) := ⟨_, .str x t⟩
theorem Rep.list {a : Addr} {o : Obj} {vs : Array Value} {n : Nat} {ds : List PyData} (hm : a ∉ Mu) (ho : h.get? a = some o) (hc : o.cls = .type "list") (hd : o.data = .seq vs n) (r : RepAll Mu h vs.toList ds) : Rep Mu h (.ref a) (.list ds) :=
  let ⟨_, x⟩ := r; ⟨_, .list (hideAll_get _ ho hm) hc hd x⟩
theorem Rep.tuple {a : Addr} {o : Obj} {vs : Array Value} {n : Nat} {ds : List PyData} (hm : a ∉ Mu) (ho : h.get? a = some o) (hc : o.cls = .type "tuple") (hd : o.data = .seq vs n) (r : RepAll Mu h vs.toList ds) : Rep Mu h (.ref a) (.tuple ds) :=
  let ⟨_, x⟩ := r; ⟨_, .tuple (hideAll_get _ ho hm) hc hd x⟩
theorem Rep.int_inv {v : Value} {i : Int} (r : Rep Mu h v (.int i)) : ∃ t, v = .int i t := by
  obtain ⟨as, x⟩ := r; cases x; exact ⟨_, rfl⟩
theorem Rep.str_inv {v : Value} {i : PySem.Str} (r : Rep Mu h v (.str i)) : ∃ t, v = .str i t := by
  obtain ⟨as, x⟩ := r; cases x; exact ⟨_, rfl⟩
theorem Rep.bool_inv {v : Value} {i : Bool} (r : Rep Mu h v (.bool i)) : v = .bool i := by
  obtain ⟨as, x⟩ := r; cases x; rfl
theorem Rep.none_inv {v : Value} (r : Rep Mu h v .none) : v = .none := by
  obtain ⟨as, x⟩ := r; cases x; rfl
theorem Rep.list_inv {v : Value} {ds : List PyData} (r : Rep Mu h v (.list ds)) : ∃ a o vs n, v = .ref a ∧ a ∉ Mu ∧ h.get? a = some o ∧ o.cls = .type "list" ∧ o.data = .seq vs n ∧ RepAll Mu h vs.toList ds := by
  obtain ⟨as, x⟩ := r
  cases x with
  | list ho hc hd hr => exact ⟨_, _, _, _, rfl, hide_notin ho, of_hideAll _ ho, hc, hd, _, hr⟩
theorem Rep.tuple_inv {v : Value} {ds : List PyData} (r : Rep Mu h v (.tuple ds)) : ∃ a o vs n, v = .ref a ∧ a ∉ Mu ∧ h.get? a = some o ∧ o.cls = .type "tuple" ∧ o.data = .seq vs n ∧ RepAll Mu h vs.toList ds := by
  obtain ⟨as, x⟩ := r
  cases x with
  | tuple ho hc hd hr => exact ⟨_, _, _, _, rfl, hide_notin ho, of_hideAll _ ho, hc, hd, _, hr⟩
theorem RepAll.nil : RepAll Mu h [] [] := ⟨_, .nil⟩
theorem RepAll.cons {v : Value} {d : PyData} {vs : List Value} {ds : List PyData} (a : Rep Mu h v d) (b : RepAll Mu h vs ds) : RepAll Mu h (v :: vs) (d :: ds) :=
  let ⟨_, x⟩ := a; let ⟨_, y⟩ := b; ⟨_, .cons x y⟩
theorem RepAll.nil_inv {vs : List Value} (r : RepAll Mu h vs []) : vs = [] := by
  obtain ⟨as, x⟩ := r; cases x; rfl
theorem RepAll.cons_inv {vs : List Value} {d : PyData} {ds : List PyData} (r : RepAll Mu h vs (d :: ds)) : ∃ v r, vs = v :: r ∧ Rep Mu h v d ∧ RepAll Mu h r ds := by
  obtain ⟨as, x⟩ := r
  cases x with
  | cons p q => exact ⟨_, _, rfl, ⟨_, p⟩, ⟨_, q⟩⟩
theorem RepAll.length : ∀ {ds : List PyData} {vs : List Value}, RepAll Mu h vs ds → vs.length = ds.length
  | [], _, r => by rw [r.nil_inv]; rfl
  | d :: ds, _, r => by obtain ⟨v, rr, rfl, _, q⟩ := r.cons_inv; simp [RepAll.length q]
theorem RepAll.get : ∀ {ds : List PyData} {vs : List Value} {i : Nat} {d : PyData}, RepAll Mu h vs ds → ds[i]? = some d → ∃ v, vs[i]? = some v ∧ Rep Mu h v d
  | [], _, _, _, _, e => by simp at e
  | d :: ds, _, 0, _, r, e => by obtain ⟨v, rr, rfl, p, q⟩ := r.cons_inv; simp at e; subst e; exact ⟨v, rfl, p⟩
  | d :: ds, _, i + 1, _, r, e => by obtain ⟨v, rr, rfl, p, q⟩ := r.cons_inv; simp at e ⊢; exact RepAll.get q e
theorem RepAll.get' : ∀ {ds : List PyData} {vs : List Value} {i : Nat} {v : Value}, RepAll Mu h vs ds → vs[i]? = some v → ∃ d, ds[i]? = some d ∧ Rep Mu h v d
  | [], _, _, _, r, e => by rw [r.nil_inv] at e; simp at e
  | d :: ds, _, 0, _, r, e => by obtain ⟨v, rr, rfl, p, q⟩ := r.cons_inv; simp at e; subst e; exact ⟨d, rfl, p⟩
  | d :: ds, _, i + 1, _, r, e => by obtain ⟨v, rr, rfl, p, q⟩ := r.cons_inv; simp at e ⊢; exact RepAll.get' q e
theorem RepAll.of_get : ∀ {ds : List PyData} {vs : List Value}, vs.length = ds.length → (∀ (i : Nat) v d, vs[i]? = some v → ds[i]? = some d → Rep Mu h v d) → RepAll Mu h vs ds
  | [], vs, e, _ => by have : vs = [] := List.eq_nil_of_length_eq_zero (by simpa using e); subst this; exact .nil
  | d :: ds, [], e, _ => by simp at e
  | d :: ds, v :: vs, e, H => .cons (H 0 v d rfl rfl) (RepAll.of_get (by simpa using e) fun i v d hv hd => H (i + 1) v d (by simpa using hv) (by simpa using hd))
theorem RepAll.append : ∀ {ds es : List PyData} {vs ws : List Value}, RepAll Mu h vs ds → RepAll Mu h ws es → RepAll Mu h (vs ++ ws) (ds ++ es)
  | [], _, _, _, a, b => by rw [a.nil_inv]; exact b
  | d :: ds, _, _, _, a, b => by obtain ⟨v, rr, rfl, p, q⟩ := a.cons_inv; exact .cons p (RepAll.append q b)
theorem RepAll.take {ds : List PyData} {vs : List Value} (n : Nat) (a : RepAll Mu h vs ds) : RepAll Mu h (vs.take n) (ds.take n) :=
  .of_get (by simp [a.length]) fun i v d hv hd => by
    rw [List.getElem?_take] at hv hd
    split at hv
    · rename_i hi; rw [if_pos hi] at hd
      obtain ⟨d', e, r⟩ := a.get' hv
      rw [hd] at e; cases e; exact r
    · cases hv
theorem RepAll.drop {ds : List PyData} {vs : List Value} (n : Nat) (a : RepAll Mu h vs ds) : RepAll Mu h (vs.drop n) (ds.drop n) :=
  .of_get (by simp [a.length]) fun i v d hv hd => by
    rw [List.getElem?_drop] at hv hd
    obtain ⟨d', e, r⟩ := a.get' hv
    rw [hd] at e; cases e; exact r
end

end Mine
end
section
open PySem PySem.W PyProof.Rows
set_option autoImplicit false
set_option linter.unusedVariables false
namespace Mine

noncomputable def isStarred : Expr → Bool
  | .Starred _ _ => true
  | _ => false
theorem star_cons (e : Expr) (es : List Expr) (env : Env) (h : isStarred e = false) : starEach (e :: es) env = (false, eval e env) :: starEach es env := by
  cases e <;> first | (cases h; done) | rfl

structure Base where
  prog : Program
  w : World
  h₀ : Heap
  mg : PySem.Str → Option Value
  mb : PySem.Str → Option Value

structure BaseOk (b : Base) : Prop where
  g : Heap.Ns b.h₀ mainGlobals b.mg
  bb : Heap.Ns b.h₀ builtinsNs b.mb
  nolimit : Heap.NoLimit b.h₀

/-- what a place in the calls must have: `n` more calls fit -/
structure Room (n : Nat) (A : Around) : Prop where
  hand : A.handled = none
  depth : A.depth + n < recursionLimit
  units : A.units + 3 * n + 200 < cLine

noncomputable def plainList (vs : Array Value) (n : Nat) : Obj := { cls := .type "list", data := .seq vs n }

/-- a datum; a plain list (nothing but its items); a value as it lies; a dict of texts -/
inductive LV where
  | d (x : PyData)
  | pl (xs : List PyData)
  | r (v : Value)
  | k (es : List (PySem.Str × PyData))

noncomputable def DctAt (b : Base) (Mu : List Addr) (h : Heap) (a : Addr) (es : List (PySem.Str × PyData)) : Prop :=
  (a == sysModules) = false ∧ ∃ kvs : List (PySem.Str × Value), h.DictOf (strKind b.prog b.w) a kvs ∧ kvs.map (·.1) = es.map (·.1) ∧ RepAll Mu h (kvs.map (·.2)) (es.map (·.2))

noncomputable def RepL (b : Base) (Mu : List Addr) (h : Heap) (v : Value) : LV → Prop
  | .d x => Rep Mu h v x
  | .pl xs => ∃ a vs n, v = .ref a ∧ a ∉ Mu ∧ h.get? a = some (plainList vs n) ∧ RepAll Mu h vs.toList xs
  | .r u => v = u
  | .k es => ∃ a, v = .ref a ∧ a ∉ Mu ∧ DctAt b Mu h a es

theorem DctAt.mono {b : Base} {Mu Mu' : List Addr} {h h' : Heap} {a : Addr} {es : List (PySem.Str × PyData)} (k : Stays Mu Mu' h h') (ka : ∀ o, h.get? a = some o → h'.get? a = some o) (x : DctAt b Mu h a es) : DctAt b Mu' h' a es := by
  obtain ⟨ns, kvs, d, e, r⟩ := x
  obtain ⟨o, ho, hd⟩ := Heap.dictOf_iff.mp d
  exact ⟨ns, kvs, Heap.dictOf_iff.mpr ⟨o, ka o ho, hd⟩, e, r.mono k⟩
theorem RepL.mono {b : Base} {Mu Mu' : List Addr} {h h' : Heap} {v : Value} {l : LV} (k : Stays Mu Mu' h h') (r : RepL b Mu h v l) : RepL b Mu' h' v l := by
  cases l with
  | d x => exact Rep.mono k r
  | pl xs => obtain ⟨a, vs, n, e, hm, ho, rr⟩ := r; exact ⟨a, vs, n, e, (k a _ hm ho).1, (k a _ hm ho).2, rr.mono k⟩
  | r u => exact r
  | k es =>
    obtain ⟨a, e, n, x⟩ := r
    obtain ⟨_, kvs, d, _⟩ := id x
    obtain ⟨o, ho, hd⟩ := Heap.dictOf_iff.mp d
    exact ⟨a, e, (k a o n ho).1, x.mono k fun o' e' => (k a o' n e').2⟩
theorem RepL.weak {b : Base} {Mu : List Addr} {h : Heap} {v : Value} {xs : List PyData} (r : RepL b Mu h v (.pl xs)) : Rep Mu h v (.list xs) := by
  obtain ⟨a, vs, n, rfl, hm, ho, rr⟩ := r; exact Rep.list hm ho rfl rfl rr
theorem RepL.keeps {b : Base} {Mu : List Addr} {h h' : Heap} {v : Value} {l : LV} (k : KeepsH h h') (r : RepL b Mu h v l) : RepL b Mu h' v l := r.mono (.of_keeps k)

/-- a frame: where it runs -/
structure Cx where
  A : Around
  env : Env

structure CxOk (b : Base) (n : Nat) (c : Cx) : Prop where
  room : Room n c.A
  kind : c.env.scope.kind = .function
  globals : c.env.globals = mainGlobals
  builtins : c.env.builtins = builtinsNs

noncomputable abbrev Rho := PySem.Str → Option LV
noncomputable def upd (ρ : Rho) (x : PySem.Str) (l : LV) : Rho := fun y => if y = x then some l else ρ y

noncomputable def NameAt (env : Env) (h : Heap) (x : PySem.Str) (v : Value) : Prop :=
  (env.kindOf x = some .local ∧ ∃ m, h.Ns env.locals m ∧ m x = some v) ∨
  (env.kindOf x = some .cell ∧ ∃ c, env.cells.lookup x = some c ∧ h.IsCell c (some v))

theorem NameAt.keeps {env : Env} {h h' : Heap} {x : PySem.Str} {v : Value} (k : KeepsH h h') (n : NameAt env h x v) : NameAt env h' x v := by
  rcases n with ⟨a, m, hm, e⟩ | ⟨a, c, hc, e⟩
  · exact .inl ⟨a, m, hm.keeps k, e⟩
  · exact .inr ⟨a, c, hc, e.keeps k⟩

structure Hold (b : Base) (c : Cx) (Mu : List Addr) (ρ : Rho) (s : Shared) : Prop where
  base : KeepsH b.h₀ s.heap
  lt : Lt Mu s.heap
  vars : ∀ x l, ρ x = some l → ∃ v, NameAt c.env s.heap x v ∧ RepL b Mu s.heap v l
  pos : 0 < s.toks
  hi : ∀ a ∈ Mu, b.h₀.get? a = Option.none

theorem Lt.keeps {Mu : List Addr} {h h' : Heap} (k : KeepsH h h') (l : Lt Mu h) : Lt Mu h' := fun a ha => let ⟨o, e⟩ := l a ha; ⟨o, k a o e⟩

/-- an expression's or a call's outcome: the heap grows alone -/
noncomputable def Grows (s s' : Shared) : Prop := ∃ h' tk, s' = { s with heap := h', toks := tk } ∧ KeepsH s.heap h' ∧ s.toks ≤ tk
theorem Grows.refl (s : Shared) : Grows s s := ⟨s.heap, s.toks, rfl, KeepsH.refl _, Nat.le_refl _⟩
theorem Grows.trans {a b c : Shared} (x : Grows a b) (y : Grows b c) : Grows a c := by
  obtain ⟨h, t, rfl, k, l⟩ := x
  obtain ⟨h', t', rfl, k', l'⟩ := y
  exact ⟨h', t', rfl, k.trans k', Nat.le_trans l l'⟩
theorem Grows.keeps {a b : Shared} (x : Grows a b) : KeepsH a.heap b.heap := by
  obtain ⟨h, t, rfl, k, l⟩ := x; exact k
theorem Grows.le {a b : Shared} (x : Grows a b) : a.toks ≤ b.toks := by
  obtain ⟨h, t, rfl, k, l⟩ := x; exact l
theorem Grows.toKeeps {a b : Shared} (x : Grows a b) : Keeps a b := by
  obtain ⟨h, t, rfl, k, l⟩ := x; exact ⟨h, t, rfl, k⟩
theorem Grows.of {s : Shared} {h' : Heap} {tk : Nat} (k : KeepsH s.heap h') (l : s.toks ≤ tk) : Grows s { s with heap := h', toks := tk } := ⟨h', tk, rfl, k, l⟩
theorem Grows.toks (s : Shared) (t : Nat) (l : s.toks ≤ t := by first | exact Nat.le_succ _ | assumption | (simp only []; omega)) : Grows s { s with toks := t } := ⟨s.heap, t, rfl, KeepsH.refl _, l⟩
theorem Grows.push (s : Shared) (o : Obj) : Grows s { s with heap := s.heap.push o } := ⟨_, s.toks, rfl, fun _ _ e => Heap.get?_push_of_some _ e, Nat.le_refl _⟩

theorem Hold.grows {b : Base} {c : Cx} {Mu : List Addr} {ρ : Rho} {s s' : Shared} (g : Grows s s') (H : Hold b c Mu ρ s) : Hold b c Mu ρ s' :=
  ⟨H.base.trans g.keeps, H.lt.keeps g.keeps, fun x l e => let ⟨v, n, r⟩ := H.vars x l e; ⟨v, n.keeps g.keeps, r.keeps g.keeps⟩, Nat.lt_of_lt_of_le H.pos g.le, H.hi⟩

/-- the expression has that value -/
structure Ev (b : Base) (c : Cx) (Mu : List Addr) (ρ : Rho) (e : Expr) (l : LV) : Prop where
  wp : ∀ (s : Shared) (E : Value → Shared → Prop), Hold b c Mu ρ s →
    wpAny (model b.prog b.w) c.A (eval e c.env) (fun v s' => Grows s s' ∧ RepL b Mu s'.heap v l) E s

/-- the test comes out so -/
structure Te (b : Base) (c : Cx) (Mu : List Addr) (ρ : Rho) (e : Expr) (t : Bool) : Prop where
  wp : ∀ (s : Shared) (E : Value → Shared → Prop), Hold b c Mu ρ s →
    wpAny (model b.prog b.w) c.A (isTrue e c.env (eval e c.env)) (fun v s' => Grows s s' ∧ v = t) E s

noncomputable def Bop (b : Base) (op : Operator) (x y r : PyData) : Prop :=
  ∀ (A : Around) (Mu : List Addr) (s : Shared) (E : Value → Shared → Prop) (v w : Value), Room 0 A → Lt Mu s.heap → Rep Mu s.heap v x → Rep Mu s.heap w y →
    wpAny (model b.prog b.w) A (binaryOp op v w) (fun z s' => Grows s s' ∧ Rep Mu s'.heap z r) E s
noncomputable def Cop (b : Base) (op : CmpOp) (x y : PyData) (r : Bool) : Prop :=
  ∀ (A : Around) (Mu : List Addr) (s : Shared) (E : Value → Shared → Prop) (v w : Value), Room 0 A → Lt Mu s.heap → Rep Mu s.heap v x → Rep Mu s.heap w y →
    wpAny (model b.prog b.w) A (compareOp op v w) (fun z s' => Grows s s' ∧ z = .bool r) E s

theorem Room.le {n m : Nat} {A : Around} (r : Room n A) (h : m ≤ n) : Room m A := ⟨r.hand, by have := r.depth; omega, by have := r.units; omega⟩

section
variable {b : Base} {c : Cx} {Mu : List Addr} {ρ : Rho}

theorem Ev.intC (i : Int) (k : Nat) (p : Pos) : Ev b c Mu ρ (.Constant (.int i) k p) (.d (.int i)) := .mk fun s E H =>
  wpAny_Constant_int ⟨Grows.toks _ _, Rep.int _ _⟩
theorem Ev.strC (x : PySem.Str) (k : Nat) (p : Pos) : Ev b c Mu ρ (.Constant (.str x) k p) (.d (.str x)) := .mk fun s E H =>
  wpAny_Constant_str ⟨Grows.toks _ _, Rep.str _ _⟩
theorem Ev.noneC (k : Nat) (p : Pos) : Ev b c Mu ρ (.Constant .none k p) (.d .none) := .mk fun s E H =>
  wpAny_Constant_none ⟨Grows.refl _, Rep.none⟩
theorem Ev.boolC (t : Bool) (k : Nat) (p : Pos) : Ev b c Mu ρ (.Constant (.bool t) k p) (.d (.bool t)) := .mk fun s E H =>
  wpAny_Constant_bool ⟨Grows.refl _, Rep.bool _⟩

theorem Ev.nameR {n : Nat} (ok : CxOk b n c) {x : PySem.Str} {p : Pos} {l : LV} (e : ρ x = some l) (hd : (x == ("__debug__" : PySem.Str)) = false) : Ev b c Mu ρ (.Name x p) l := .mk fun s E H => by
  obtain ⟨v, nm, r⟩ := H.vars x l e
  refine wpAny_Name ?_ hd
  rcases nm with ⟨hl, m, hm, e⟩ | ⟨hl, cc, hc, e⟩
  · exact wpAny_loadName_local ok.kind hl hm e ⟨Grows.refl _, r⟩
  · exact wpAny_loadName_cell ok.kind hl hc e ⟨Grows.refl _, r⟩

theorem Ev.global {n : Nat} (ok : CxOk b n c) (B : BaseOk b) {x : PySem.Str} {p : Pos} {v : Value} (hx : c.env.kindOf x = some .globalImplicit) (hv : b.mg x = some v)
    (hd : (x == ("__debug__" : PySem.Str)) = false) : Ev b c Mu ρ (.Name x p) (.r v) := .mk fun s E H =>
  Calls.Name_function_global ok.kind hx (Calls.loadGlobal_global (by rw [ok.globals]; exact B.g.keeps H.base) hv ⟨Grows.refl _, rfl⟩) hd
theorem Ev.builtin {n : Nat} (ok : CxOk b n c) (B : BaseOk b) {x : PySem.Str} {p : Pos} {v : Value} (hx : c.env.kindOf x = some .globalImplicit) (hn : b.mg x = Option.none) (hv : b.mb x = some v)
    (hd : (x == ("__debug__" : PySem.Str)) = false) : Ev b c Mu ρ (.Name x p) (.r v) := .mk fun s E H =>
  Calls.Name_function_global ok.kind hx (Calls.loadGlobal_builtin (by rw [ok.globals]; exact B.g.keeps H.base) hn (by rw [ok.builtins]; exact B.bb.keeps H.base) hv ⟨Grows.refl _, rfl⟩) hd

theorem Ev.of_base {e : Expr} {v : Value} {d : PyData} (x : Ev b c Mu ρ e (.r v)) (h : Rep [] b.h₀ v d) : Ev b c Mu ρ e (.d d) := .mk fun s E H =>
  wpAny_mono (x.wp s E H) (fun u s' g => ⟨g.1, by
    have e : u = v := g.2
    subst e
    have H' := H.grows g.1
    exact h.mono fun a o _ e => ⟨(fun hm => by rw [H'.hi a hm] at e; injection e), H'.base a o e⟩⟩) fun _ _ x => x
theorem Ev.of_raw {e : Expr} {v : Value} {d : PyData} (x : Ev b c Mu ρ e (.r v)) (h : ∀ s : Shared, Hold b c Mu ρ s → Rep Mu s.heap v d) : Ev b c Mu ρ e (.d d) := .mk fun s E H =>
  wpAny_mono (x.wp s E H) (fun u s' g => ⟨g.1, by have e : u = v := g.2; subst e; exact h s' (H.grows g.1)⟩) fun _ _ x => x

theorem Ev.bin {n : Nat} (ok : CxOk b n c) {l r : Expr} {op : Operator} {pos : Pos} {x y z : PyData} (hl : Ev b c Mu ρ l (.d x)) (hr : Ev b c Mu ρ r (.d y)) (ho : Bop b op x y z) :
    Ev b c Mu ρ (.BinOp l op r pos) (.d z) := .mk fun s E H =>
  wpAny_BinOp (wpAny_mono (hl.wp s E H) (fun v s₁ g₁ => wpAny_mono (hr.wp s₁ E (H.grows g₁.1)) (fun w s₂ g₂ =>
    wpAny_mono (ho c.A Mu s₂ E v w (ok.room.le (Nat.zero_le _)) (H.grows (g₁.1.trans g₂.1)).lt (RepL.keeps g₂.1.keeps g₁.2) g₂.2)
      (fun z s₃ g₃ => ⟨(g₁.1.trans g₂.1).trans g₃.1, g₃.2⟩) fun _ _ x => x) fun _ _ x => x) fun _ _ x => x)

theorem Ev.cmp {n : Nat} (ok : CxOk b n c) {l r : Expr} {op : CmpOp} {pos : Pos} {x y : PyData} {z : Bool} (hl : Ev b c Mu ρ l (.d x)) (hr : Ev b c Mu ρ r (.d y)) (ho : Cop b op x y z)
    (hm : behindInMarks op r = false) : Ev b c Mu ρ (.Compare l [op] [r] pos) (.d (.bool z)) := .mk fun s E H =>
  wpAny_Compare1 (wpAny_mono (hl.wp s E H) (fun v s₁ g₁ => wpAny_mono (hr.wp s₁ E (H.grows g₁.1)) (fun w s₂ g₂ =>
    wpAny_mono (ho c.A Mu s₂ E v w (ok.room.le (Nat.zero_le _)) (H.grows (g₁.1.trans g₂.1)).lt (RepL.keeps g₂.1.keeps g₁.2) g₂.2)
      (fun z s₃ g₃ => ⟨(g₁.1.trans g₂.1).trans g₃.1, by rw [g₃.2]; exact Rep.bool _⟩) fun _ _ x => x) fun _ _ x => x) fun _ _ x => x) hm

theorem Te.cmp {n : Nat} (ok : CxOk b n c) {l r : Expr} {op : CmpOp} {pos : Pos} {x y : PyData} {z : Bool} (hl : Ev b c Mu ρ l (.d x)) (hr : Ev b c Mu ρ r (.d y)) (ho : Cop b op x y z)
    (hm : behindInMarks op r = false) : Te b c Mu ρ (.Compare l [op] [r] pos) z := .mk fun s E H =>
  wpAny_isTrue_Compare1 (wpAny_mono (hl.wp s E H) (fun v s₁ g₁ => wpAny_mono (hr.wp s₁ E (H.grows g₁.1)) (fun w s₂ g₂ =>
    wpAny_mono (ho c.A Mu s₂ E v w (ok.room.le (Nat.zero_le _)) (H.grows (g₁.1.trans g₂.1)).lt (RepL.keeps g₂.1.keeps g₁.2) g₂.2)
      (fun z s₃ g₃ => by rw [g₃.2]; exact wpAny_truthy_bool ⟨(g₁.1.trans g₂.1).trans g₃.1, rfl⟩) fun _ _ x => x) fun _ _ x => x) fun _ _ x => x) hm

theorem Te.not {e : Expr} {pos : Pos} {t : Bool} (h : Te b c Mu ρ e t) : Te b c Mu ρ (.UnaryOp .Not e pos) (!t) := .mk fun s E H =>
  wpAny_isTrue_Not (wpAny_mono (h.wp s E H) (fun v s₁ g => ⟨g.1, by rw [g.2]⟩) fun _ _ x => x)

/-- an or, told in one: each arm, asked only where the ones before are false -/
inductive AnyT (b : Base) (c : Cx) (Mu : List Addr) (ρ : Rho) : List Expr → Bool → Prop
  | nil : AnyT b c Mu ρ [] false
  | cons {e r t u} : Te b c Mu ρ e t → (t = false → AnyT b c Mu ρ r u) → AnyT b c Mu ρ (e :: r) (t || u)
inductive AllT (b : Base) (c : Cx) (Mu : List Addr) (ρ : Rho) : List Expr → Bool → Prop
  | nil : AllT b c Mu ρ [] true
  | cons {e r t u} : Te b c Mu ρ e t → (t = true → AllT b c Mu ρ r u) → AllT b c Mu ρ (e :: r) (t && u)

theorem AnyT.wp {es : List Expr} {t : Bool} (h : AnyT b c Mu ρ es t) : ∀ (s : Shared) (E : Value → Shared → Prop), Hold b c Mu ρ s →
    wpAny (model b.prog b.w) c.A (allTrue .Or es c.env) (fun v s' => Grows s s' ∧ v = t) E s := by
  induction h with
  | nil => intro s E H; exact wpAny_allTrue_Or_nil ⟨Grows.refl _, rfl⟩
  | @cons e r t u h _ ih =>
    intro s E H
    refine wpAny_allTrue_Or_cons (wpAny_mono (h.wp s E H) (fun v s₁ g => ?_) fun _ _ x => x)
    obtain ⟨g1, rfl⟩ := g
    cases v with
    | true => exact ⟨g1, rfl⟩
    | false => exact wpAny_mono (ih rfl s₁ E (H.grows g1)) (fun v s₂ g => ⟨g1.trans g.1, by rw [g.2]; rfl⟩) fun _ _ x => x
theorem AllT.wp {es : List Expr} {t : Bool} (h : AllT b c Mu ρ es t) : ∀ (s : Shared) (E : Value → Shared → Prop), Hold b c Mu ρ s →
    wpAny (model b.prog b.w) c.A (allTrue .And es c.env) (fun v s' => Grows s s' ∧ v = t) E s := by
  induction h with
  | nil => intro s E H; exact wpAny_allTrue_And_nil ⟨Grows.refl _, rfl⟩
  | @cons e r t u h _ ih =>
    intro s E H
    refine wpAny_allTrue_And_cons (wpAny_mono (h.wp s E H) (fun v s₁ g => ?_) fun _ _ x => x)
    obtain ⟨g1, rfl⟩ := g
    cases v with
    | false => exact ⟨g1, rfl⟩
    | true => exact wpAny_mono (ih rfl s₁ E (H.grows g1)) (fun v s₂ g => ⟨g1.trans g.1, by rw [g.2]; rfl⟩) fun _ _ x => x
theorem Te.or {es : List Expr} {pos : Pos} {t : Bool} (h : AnyT b c Mu ρ es t) : Te b c Mu ρ (.BoolOp .Or es pos) t := .mk fun s E H => wpAny_isTrue_BoolOp (h.wp s E H)
theorem Te.and {es : List Expr} {pos : Pos} {t : Bool} (h : AllT b c Mu ρ es t) : Te b c Mu ρ (.BoolOp .And es pos) t := .mk fun s E H => wpAny_isTrue_BoolOp (h.wp s E H)

theorem Ev.ifexp {test body orelse : Expr} {pos : Pos} {t : Bool} {l : LV} (ht : Te b c Mu ρ test t) (h1 : t = true → Ev b c Mu ρ body l) (h2 : t = false → Ev b c Mu ρ orelse l) :
    Ev b c Mu ρ (.IfExp test body orelse pos) l := .mk fun s E H =>
  wpAny_IfExp (wpAny_mono (ht.wp s E H) (fun v s₁ g => by
    obtain ⟨g1, rfl⟩ := g
    cases v with
    | true => exact wpAny_mono ((h1 rfl).wp s₁ E (H.grows g1)) (fun v s₂ g => ⟨g1.trans g.1, g.2⟩) fun _ _ x => x
    | false => exact wpAny_mono ((h2 rfl).wp s₁ E (H.grows g1)) (fun v s₂ g => ⟨g1.trans g.1, g.2⟩) fun _ _ x => x) fun _ _ x => x)

theorem Ev.neg {e : Expr} {pos : Pos} {i : Int} (h : Ev b c Mu ρ e (.d (.int i))) : Ev b c Mu ρ (.UnaryOp .USub e pos) (.d (.int (-i))) := .mk fun s E H =>
  wpAny_UnaryOp (wpAny_mono (h.wp s E H) (fun v s₁ g => by
    obtain ⟨t, rfl⟩ := Rep.int_inv g.2
    exact neg_int ⟨g.1.trans (Grows.toks _ _), Rep.int _ _⟩) fun _ _ x => x)

theorem Ev.weak {e : Expr} {xs : List PyData} (h : Ev b c Mu ρ e (.pl xs)) : Ev b c Mu ρ e (.d (.list xs)) := .mk fun s E H =>
  wpAny_mono (h.wp s E H) (fun v s' g => ⟨g.1, RepL.weak g.2⟩) fun _ _ x => x

/-- a row of expressions, left to right -/
inductive Evs (b : Base) (c : Cx) (Mu : List Addr) (ρ : Rho) : List Expr → List PyData → Prop
  | nil : Evs b c Mu ρ [] []
  | cons {e es d ds} : Ev b c Mu ρ e (.d d) → isStarred e = false → Evs b c Mu ρ es ds → Evs b c Mu ρ (e :: es) (d :: ds)

theorem Evs.wp {es : List Expr} {ds : List PyData} (h : Evs b c Mu ρ es ds) (pos : Pos) : ∀ (s : Shared) (E : Value → Shared → Prop), Hold b c Mu ρ s →
    wpAny (model b.prog b.w) c.A (spliced (backTo pos (starEach es c.env))) (fun vs s' => Grows s s' ∧ RepAll Mu s'.heap vs ds) E s := by
  induction h with
  | nil => intro s E H; exact wpAny_items_nil ⟨Grows.refl _, RepAll.nil⟩
  | cons h he _ ih =>
    intro s E H
    exact wpAny_items_cons (wpAny_mono (h.wp s E H) (fun v s₁ g₁ => wpAny_mono (ih s₁ E (H.grows g₁.1)) (fun vs s₂ g₂ => ⟨g₁.1.trans g₂.1, .cons (RepL.keeps g₂.1.keeps g₁.2) g₂.2⟩) fun _ _ x => x) fun _ _ x => x) (star_cons _ _ _ he)

theorem notin_size {Mu : List Addr} {h : Heap} (l : Lt Mu h) : h.objs.size ∉ Mu := fun hm => let ⟨_, e⟩ := l _ hm; Nat.lt_irrefl _ (Heap.lt_size e)

theorem Ev.listP {es : List Expr} {ds : List PyData} {pos : Pos} (h : Evs b c Mu ρ es ds) (hs : ds.length ≤ sizeLine) : Ev b c Mu ρ (.List es pos) (.pl ds) := .mk fun s E H =>
  wpAny_List (wpAny_mono (h.wp pos s E H) (fun vs s₁ g => ⟨by rw [g.2.length]; exact hs, g.1.trans (Grows.push _ _),
    ⟨_, vs.toArray, _, rfl, notin_size (H.grows g.1).lt, Heap.get?_push_size _ rfl, (by rw [show vs.toArray.toList = vs by simp]; exact g.2.keeps (Grows.push _ _).keeps)⟩⟩) fun _ _ x => x)
theorem Ev.listD {es : List Expr} {ds : List PyData} {pos : Pos} (h : Evs b c Mu ρ es ds) (hs : ds.length ≤ sizeLine) : Ev b c Mu ρ (.List es pos) (.d (.list ds)) := (Ev.listP h hs).weak
theorem Ev.tupleD {es : List Expr} {ds : List PyData} {k : Nat} {pos : Pos} (h : Evs b c Mu ρ es ds) (hs : ds.length ≤ sizeLine) : Ev b c Mu ρ (.Tuple es k pos) (.d (.tuple ds)) := .mk fun s E H =>
  wpAny_Tuple (wpAny_mono (h.wp pos s E H) (fun vs s₁ g => ⟨by rw [g.2.length]; exact hs, g.1.trans (Grows.push _ _),
    Rep.tuple (notin_size (H.grows g.1).lt) (Heap.get?_push_size _ rfl) rfl rfl (by rw [show vs.toArray.toList = vs by simp]; exact g.2.keeps (Grows.push _ _).keeps)⟩) fun _ _ x => x)

/-! operators on ints and texts -/
theorem Bop.add (i j : Int) : Bop b .Add (.int i) (.int j) (.int (i + j)) := fun A Mu s E v w R _ hv hw => by
  obtain ⟨t, rfl⟩ := hv.int_inv; obtain ⟨u, rfl⟩ := hw.int_inv
  exact add_int ⟨Grows.toks _ _, Rep.int _ _⟩
theorem Bop.sub (i j : Int) : Bop b .Sub (.int i) (.int j) (.int (i - j)) := fun A Mu s E v w R _ hv hw => by
  obtain ⟨t, rfl⟩ := hv.int_inv; obtain ⟨u, rfl⟩ := hw.int_inv
  exact sub_int ⟨Grows.toks _ _, Rep.int _ _⟩
theorem Bop.mul (i j : Int) (h : IntMulOk i j) : Bop b .Mult (.int i) (.int j) (.int (i * j)) := fun A Mu s E v w R _ hv hw => by
  obtain ⟨t, rfl⟩ := hv.int_inv; obtain ⟨u, rfl⟩ := hw.int_inv
  exact mul_int (hm := h) ⟨Grows.toks _ _, Rep.int _ _⟩
theorem Bop.fdiv (i j : Int) (h : j ≠ 0) (hp0 : Builtin.divisionGoesByPylong i j = false) : Bop b .FloorDiv (.int i) (.int j) (.int (i.fdiv j)) := fun A Mu s E v w R _ hv hw => by
  obtain ⟨t, rfl⟩ := hv.int_inv; obtain ⟨u, rfl⟩ := hw.int_inv
  exact floordiv_int (hp := .inl hp0) h ⟨Grows.toks _ _, Rep.int _ _⟩
theorem Bop.cat (x y : PySem.Str) (h : x.length + y.length ≤ sizeLine) : Bop b .Add (.str x) (.str y) (.str (x ++ y)) := fun A Mu s E v w R _ hv hw => by
  obtain ⟨t, rfl⟩ := hv.str_inv; obtain ⟨u, rfl⟩ := hw.str_inv
  exact wpAny_le (SB.add (hsz := h) fun t' k le => ⟨Grows.toks _ _ le, Rep.str _ _⟩)
theorem Cop.lt (i j : Int) : Cop b .Lt (.int i) (.int j) (decide (i < j)) := fun A Mu s E v w R _ hv hw => by
  obtain ⟨t, rfl⟩ := hv.int_inv; obtain ⟨u, rfl⟩ := hw.int_inv
  exact lt_int ⟨Grows.refl _, rfl⟩
theorem Cop.gt (i j : Int) : Cop b .Gt (.int i) (.int j) (decide (j < i)) := fun A Mu s E v w R _ hv hw => by
  obtain ⟨t, rfl⟩ := hv.int_inv; obtain ⟨u, rfl⟩ := hw.int_inv
  exact gt_int ⟨Grows.refl _, rfl⟩
theorem Cop.le (i j : Int) : Cop b .LtE (.int i) (.int j) (decide (i ≤ j)) := fun A Mu s E v w R _ hv hw => by
  obtain ⟨t, rfl⟩ := hv.int_inv; obtain ⟨u, rfl⟩ := hw.int_inv
  exact le_int ⟨Grows.refl _, rfl⟩
theorem Cop.ge (i j : Int) : Cop b .GtE (.int i) (.int j) (decide (j ≤ i)) := fun A Mu s E v w R _ hv hw => by
  obtain ⟨t, rfl⟩ := hv.int_inv; obtain ⟨u, rfl⟩ := hw.int_inv
  exact ge_int ⟨Grows.refl _, rfl⟩
theorem Cop.eq (i j : Int) : Cop b .Eq (.int i) (.int j) (i == j) := fun A Mu s E v w R _ hv hw => by
  obtain ⟨t, rfl⟩ := hv.int_inv; obtain ⟨u, rfl⟩ := hw.int_inv
  exact eq_int ⟨Grows.refl _, rfl⟩
theorem Cop.ne (i j : Int) : Cop b .NotEq (.int i) (.int j) (i != j) := fun A Mu s E v w R _ hv hw => by
  obtain ⟨t, rfl⟩ := hv.int_inv; obtain ⟨u, rfl⟩ := hw.int_inv
  exact ne_int ⟨Grows.refl _, rfl⟩
theorem Cop.eqs (i j : PySem.Str) : Cop b .Eq (.str i) (.str j) (i == j) := fun A Mu s E v w R _ hv hw => by
  obtain ⟨t, rfl⟩ := hv.str_inv; obtain ⟨u, rfl⟩ := hw.str_inv
  exact eq_str ⟨Grows.refl _, rfl⟩
theorem Cop.nes (i j : PySem.Str) : Cop b .NotEq (.str i) (.str j) (i != j) := fun A Mu s E v w R _ hv hw => by
  obtain ⟨t, rfl⟩ := hv.str_inv; obtain ⟨u, rfl⟩ := hw.str_inv
  exact ne_str ⟨Grows.refl _, rfl⟩
theorem Cop.eqd (x y : PyData) (hx : SeqAt.shaped x = true) (hy : SeqAt.shaped y = true) : Cop b .Eq x y (PyData.eqv x y) := fun A Mu s E v w R _ hv hw => by
  obtain ⟨as, ra⟩ := hv.reads; obtain ⟨bs, rb⟩ := hw.reads
  exact SeqAt.compareEq_shaped ra rb hx hy (by have := R.units; omega) ⟨Grows.refl _, rfl⟩
theorem Cop.ned (x y : PyData) (hx : SeqAt.shaped x = true) (hy : SeqAt.shaped y = true) : Cop b .NotEq x y (!PyData.eqv x y) := fun A Mu s E v w R _ hv hw => by
  obtain ⟨as, ra⟩ := hv.reads; obtain ⟨bs, rb⟩ := hw.reads
  exact SeqAt.compareNe_shaped ra rb hx hy (by have := R.units; omega) ⟨Grows.refl _, rfl⟩
theorem Cop.isNot (x : PyData) (r : Bool) (h : r = (match x with | .none => false | _ => true)) : Cop b .IsNot x .none r := fun A Mu s E v w R _ hv hw => by
  obtain rfl := hw.none_inv
  refine isNot_none ⟨Grows.refl _, ?_⟩
  subst h
  obtain ⟨as, q⟩ := hv
  cases q <;> rfl
end
end Mine
end
section
open PySem PySem.W PyProof.Rows
set_option autoImplicit false
set_option linter.unusedVariables false
namespace Mine

theorem ns_unique {h : Heap} {a : Addr} {m m' : PySem.Str → Option Value} (x : h.Ns a m) (y : h.Ns a m') : m = m' := by
  obtain ⟨o, es, ep, e, d, _, q⟩ := x
  obtain ⟨o', es', ep', e', d', _, q'⟩ := y
  rw [e] at e'; cases e'
  rw [d] at d'; cases d'
  funext n; rw [← q n, q' n]

/-- what may still turn: a list of data, a dict of texts by texts, or an object as it lies -/
inductive MV where
  | lst (xs : List PyData)
  | dct (es : List (PySem.Str × PyData))
  | obj (o : Obj)


noncomputable def MVat (b : Base) (Mu : List Addr) (h : Heap) (a : Addr) : MV → Prop
  | .lst xs => ∃ vs n, h.get? a = some (plainList vs n) ∧ RepAll Mu h vs.toList xs
  | .dct es => DctAt b Mu h a es
  | .obj o => h.get? a = some o

noncomputable abbrev Mus := List (Addr × MV)

structure Held (b : Base) (c : Cx) (s₀ : Shared) (M0 : List Addr) (G : List (Addr × Obj)) (ρ : Rho) (mus : Mus) (s : Shared) : Prop where
  same : ∃ h tk, s = { s₀ with heap := h, toks := tk } ∧ s₀.toks ≤ tk
  pos : 0 < s₀.toks
  keep : KeepsH s₀.heap s.heap
  base : KeepsH b.h₀ s₀.heap
  m0 : Lt M0 s₀.heap ∧ ∀ a ∈ M0, b.h₀.get? a = Option.none
  ns : ∃ m, s.heap.Ns c.env.locals m
  nsHi : s₀.heap.objs.size ≤ c.env.locals
  cells : ∀ x a, c.env.cells.lookup x = some a → s₀.heap.objs.size ≤ a ∧ a ≠ c.env.locals ∧ ∃ v, s.heap.IsCell a v
  apart : (∀ x y a, c.env.cells.lookup x = some a → c.env.cells.lookup y = some a → x = y) ∧ ∀ z ∈ c.env.cells.map (·.2), s₀.heap.objs.size ≤ z
  vars : ∀ x l, ρ x = some l → ∃ v, NameAt c.env s.heap x v ∧ RepL b (c.env.locals :: c.env.cells.map (·.2) ++ mus.map (·.1) ++ M0) s.heap v l
  lt : Lt (c.env.locals :: c.env.cells.map (·.2) ++ mus.map (·.1) ++ M0) s.heap
  muts : ∀ p ∈ mus, s₀.heap.objs.size ≤ p.1 ∧ p.1 ≠ c.env.locals ∧ p.1 ∉ c.env.cells.map (·.2) ∧ MVat b (c.env.locals :: c.env.cells.map (·.2) ++ mus.map (·.1) ++ M0) s.heap p.1 p.2
  musApart : (mus.map (·.1)).Nodup
  guard : ∀ p ∈ G, p.1 ∉ c.env.locals :: c.env.cells.map (·.2) ++ mus.map (·.1) ++ M0 ∧ s.heap.get? p.1 = some p.2

noncomputable abbrev MuOf (c : Cx) (mus : Mus) (M0 : List Addr) : List Addr := c.env.locals :: c.env.cells.map (·.2) ++ mus.map (·.1) ++ M0

section
variable {b : Base} {c : Cx} {s₀ : Shared} {M0 : List Addr} {G : List (Addr × Obj)} {ρ : Rho} {mus : Mus}

theorem Held.cellsHi {s : Shared} (H : Held b c s₀ M0 G ρ mus s) : ∀ z ∈ c.env.cells.map (·.2), s₀.heap.objs.size ≤ z := H.apart.2
theorem Held.hold {s : Shared} (H : Held b c s₀ M0 G ρ mus s) : Hold b c (MuOf c mus M0) ρ s := ⟨H.base.trans H.keep, H.lt, H.vars, by obtain ⟨h, t, rfl, l⟩ := H.same; exact Nat.lt_of_lt_of_le H.pos l, fun a ha => by
    have low : ∀ z, s₀.heap.objs.size ≤ z → b.h₀.get? z = Option.none := fun z hz => by
      cases e : b.h₀.get? z with
      | none => rfl
      | some o => exact absurd (Heap.lt_size (H.base z o e)) (Nat.not_lt.mpr hz)
    simp only [MuOf, List.cons_append, List.append_assoc, List.mem_cons, List.mem_append] at ha
    rcases ha with h | h | h | h
    · exact h ▸ low _ H.nsHi
    · obtain ⟨⟨x, z⟩, hm, rfl⟩ := List.mem_map.mp h
      exact low _ (H.cellsHi z h)
    · obtain ⟨p, hm, rfl⟩ := List.mem_map.mp h
      exact low _ (H.muts p hm).1
    · exact H.m0.2 a h⟩

theorem MVat.mono {Mu Mu' : List Addr} {h h' : Heap} {a : Addr} {m : MV} (k : Stays Mu Mu' h h') (ka : ∀ o, h.get? a = some o → h'.get? a = some o) (x : MVat b Mu h a m) : MVat b Mu' h' a m := by
  cases m with
  | lst xs => obtain ⟨vs, n, e, r⟩ := x; exact ⟨vs, n, ka _ e, r.mono k⟩
  | dct es => exact DctAt.mono k ka x
  | obj o => exact ka _ x

/-- an expression has been reckoned: all stands -/
theorem Held.grows {s s' : Shared} (g : Grows s s') (H : Held b c s₀ M0 G ρ mus s) : Held b c s₀ M0 G ρ mus s' := by
  obtain ⟨h', tk, rfl, k, l⟩ := g
  have k : KeepsH s.heap h' := k
  obtain ⟨h, t, rfl, l'⟩ := H.same
  refine ⟨⟨h', tk, rfl, Nat.le_trans l' l⟩, H.pos, H.keep.trans k, H.base, H.m0, ?_, H.nsHi, fun x a e => ?_, H.apart, fun x l e => ?_, H.lt.keeps k, fun p hp => ?_, H.musApart, fun p hp => let ⟨u, v⟩ := H.guard p hp; ⟨u, k _ _ v⟩⟩
  · obtain ⟨m, hm⟩ := H.ns; exact ⟨m, hm.keeps k⟩
  · obtain ⟨h1, h2, v, h3⟩ := H.cells x a e; exact ⟨h1, h2, v, h3.keeps k⟩
  · obtain ⟨v, n, r⟩ := H.vars x l e; exact ⟨v, n.keeps k, r.keeps k⟩
  · obtain ⟨h1, h2, h3, h4⟩ := H.muts p hp; exact ⟨h1, h2, h3, h4.mono (.of_keeps k) fun o e => k _ _ e⟩

/-- how a body comes out: it goes on from such a frame, or gives such a datum back -/
structure Ex (b : Base) (c : Cx) (s₀ : Shared) (M0 : List Addr) (G : List (Addr × Obj)) (ρ : Rho) (mus : Mus) (es : List Stmt) (K : Rho → Mus → Prop) (R : LV → Prop) : Prop where
  wp : ∀ (s : Shared) (E : Value → Shared → Prop), Held b c s₀ M0 G ρ mus s →
    wpAny (model b.prog b.w) c.A (execs es c.env) (fun f s' => match f with
      | .next => ∃ ρ' mus', K ρ' mus' ∧ Held b c s₀ M0 G ρ' mus' s'
      | .ret v => ∃ l, R l ∧ Grows s₀ s' ∧ RepL b M0 s'.heap v l
      | _ => False) E s

theorem Ex.nil {K : Rho → Mus → Prop} {R : LV → Prop} (h : K ρ mus) : Ex b c s₀ M0 G ρ mus [] K R := .mk fun s E H => wpAny_execs_nil ⟨ρ, mus, h, H⟩

theorem Held.entry {s : Shared} (H : Held b c s₀ M0 G ρ mus s) : Grows s₀ s := by
  obtain ⟨h, t, rfl, l⟩ := H.same; exact ⟨h, t, rfl, H.keep, l⟩

theorem M0_sub : ∀ a ∈ M0, a ∈ MuOf c mus M0 := fun a ha => by simp [MuOf, ha]
theorem Stays.less {Mu Mu' : List Addr} {h : Heap} (k : ∀ a ∈ Mu', a ∈ Mu) : Stays Mu Mu' h h := fun a o n e => ⟨fun hm => n (k a hm), e⟩

/-- one statement -/
structure Sx (b : Base) (c : Cx) (s₀ : Shared) (M0 : List Addr) (G : List (Addr × Obj)) (ρ : Rho) (mus : Mus) (st : Stmt) (K : Rho → Mus → Prop) (R : LV → Prop) : Prop where
  wp : ∀ (s : Shared) (E : Value → Shared → Prop), Held b c s₀ M0 G ρ mus s →
    wpAny (model b.prog b.w) c.A (exec st c.env) (fun f s' => match f with
      | .next => ∃ ρ' mus', K ρ' mus' ∧ Held b c s₀ M0 G ρ' mus' s'
      | .ret v => ∃ l, R l ∧ Grows s₀ s' ∧ RepL b M0 s'.heap v l
      | _ => False) E s

theorem Ex.cons {st : Stmt} {rest : List Stmt} {K1 K : Rho → Mus → Prop} {R : LV → Prop} (h : Sx b c s₀ M0 G ρ mus st K1 R) (hr : ∀ ρ' mus', K1 ρ' mus' → Ex b c s₀ M0 G ρ' mus' rest K R) :
    Ex b c s₀ M0 G ρ mus (st :: rest) K R := .mk fun s E H =>
  wpAny_execs_cons (wpAny_mono (h.wp s E H) (fun f s' g => by
    cases f with
    | next => obtain ⟨ρ', mus', k, H'⟩ := g; exact (hr ρ' mus' k).wp s' E H'
    | ret v => exact g
    | brk => exact g
    | cont => exact g) fun _ _ x => x)

theorem Ex.mono {es : List Stmt} {K K' : Rho → Mus → Prop} {R R' : LV → Prop} (h : Ex b c s₀ M0 G ρ mus es K R) (hk : ∀ ρ' mus', K ρ' mus' → K' ρ' mus') (hr : ∀ d, R d → R' d) :
    Ex b c s₀ M0 G ρ mus es K' R' := .mk fun s E H =>
  wpAny_mono (h.wp s E H) (fun f s' g => by
    cases f with
    | next => obtain ⟨ρ', mus', k, H'⟩ := g; exact ⟨ρ', mus', hk _ _ k, H'⟩
    | ret v => obtain ⟨d, r, g⟩ := g; exact ⟨d, hr _ r, g⟩
    | brk => exact g
    | cont => exact g) fun _ _ x => x

theorem Ex.ret {e : Expr} {pos : Pos} {l : LV} {rest : List Stmt} {K : Rho → Mus → Prop} {R : LV → Prop} (h : Ev b c (MuOf c mus M0) ρ e l) (hr : R l) :
    Ex b c s₀ M0 G ρ mus (.Return (some e) pos :: rest) K R := .mk fun s E H =>
  wpAny_execs_cons (wpAny_Return_some (wpAny_mono (h.wp s E H.hold) (fun v s' g => ⟨l, hr, H.entry.trans g.1, RepL.mono (.less M0_sub) g.2⟩) fun _ _ x => x))

theorem Sx.ite {test : Expr} {body orelse : List Stmt} {pos : Pos} {t : Bool} {K : Rho → Mus → Prop} {R : LV → Prop} (ht : Te b c (MuOf c mus M0) ρ test t)
    (h1 : t = true → Ex b c s₀ M0 G ρ mus body K R) (h2 : t = false → Ex b c s₀ M0 G ρ mus orelse K R) : Sx b c s₀ M0 G ρ mus (.If test body orelse pos) K R := .mk fun s E H =>
  wpAny_If (wpAny_mono (ht.wp s E H.hold) (fun v s₁ g => by
    obtain ⟨g1, rfl⟩ := g
    cases v with
    | true => exact (h1 rfl).wp s₁ E (H.grows g1)
    | false => exact (h2 rfl).wp s₁ E (H.grows g1)) fun _ _ x => x)

/-- a guard that is not taken -/
theorem Ex.skip {test : Expr} {body rest : List Stmt} {pos : Pos} {K : Rho → Mus → Prop} {R : LV → Prop} (ht : Te b c (MuOf c mus M0) ρ test false)
    (hr : Ex b c s₀ M0 G ρ mus rest K R) : Ex b c s₀ M0 G ρ mus (.If test body [] pos :: rest) K R :=
  Ex.cons (K1 := fun ρ' mus' => ρ' = ρ ∧ mus' = mus) (Sx.ite ht (fun e => by cases e) fun _ => Ex.nil ⟨rfl, rfl⟩) fun ρ' mus' ⟨e, e'⟩ => e ▸ e' ▸ hr
theorem Ex.take {test : Expr} {body orelse rest : List Stmt} {pos : Pos} {K : Rho → Mus → Prop} {R : LV → Prop} (ht : Te b c (MuOf c mus M0) ρ test true)
    (hr : Ex b c s₀ M0 G ρ mus body (fun _ _ => False) R) : Ex b c s₀ M0 G ρ mus (.If test body orelse pos :: rest) K R :=
  Ex.cons (K1 := fun _ _ => False) (Sx.ite ht (fun _ => hr) fun e => by cases e) fun _ _ h => h.elim

/-! a name is stored -/
theorem Held.store {s : Shared} {x : PySem.Str} {v : Value} {l : LV} (H : Held b c s₀ M0 G ρ mus s) (a : Addr) (h' : Heap) (tk : Nat) (htk : s.toks ≤ tk) (ha : a ∈ MuOf c mus M0) (hlo : s₀.heap.objs.size ≤ a) (hmu : ∀ p ∈ mus, p.1 ≠ a)
    (hs : ∀ z o, z ≠ a → s.heap.get? z = some o → h'.get? z = some o) (hlive : ∃ o, h'.get? a = some o) (hns : ∃ m, h'.Ns c.env.locals m) (hce : ∀ y e, c.env.cells.lookup y = some e → ∃ u, h'.IsCell e u)
    (hnx : NameAt c.env h' x v) (hny : ∀ y u, y ≠ x → NameAt c.env s.heap y u → NameAt c.env h' y u) (r : RepL b (MuOf c mus M0) h' v l) : Held b c s₀ M0 G (upd ρ x l) mus { s with heap := h', toks := tk } := by
  have st : Stays (MuOf c mus M0) (MuOf c mus M0) s.heap h' := fun z o n e => ⟨n, hs z o (fun q => n (q ▸ ha)) e⟩
  obtain ⟨h0, t, rfl, l⟩ := H.same
  refine ⟨⟨h', tk, rfl, Nat.le_trans l htk⟩, H.pos, fun z o e => hs z o (Nat.ne_of_lt (Nat.lt_of_lt_of_le (Heap.lt_size e) hlo)) (H.keep z o e), H.base, H.m0, hns, H.nsHi, fun y e q => ?_, H.apart, fun y k e => ?_, ?_, fun p hp => ?_, H.musApart, fun p hp => let ⟨u, w⟩ := H.guard p hp; ⟨u, hs _ _ (fun q => u (q ▸ ha)) w⟩⟩
  · obtain ⟨h1, h2, _⟩ := H.cells y e q; exact ⟨h1, h2, hce y e q⟩
  · unfold upd at e
    by_cases hyx : y = x
    · rw [if_pos hyx] at e; cases e; subst hyx
      exact ⟨v, hnx, r⟩
    · rw [if_neg hyx] at e
      obtain ⟨u, nu, ru⟩ := H.vars y k e
      exact ⟨u, hny y u hyx nu, ru.mono st⟩
  · intro z hz
    by_cases hza : z = a
    · subst hza; exact hlive
    · obtain ⟨o, e⟩ := H.lt z hz; exact ⟨o, hs z o hza e⟩
  · obtain ⟨h1, h2, h3, h4⟩ := H.muts p hp
    exact ⟨h1, h2, h3, h4.mono st fun o e => hs _ o (hmu p hp) e⟩

theorem storeK {s : Shared} {x : PySem.Str} {v : Value} {l : LV} {Q : Unit → Shared → Prop} {E : Value → Shared → Prop} {n : Nat} (ok : CxOk b n c) (H : Held b c s₀ M0 G ρ mus s)
    (hx : c.env.kindOf x = some .local ∨ (c.env.kindOf x = some .cell ∧ (c.env.cells.lookup x).isSome = true)) (r : RepL b (MuOf c mus M0) s.heap v l)
    (h : ∀ s', Held b c s₀ M0 G (upd ρ x l) mus s' → Q () s') : wpAny (model b.prog b.w) c.A (storeName c.env x v) Q E s := by
  have hp : (c.env.scope.kind == .class || (c.env.scope.kind == .module && c.env.locals != c.env.globals)) = false := by rw [ok.kind]; rfl
  have inMu : c.env.locals ∈ MuOf c mus M0 := by simp [MuOf]
  rcases hx with hl | ⟨hl, hc⟩
  · obtain ⟨m, hm⟩ := H.ns
    refine wpAny_storeName_local hl hm (fun h' hn hs => h _ (H.store c.env.locals h' _ (Nat.le_succ _) inMu H.nsHi (fun p hp => (H.muts p hp).2.1) (fun z o hz e => hs.extBut z o hz e) (let ⟨o, _, _, e, _⟩ := hn; ⟨o, e⟩) ⟨_, hn⟩ (fun y e q => ?_) (.inl ⟨hl, _, hn, by simp⟩) (fun y u hyx nu => ?_)
      (r.mono fun z o n e => ⟨n, hs.extBut z o (fun q => n (q ▸ inMu)) e⟩))) hp
    · obtain ⟨_, h2, u, h3⟩ := H.cells y e q; exact ⟨u, h3.sameBut hs h2⟩
    · rcases nu with ⟨hk, m', hm', e⟩ | ⟨hk, e, he, hv⟩
      · refine .inl ⟨hk, _, hn, ?_⟩
        rw [if_neg hyx, ns_unique hm hm']; exact e
      · exact .inr ⟨hk, e, he, hv.sameBut hs (H.cells y e he).2.1⟩
  · obtain ⟨a, ha⟩ := Option.isSome_iff_exists.mp hc
    obtain ⟨h1, h2, u, h3⟩ := H.cells x a ha
    have ain : a ∈ c.env.cells.map (·.2) := List.mem_map.mpr ⟨(x, a), mem_of_lookup ha, rfl⟩
    have aMu : a ∈ MuOf c mus M0 := by simp only [MuOf, List.cons_append, List.mem_cons, List.mem_append]; exact .inr (.inl (.inl ain))
    refine wpAny_storeName_cell ok.kind hl ha h3 fun h' hc' hs => h _ (H.store a h' _ (Nat.le_refl _) aMu h1 (fun p hp q => (H.muts p hp).2.2.1 (q ▸ ain)) (fun z o hz e => hs.extBut z o hz e) (let ⟨o, e, _⟩ := hc'; ⟨o, e⟩) ?_ (fun y e q => ?_) (.inr ⟨hl, a, ha, hc'⟩) (fun y w hyx nu => ?_)
      (r.mono fun z o n e => ⟨n, hs.extBut z o (fun q => n (q ▸ aMu)) e⟩))
    · obtain ⟨m, hm⟩ := H.ns; exact ⟨m, hm.sameBut hs (Ne.symm h2)⟩
    · by_cases he : e = a
      · exact ⟨_, he ▸ hc'⟩
      · obtain ⟨_, _, w, h4⟩ := H.cells y e q; exact ⟨w, h4.sameBut hs he⟩
    · rcases nu with ⟨hk, m', hm', e⟩ | ⟨hk, e, he, hv⟩
      · exact .inl ⟨hk, m', hm'.sameBut hs (Ne.symm h2), e⟩
      · exact .inr ⟨hk, e, he, hv.sameBut hs fun q => hyx (H.apart.1 y x a (q ▸ he) ha)⟩

theorem Ex.assign {n : Nat} (ok : CxOk b n c) {x : PySem.Str} {e : Expr} {px pos : Pos} {l : LV} {rest : List Stmt} {K : Rho → Mus → Prop} {R : LV → Prop} (h : Ev b c (MuOf c mus M0) ρ e l)
    (hx : c.env.kindOf x = some .local ∨ (c.env.kindOf x = some .cell ∧ (c.env.cells.lookup x).isSome = true)) (hsw : swapsWith e (some (.Name x px)) pos.line c.env = pure false)
    (hr : Ex b c s₀ M0 G (upd ρ x l) mus rest K R) : Ex b c s₀ M0 G ρ mus (.Assign [.Name x px] e pos :: rest) K R := .mk fun s E H =>
  wpAny_execs_cons (wpAny_Assign_Name (wpAny_mono (h.wp s E H.hold) (fun v s₁ g => storeK ok (H.grows g.1) hx g.2 fun s' H' => hr.wp s' E H') fun _ _ x => x) hsw)
end
end Mine
end
section
open PySem PySem.W PyProof.Rows
set_option autoImplicit false
set_option linter.unusedVariables false
namespace Mine

/-! a subscript -/
theorem sub_gen {prog : Program} {w : World} {A : Around} {E : Value → Shared → Prop} {s : Shared} {env : Env} {value slice : Expr} {pos : Pos} {Q : Value → Shared → Prop}
    (hs : ∀ o i, ∃ vs, subscripted slice false o i = operate vs (getItem o i))
    (h : wpAny (model prog w) A (eval value env) (fun o s₁ => wpAny (model prog w) A (eval slice env) (fun i s₂ => ItemOn (model prog w) A E o i Q s₂) E s₁) E s) :
    wpAny (model prog w) A (eval (.Subscript value slice pos) env) Q E s := by
  rw [eval_Subscript]
  refine wpAny_bind (wpAny_mono h (fun o s₁ h₁ => wpAny_bind (wpAny_holding (wpAny_mono h₁ (fun i s₂ h₂ => wpAny_bind (wpAny_standAt ?_)) fun _ _ x => x)))
    fun _ _ x => x)
  obtain ⟨T, id, hl, hT, hg⟩ := h₂
  obtain ⟨vs, hv⟩ := hs o i
  refine wpAny_bind ?_
  rw [getitemInPython_of_ne hT.not_modules]
  refine wpAny_bind (wpAny_specialOf hT hl (wpAny_pure (wpAny_bind ?_)))
  rw [hv]
  exact wpAny_operating (wpAny_mono hg (fun r s₃ h₃ => wpAny_bind (wpAny_letTemporaryGo (wpAny_pure h₃))) fun _ _ x => x)

noncomputable def Gop (b : Base) (x i r : PyData) : Prop :=
  ∀ (A : Around) (Mu : List Addr) (s : Shared) (E : Value → Shared → Prop) (v w : Value), Room 0 A → Lt Mu s.heap → Rep Mu s.heap v x → Rep Mu s.heap w i →
    ItemOn (model b.prog b.w) A E v w (fun z s' => Grows s s' ∧ Rep Mu s'.heap z r) s

section
variable {b : Base} {c : Cx} {Mu : List Addr} {ρ : Rho}

theorem Ev.sub {n : Nat} (ok : CxOk b n c) {value slice : Expr} {pos : Pos} {x i r : PyData} (hv : Ev b c Mu ρ value (.d x)) (hi : Ev b c Mu ρ slice (.d i)) (g : Gop b x i r) 
    (hs : ∀ o i, ∃ vs, subscripted slice false o i = operate vs (getItem o i)) : Ev b c Mu ρ (.Subscript value slice pos) (.d r) := .mk fun s E H =>
  sub_gen hs (wpAny_mono (hv.wp s E H) (fun v s₁ g₁ => wpAny_mono (hi.wp s₁ E (H.grows g₁.1)) (fun w s₂ g₂ => by
    obtain ⟨T, id, a1, a2, a3⟩ := g c.A Mu s₂ E v w (ok.room.le (Nat.zero_le _)) (H.grows (g₁.1.trans g₂.1)).lt (RepL.keeps (b := b) (l := .d x) g₂.1.keeps g₁.2) g₂.2
    exact ⟨T, id, a1, a2, wpAny_mono a3 (fun z s₃ g₃ => ⟨(g₁.1.trans g₂.1).trans g₃.1, g₃.2⟩) fun _ _ x => x⟩) fun _ _ x => x) fun _ _ x => x)

theorem Gop.list (xs : List PyData) (k : Nat) (d : PyData) (hx : xs[k]? = some d) (hk : k < 2 ^ 62) : Gop b (.list xs) (.int k) d := fun A Mu s E v w R L hv hw => by
  obtain ⟨a, o, vs, n, rfl, hm, ho, hc, hd, r⟩ := hv.list_inv
  obtain ⟨t, rfl⟩ := hw.int_inv
  obtain ⟨u, hu, ru⟩ := r.get hx
  have hl : s.heap.IsList a vs := ⟨o, ho, hc, n, hd⟩
  refine ⟨"list", _, list_getitem_lookup, hl.typeIs, wpAny_getItem_list hl (Int.natCast_nonneg _) (by omega) (x := u) ?_ ⟨Grows.refl _, ru⟩⟩
  simpa using hu
theorem Gop.listNeg (xs : List PyData) (k : Nat) (d : PyData) (hk0 : 0 < k) (hk : k ≤ xs.length) (hx : xs[xs.length - k]? = some d) (hk2 : k < 2 ^ 62) : Gop b (.list xs) (.int (-(k : Int))) d := fun A Mu s E v w R L hv hw => by
  obtain ⟨a, o, vs, n, rfl, hm, ho, hc, hd, r⟩ := hv.list_inv
  obtain ⟨t, rfl⟩ := hw.int_inv
  obtain ⟨u, hu, ru⟩ := r.get hx
  have hlen := r.length
  have hsz : vs.size = xs.length := by rw [← hlen]; simp
  have hl : s.heap.IsList a vs := ⟨o, ho, hc, n, hd⟩
  refine ⟨"list", _, list_getitem_lookup, hl.typeIs, wpAny_getItem_list_neg hl (by omega) (by omega) (by omega) (x := u) ?_ ⟨Grows.refl _, ru⟩⟩
  have e : (-(k : Int) + (vs.size : Int)).toNat = xs.length - k := by omega
  rw [e]; simpa using hu
theorem Gop.str (x : PySem.Str) (k : Int) (hr : fitsSsize k = true) (hin : (Txt.charAt x k).isSome = true) : Gop b (.str x) (.int k) (.str (Txt.item x k)) := fun A Mu s E v w R L hv hw => by
  obtain ⟨t, rfl⟩ := hv.str_inv
  obtain ⟨u, rfl⟩ := hw.int_inv
  exact SB.item hr hin ⟨Grows.toks _ _, Rep.str _ _⟩

/-- a slice's part -/
noncomputable def EvP (b : Base) (c : Cx) (Mu : List Addr) (ρ : Rho) : Option Expr → Option Int → Prop
  | none, none => True
  | some e, some i => Ev b c Mu ρ e (.d (.int i))
  | _, _ => False
theorem EvP.wp {e : Option Expr} {i : Option Int} (h : EvP b c Mu ρ e i) (s : Shared) (E : Value → Shared → Prop) (H : Hold b c Mu ρ s) :
    wpAny (model b.prog b.w) c.A (evalPart e c.env) (fun v s' => Grows s s' ∧ ∃ l : Option (Int × Tok), v = partValue l ∧ l.map (·.1) = i) E s := by
  cases e with
  | none => cases i with
    | none => exact wpAny_evalPart_none ⟨Grows.refl _, Option.none, rfl, rfl⟩
    | some _ => exact h.elim
  | some e => cases i with
    | none => exact h.elim
    | some i => exact wpAny_evalPart_some (wpAny_mono ((show Ev b c Mu ρ e (.d (.int i)) from h).wp s E H) (fun v s' g => by
        obtain ⟨t, rfl⟩ := Rep.int_inv g.2
        exact ⟨g.1, some (i, t), rfl, rfl⟩) fun _ _ x => x)

theorem Ev.sliceStr {value : Expr} {lower upper : Option Expr} {p pos : Pos} {x : PySem.Str} {lo hi : Option Int} (hv : Ev b c Mu ρ value (.d (.str x))) (hl : EvP b c Mu ρ lower lo) (hu : EvP b c Mu ρ upper hi)
    (hx : x.length ≤ sizeLine) : Ev b c Mu ρ (.Subscript value (.Slice lower upper none p) pos) (.d (.str (Txt.slice x lo hi))) := .mk fun s E H =>
  sub_gen (fun o i => ⟨_, rfl⟩) (wpAny_mono (hv.wp s E H) (fun v s₁ g₁ => wpAny_Slice (wpAny_mono (hl.wp s₁ E (H.grows g₁.1)) (fun vl s₂ g₂ => wpAny_mono (hu.wp s₂ E (H.grows (g₁.1.trans g₂.1))) (fun vu s₃ g₃ => by
    obtain ⟨t, rfl⟩ := Rep.str_inv g₁.2
    obtain ⟨l, rfl, el⟩ := g₂.2
    obtain ⟨u, rfl, eu⟩ := g₃.2
    rw [evalPart_none]
    refine wpAny_pure ⟨"str", _, PySem.F.slot_str_getitem.lookup, typeIs_str _ _ _, wpAny_le (wpAny_getItem_str_slice (l := l) (u := u) (st := none) ⟨_, Heap.get?_push_size _ rfl, rfl, rfl⟩ rfl ?_)⟩
    have G : Grows s { s₃ with heap := s₃.heap.push { cls := .type "slice", data := .fields #[partValue l, partValue u, .none] } } := ((g₁.1.trans g₂.1).trans g₃.1).trans (Grows.push _ _)
    have e : Txt.slice x lo hi = if ((1 : Int) == 1 && (slicePicked x l u none).length == x.length) = true then x else ⟨((slicePicked x l u none).filterMap (x.cps[·]?)).toArray⟩ := by
      subst el eu; rfl
    unfold sliceMade
    refine post_val_or_str ⟨?_, fun t' k le => ⟨G.trans (Grows.toks _ _ le), ?_⟩⟩
    · show _ ≤ sizeLine
      rw [show (((Option.map (fun x : Int × Tok => x.1) none).getD 1 == 1 && (slicePicked x l u none).length == x.length)) = ((1 : Int) == 1 && (slicePicked x l u none).length == x.length) from rfl, ← e]
      exact Nat.le_trans (Txt.slice_le x _ _) hx
    · rw [show (((Option.map (fun x : Int × Tok => x.1) none).getD 1 == 1 && (slicePicked x l u none).length == x.length)) = ((1 : Int) == 1 && (slicePicked x l u none).length == x.length) from rfl, ← e]
      exact Rep.str _ _) fun _ _ x => x) fun _ _ x => x)) fun _ _ x => x)

theorem Ev.sliceP {value upper : Expr} {p pos : Pos} {xs : List PyData} {k : Nat} (hv : Ev b c Mu ρ value (.d (.list xs))) (hu : Ev b c Mu ρ upper (.d (.int k))) (hk : k ≤ xs.length)
    (hx : xs.length ≤ sizeLine) : Ev b c Mu ρ (.Subscript value (.Slice none (some upper) none p) pos) (.pl (xs.take k)) := .mk fun s E H =>
  sub_gen (fun o i => ⟨_, rfl⟩) (wpAny_mono (hv.wp s E H) (fun v s₁ g₁ => wpAny_Slice (wpAny_evalPart_none (wpAny_evalPart_some (wpAny_mono (hu.wp s₁ E (H.grows g₁.1)) (fun vu s₃ g₃ => by
    have r₁ : Rep Mu s₃.heap v (.list xs) := RepL.keeps (b := b) (l := .d (.list xs)) g₃.1.keeps g₁.2
    obtain ⟨a, o, vs, n, rfl, hm, ho, hc, hd, r⟩ := Rep.list_inv r₁
    obtain ⟨t, rfl⟩ := Rep.int_inv g₃.2
    have hlen := r.length
    have hsz : vs.size = xs.length := by rw [← hlen]; simp
    have hl : s₃.heap.IsList a vs := ⟨o, ho, hc, n, hd⟩
    have H₃ := H.grows (g₁.1.trans g₃.1)
    rw [evalPart_none]
    refine wpAny_pure ⟨"list", _, list_getitem_lookup, (hl.push _).typeIs, wpAny_getItem_list_slice (hl.push _) (Heap.IsSliceOf.new ..) .none (.int _ _) .none (by simp) ?_ (by rw [hsz]; exact hx)⟩
    rw [slicePick_upto vs k (by rw [hsz]; exact hk)]
    have G : Grows s₃ { s₃ with heap := (s₃.heap.push { cls := .type "slice", data := .fields #[.none, .int k t, .none] }).push { cls := .type "list", data := .seq (vs.toList.take k).toArray } } :=
      ⟨_, s₃.toks, rfl, fun _ _ e => Heap.get?_push_of_some _ (Heap.get?_push_of_some _ e), Nat.le_refl _⟩
    refine ⟨(g₁.1.trans g₃.1).trans G, ?_⟩
    have e1 := Heap.get?_push_size (s₃.heap.push { cls := .type "slice", data := .fields #[.none, .int k t, .none] }) (o := { cls := .type "list", data := .seq (vs.toList.take k).toArray }) rfl
    refine ⟨_, (vs.toList.take k).toArray, _, rfl, fun hm => ?_, e1, (by rw [show (vs.toList.take k).toArray.toList = vs.toList.take k by simp]; exact (r.take k).keeps G.keeps)⟩
    obtain ⟨o', e'⟩ := H₃.lt _ hm
    have := Heap.lt_size e'
    rw [Heap.size_push] at this
    exact absurd this (Nat.not_lt.mpr (Nat.le_succ _))) fun _ _ x => x)))) fun _ _ x => x)

/-! calls -/
theorem evalArgs_wp {f : Value} {es : List Expr} {ds : List PyData} (h : Evs b c Mu ρ es ds) (pos : Pos) (s : Shared) (E : Value → Shared → Prop) (H : Hold b c Mu ρ s) :
    wpAny (model b.prog b.w) c.A (evalArgs f true (backTo pos (starEach es c.env)) []) (fun a s' => Grows s s' ∧ a.kw = [] ∧ RepAll Mu s'.heap a.pos ds) E s := by
  have hw := h.wp pos s E H
  cases h with
  | nil => exact PySem.evalArgs_none ⟨Grows.refl _, rfl, RepAll.nil⟩
  | @cons e es d ds h1 he h2 =>
    rw [star_cons _ _ _ he] at hw ⊢
    exact Calls.evalArgs_plain (wpAny_mono hw (fun vs s' g => ⟨g.1, rfl, g.2⟩) fun _ _ x => x)
theorem star_plain {es : List Expr} {ds : List PyData} (h : Evs b c Mu ρ es ds) (pos : Pos) : (backTo pos (starEach es c.env)).any (·.1) = false := by
  induction h with
  | nil => rfl
  | cons h1 he h2 ih => rw [star_cons _ _ _ he]; exact ih

/-- what a call of a built-in gives -/
noncomputable def Cal (b : Base) (f : Value) (ds : List PyData) (r : LV) : Prop :=
  ∀ (A : Around) (Mu : List Addr) (s : Shared) (E : Value → Shared → Prop) (vs : List Value), Room 0 A → Lt Mu s.heap → RepAll Mu s.heap vs ds →
    wpAny (model b.prog b.w) A (call f vs []) (fun z s' => Grows s s' ∧ RepL b Mu s'.heap z r) E s

theorem Ev.callB {n : Nat} (ok : CxOk b n c) {x : PySem.Str} {np pos : Pos} {id : String} {es : List Expr} {ds : List PyData} {r : LV} (hf : Ev b c Mu ρ (.Name x np) (.r (.builtin id))) (ha : Evs b c Mu ρ es ds)
    (hc : Cal b (.builtin id) ds r) : Ev b c Mu ρ (.Call (.Name x np) es [] pos) r := .mk fun s E H =>
  wpAny_Call_NameR (wpAny_mono (hf.wp s E H) (fun f s₁ g₁ => by
    have e : f = .builtin id := g₁.2
    subst e
    exact Calls.callWith_builtin (star_plain ha pos) (wpAny_mono (evalArgs_wp ha pos s₁ E (H.grows g₁.1)) (fun a s₂ g₂ => by
      obtain ⟨g2, hk, ra⟩ := g₂
      rw [hk]
      exact wpAny_mono (hc c.A Mu s₂ E _ (ok.room.le (Nat.zero_le _)) (H.grows (g₁.1.trans g2)).lt ra) (fun z s₃ g₃ => ⟨(g₁.1.trans g2).trans g₃.1, g₃.2⟩) fun _ _ x => x) fun _ _ x => x)) fun _ _ x => x)
theorem Ev.callT {n : Nat} (ok : CxOk b n c) {x : PySem.Str} {np pos : Pos} {T : String} {es : List Expr} {ds : List PyData} {r : LV} (hf : Ev b c Mu ρ (.Name x np) (.r (.type T))) (ha : Evs b c Mu ρ es ds)
    (hc : Cal b (.type T) ds r) : Ev b c Mu ρ (.Call (.Name x np) es [] pos) r := .mk fun s E H =>
  wpAny_Call_NameR (wpAny_mono (hf.wp s E H) (fun f s₁ g₁ => by
    have e : f = .type T := g₁.2
    subst e
    exact PySem.callWith_type (star_plain ha pos) (wpAny_mono (evalArgs_wp ha pos s₁ E (H.grows g₁.1)) (fun a s₂ g₂ => by
      obtain ⟨g2, hk, ra⟩ := g₂
      rw [hk]
      exact wpAny_mono (hc c.A Mu s₂ E _ (ok.room.le (Nat.zero_le _)) (H.grows (g₁.1.trans g2)).lt ra) (fun z s₃ g₃ => ⟨(g₁.1.trans g2).trans g₃.1, g₃.2⟩) fun _ _ x => x) fun _ _ x => x)) fun _ _ x => x)

/-- a function of the text: with such data it gives that, `n` calls deep at most -/
noncomputable def Fun (b : Base) (f : Value) (ds : List PyData) (n : Nat) (r : LV) : Prop :=
  ∃ a o fd, f = .ref a ∧ b.h₀.get? a = some o ∧ o.data = .func fd ∧
  ∀ (A : Around) (Mu : List Addr) (s : Shared) (E : Value → Shared → Prop) (vs : List Value), Room (n + 1) A → 0 < s.toks → (∀ a ∈ Mu, b.h₀.get? a = Option.none) → KeepsH b.h₀ s.heap → Lt Mu s.heap → RepAll Mu s.heap vs ds →
    wpAny (model b.prog b.w) A (call f vs []) (fun z s' => Grows s s' ∧ RepL b Mu s'.heap z r) E s

theorem Ev.callF {n k : Nat} (ok : CxOk b n c) {x : PySem.Str} {np pos : Pos} {f : Value} {es : List Expr} {ds : List PyData} {r : LV} (hf : Ev b c Mu ρ (.Name x np) (.r f)) (ha : Evs b c Mu ρ es ds)
    (hc : Fun b f ds k r) (hn : k + 1 ≤ n) : Ev b c Mu ρ (.Call (.Name x np) es [] pos) r := .mk fun s E H =>
  wpAny_Call_NameR (wpAny_mono (hf.wp s E H) (fun g s₁ g₁ => by
    obtain ⟨a, o, fd, rfl, ho, hd, hw⟩ := hc
    have e : g = .ref a := g₁.2
    subst e
    refine Calls.callWith_function (o := o) (fd := fd) (wpAny_mono (evalArgs_wp ha pos s₁ E (H.grows g₁.1)) (fun a s₂ g₂ => ?_) fun _ _ x => x)
    obtain ⟨g2, hk, ra⟩ := g₂
    have H₂ := H.grows (g₁.1.trans g2)
    refine ⟨⟨H₂.base _ _ ho, hd⟩, ?_⟩
    rw [hk]
    exact wpAny_mono (hw c.A Mu s₂ E _ (ok.room.le hn) H₂.pos H₂.hi H₂.base H₂.lt ra) (fun z s₃ g₃ => ⟨(g₁.1.trans g2).trans g₃.1, g₃.2⟩) fun _ _ x => x) fun _ _ x => x)

/-- a method of a text -/
theorem Ev.methS {n : Nat} (ok : CxOk b n c) {o : Expr} {name : PySem.Str} {apos pos : Pos} {es : List Expr} {id : String} {x : PySem.Str} {ds : List PyData} {r : LV}
    (hbase : attributeBase o name c.env (eval o c.env) = eval o c.env) (hfew : methodCallForm (es.length + ([] : List Keyword).length) (backTo pos (starEach es c.env)) (backToKw pos (keywordEach [] c.env)) = true)
    (hline : (apos.endLine == pos.line) = true) (slot : Slot "str" name id) (ty : typeOf (.builtin id) = pure (.type "method_descriptor"))
    (hv : Ev b c Mu ρ o (.d (.str x))) (ha : Evs b c Mu ρ es ds) (hc : Cal b (.builtin id) (.str x :: ds) r) : Ev b c Mu ρ (.Call (.Attribute o name apos) es [] pos) r := .mk fun s E H =>
  wpAny_Call_method hbase hfew hline PySem.F.plainAttrs_str slot ty (wpAny_mono (hv.wp s E H) (fun v s₁ g₁ => by
    obtain ⟨t, rfl⟩ := Rep.str_inv g₁.2
    refine ⟨typeIs_str _ _ _, (fun _ e => nomatch e), Calls.callWith_builtin (star_plain ha pos) (wpAny_mono (evalArgs_wp ha pos s₁ E (H.grows g₁.1)) (fun a s₂ g₂ => ?_) fun _ _ x => x)⟩
    obtain ⟨g2, hk, ra⟩ := g₂
    rw [hk]
    exact wpAny_mono (hc c.A Mu s₂ E _ (ok.room.le (Nat.zero_le _)) (H.grows (g₁.1.trans g2)).lt (.cons (Rep.str _ _) ra)) (fun z s₃ g₃ => ⟨(g₁.1.trans g2).trans g₃.1, g₃.2⟩) fun _ _ x => x) fun _ _ x => x)
end
end Mine
end
section
open PySem PySem.W PyProof.Rows
set_option autoImplicit false
set_option linter.unusedVariables false
namespace Mine

theorem RepAll.one_inv {Mu : List Addr} {h : Heap} {vs : List Value} {d : PyData} (r : RepAll Mu h vs [d]) : ∃ v, vs = [v] ∧ Rep Mu h v d := by
  obtain ⟨v, r', rfl, p, q⟩ := r.cons_inv; rw [q.nil_inv]; exact ⟨v, rfl, p⟩
theorem RepAll.two_inv {Mu : List Addr} {h : Heap} {vs : List Value} {d e : PyData} (r : RepAll Mu h vs [d, e]) : ∃ v w, vs = [v, w] ∧ Rep Mu h v d ∧ Rep Mu h w e := by
  obtain ⟨v, r', rfl, p, q⟩ := r.cons_inv; obtain ⟨w, e, q2⟩ := q.one_inv; subst e; exact ⟨v, w, rfl, p, q2⟩
theorem RepAll.three_inv {Mu : List Addr} {h : Heap} {vs : List Value} {d e f : PyData} (r : RepAll Mu h vs [d, e, f]) : ∃ v w x, vs = [v, w, x] ∧ Rep Mu h v d ∧ Rep Mu h w e ∧ Rep Mu h x f := by
  obtain ⟨v, r', rfl, p, q⟩ := r.cons_inv; obtain ⟨w, x, e, q2, q3⟩ := q.two_inv; subst e; exact ⟨v, w, x, rfl, p, q2, q3⟩

theorem Rep.isList {Mu : List Addr} {h : Heap} {v : Value} {ds : List PyData} (r : Rep Mu h v (.list ds)) : ∃ a vs, v = .ref a ∧ a ∉ Mu ∧ h.IsList a vs ∧ RepAll Mu h vs.toList ds ∧ vs.size = ds.length := by
  obtain ⟨a, o, vs, n, rfl, hm, ho, hc, hd, r⟩ := r.list_inv
  exact ⟨a, vs, rfl, hm, ⟨o, ho, hc, n, hd⟩, r, by rw [← r.length]; simp⟩
theorem RepAll.strs {Mu : List Addr} {h : Heap} (l : List (PySem.Str × Tok)) : RepAll Mu h (strValues l) ((l.map (·.1)).map .str) := by
  induction l with
  | nil => exact RepAll.nil
  | cons x r ih => exact RepAll.cons (Rep.str _ _) ih
theorem RepAll.strs_inv {Mu : List Addr} {h : Heap} : ∀ {xs : List PySem.Str} {vs : List Value}, RepAll Mu h vs (xs.map .str) → ∃ l : List (PySem.Str × Tok), vs = strValues l ∧ l.map (·.1) = xs
  | [], _, r => ⟨[], r.nil_inv, rfl⟩
  | x :: xs, _, r => by
    obtain ⟨v, r', rfl, p, q⟩ := r.cons_inv
    obtain ⟨t, rfl⟩ := p.str_inv
    obtain ⟨l, rfl, e⟩ := RepAll.strs_inv q
    exact ⟨(x, t) :: l, rfl, by rw [← e]; rfl⟩
theorem RepAll.ints_inv {Mu : List Addr} {h : Heap} : ∀ {xs : List Int} {vs : List Value}, RepAll Mu h vs (xs.map .int) → ∃ l : List (Int × Tok), vs = (l.map fun p => .int p.1 p.2) ∧ l.map (·.1) = xs
  | [], _, r => ⟨[], r.nil_inv, rfl⟩
  | x :: xs, _, r => by
    obtain ⟨v, r', rfl, p, q⟩ := r.cons_inv
    obtain ⟨t, rfl⟩ := p.int_inv
    obtain ⟨l, rfl, e⟩ := RepAll.ints_inv q
    exact ⟨(x, t) :: l, rfl, by rw [← e]; rfl⟩
theorem RepAll.ints {Mu : List Addr} {h : Heap} (l : List (Int × Tok)) : RepAll Mu h (l.map fun p => .int p.1 p.2) ((l.map (·.1)).map .int) := by
  induction l with
  | nil => exact RepAll.nil
  | cons x r ih => exact RepAll.cons (Rep.int _ _) ih
theorem intsAre_of {Mu : List Addr} {h : Heap} : ∀ {xs : List Int} {vs : List Value}, RepAll Mu h vs (xs.map .int) → IntsAre vs xs
  | [], _, r => by rw [r.nil_inv]; exact .nil
  | x :: xs, _, r => by
    obtain ⟨v, r', rfl, p, q⟩ := r.cons_inv
    obtain ⟨t, rfl⟩ := p.int_inv
    exact .cons _ _ (intsAre_of q)
theorem repAll_of {Mu : List Addr} {h : Heap} : ∀ {xs : List Int} {vs : List Value}, IntsAre vs xs → RepAll Mu h vs (xs.map .int)
  | _, _, .nil => RepAll.nil
  | _, _, .cons n t r => RepAll.cons (Rep.int n t) (repAll_of r)

theorem get?_size (h : Heap) : h.get? h.objs.size = Option.none := by
  cases e : h.get? h.objs.size with
  | none => rfl
  | some o => exact absurd (Heap.lt_size e) (Nat.lt_irrefl _)
theorem fresh_notin {Mu : List Addr} {h : Heap} {a : Addr} (L : Lt Mu h) (ha : h.get? a = Option.none) : a ∉ Mu := fun hm => by obtain ⟨o, e⟩ := L a hm; rw [ha] at e; cases e

section
variable {b : Base}
theorem Cal.weak {f : Value} {ds : List PyData} {xs : List PyData} (h : Cal b f ds (.pl xs)) : Cal b f ds (.d (.list xs)) := fun A Mu s E vs R L r =>
  wpAny_mono (h A Mu s E vs R L r) (fun z s' g => ⟨g.1, RepL.weak g.2⟩) fun _ _ x => x
theorem Cal.lenS (x : PySem.Str) (h : x.length < 2 ^ 62) : Cal b (.builtin "len") [.str x] (.d (.int x.length)) := fun A Mu s E vs R L r => by
  obtain ⟨v, rfl, p⟩ := r.one_inv; obtain ⟨t, rfl⟩ := p.str_inv
  exact PyProof.Rows.len_str (by omega) ⟨Grows.toks _ _ (Nat.le_succ_of_le (Nat.le_succ _)), Rep.int _ _⟩
theorem Cal.lenL (xs : List PyData) (h : xs.length < 2 ^ 62) : Cal b (.builtin "len") [.list xs] (.d (.int xs.length)) := fun A Mu s E vs R L r => by
  obtain ⟨v, rfl, p⟩ := r.one_inv; obtain ⟨a, vs, rfl, _, hl, _, e⟩ := p.isList
  exact PyProof.Rows.len_list hl (by omega) ⟨Grows.toks _ _ (Nat.le_succ_of_le (Nat.le_succ _)), by rw [e]; exact Rep.int _ _⟩
theorem Cal.lenT (xs : List PyData) (h : xs.length < 2 ^ 62) : Cal b (.builtin "len") [.tuple xs] (.d (.int xs.length)) := fun A Mu s E vs R L r => by
  obtain ⟨v, rfl, p⟩ := r.one_inv; obtain ⟨a, o, vs, n, rfl, hm, ho, hc, hd, r⟩ := p.tuple_inv
  have e : vs.size = xs.length := by rw [← r.length]; simp
  exact PyProof.Rows.len_tuple ⟨o, ho, hc, n, hd⟩ (by omega) ⟨Grows.toks _ _ (Nat.le_succ_of_le (Nat.le_succ _)), by rw [e]; exact Rep.int _ _⟩
theorem Cal.chr (i : Int) (h0 : 0 ≤ i) (h1 : i ≤ 1114111) : Cal b (.builtin "chr") [.int i] (.d (.str ⟨#[i.toNat]⟩)) := fun A Mu s E vs R L r => by
  obtain ⟨v, rfl, p⟩ := r.one_inv; obtain ⟨t, rfl⟩ := p.int_inv
  exact chr_of_range h0 h1 ⟨Grows.toks _ _, Rep.str _ _⟩
theorem Cal.ord (c : Nat) : Cal b (.builtin "ord") [.str ⟨#[c]⟩] (.d (.int c)) := fun A Mu s E vs R L r => by
  obtain ⟨v, rfl, p⟩ := r.one_inv; obtain ⟨t, rfl⟩ := p.str_inv
  exact ord_of_one rfl ⟨Grows.toks _ _, Rep.int _ _⟩
theorem Cal.strI (i : Int) (h : i.natAbs.log2 < 1920) : Cal b (.type "str") [.int i] (.d (.str (PySem.Str.ofString (toString i)))) := fun A Mu s E vs R L r => by
  obtain ⟨v, rfl, p⟩ := r.one_inv; obtain ⟨t, rfl⟩ := p.int_inv
  exact PySem.P.str_of_int h ⟨Grows.toks _ _, Rep.str _ _⟩
theorem Cal.sorted (xs ys : List Int) (h : xs.length < 64) (hp : ys.Perm xs) (hs : ys.Pairwise (· ≤ ·)) : Cal b (.builtin "sorted") [.list (xs.map .int)] (.pl (ys.map .int)) := fun A Mu s E vs R L r => by
  obtain ⟨v, rfl, p⟩ := r.one_inv; obtain ⟨a, vs, rfl, hm, hl, ra, e⟩ := p.isList
  refine sorted_ints (vs := vs.toList) (by simpa using hl) (intsAre_of ra) (by rw [← ra.length] at e; rw [ra.length, List.length_map]; exact h) fun out ns' a1 a2 a3 => ?_
  have e : ns' = ys := List.Perm.eq_of_pairwise (le := (· ≤ ·)) (fun a b _ _ h1 h2 => Int.le_antisymm h1 h2) a3 hs (a2.trans hp.symm)
  subst e
  obtain ⟨ep, he⟩ := sortedAll_at s.heap vs.toList out
  have k : KeepsH s.heap (sortedAll s.heap vs.toList out) := fun z o hz => sortedAll_old hz
  exact ⟨Grows.of (tk := s.toks) k (Nat.le_refl _), _, out, ep, rfl, fresh_notin L (new_of_ge (Nat.le_succ _)), he, repAll_of a1⟩
theorem Cal.max (xs : List Int) (m : Int) (hm : m ∈ xs) (hmax : ∀ a ∈ xs, a ≤ m) : Cal b (.builtin "max") [.list (xs.map .int)] (.d (.int m)) := fun A Mu s E vs R L r => by
  obtain ⟨v, rfl, p⟩ := r.one_inv; obtain ⟨a, vs, rfl, hmu, hl, ra, e⟩ := p.isList
  obtain ⟨l, e1, e2⟩ := ra.ints_inv
  have hl' : s.heap.IsList a (intItems l.toArray) := by
    have : vs = intItems l.toArray := by rw [← Array.toArray_toList (xs := vs), e1]; simp [intItems]
    rw [← this]; exact hl
  have hsz : 0 < l.toArray.size := by
    have : 0 < xs.length := List.length_pos_of_mem hm
    rw [← e2] at this; simpa using this
  refine wpAny_le (max_intList R.hand hl' hsz fun v h' tk hv hk le => ?_)
  obtain ⟨t, rfl⟩ := intItems_at hv
  obtain ⟨h1, h2⟩ := argBest_gt (numAt l.toArray) (l.toArray.size - 1)
  have hn : ∀ j, numAt l.toArray j = xs.getD j 0 := fun j => by rw [← e2, numAt_eq]
  have e3 : numAt l.toArray (argBest (fun i j => decide (numAt l.toArray i > numAt l.toArray j)) (l.toArray.size - 1)) = m := by
    refine Int.le_antisymm (hmax _ ?_) ?_
    · rw [hn]; exact getD_mem (by rw [← e2, List.length_map]; simp at h1 hsz ⊢; omega)
    · obtain ⟨j, hj, e4⟩ := mem_getD hm
      rw [← e4, ← hn]
      exact h2 j (by rw [← e2, List.length_map] at hj; simp at hj ⊢; omega)
  rw [e3]
  exact ⟨Grows.of (fun b o e => hk b o e) le, Rep.int _ _⟩
theorem Cal.count (x y : PySem.Str) : Cal b (.builtin "str.count") [.str x, .str y] (.d (.int (Txt.count x y))) := fun A Mu s E vs R L r => by
  obtain ⟨v, w, rfl, p, q⟩ := r.two_inv; obtain ⟨t, rfl⟩ := p.str_inv; obtain ⟨u, rfl⟩ := q.str_inv
  exact SC.count ⟨Grows.toks _ _, Rep.int _ _⟩
/-- a fresh plain list of texts -/
theorem pushStrs {Mu : List Addr} {s : Shared} {l : List (PySem.Str × Tok)} {xs : List PySem.Str} {tk : Nat} (L : Lt Mu s.heap) (e : l.map (·.1) = xs) (le : s.toks ≤ tk) :
    Grows s { s with heap := s.heap.push { cls := .type "list", data := .seq (strValues l).toArray }, toks := tk } ∧ RepL b Mu (s.heap.push { cls := .type "list", data := .seq (strValues l).toArray }) (.ref s.heap.objs.size) (.pl (xs.map .str)) :=
  ⟨Grows.of (fun _ _ e => Heap.get?_push_of_some _ e) le, _, (strValues l).toArray, 0, rfl, notin_size L, Heap.get?_push_size _ rfl, by rw [← e]; simpa using RepAll.strs l⟩
theorem Cal.split (x y : PySem.Str) (hy : (y.length == 0) = false) (hx : x.length + 2 ≤ sizeLine) : Cal b (.builtin "str.split") [.str x, .str y] (.pl ((Txt.split x y).map .str)) := fun A Mu s E vs R L r => by
  obtain ⟨v, w, rfl, p, q⟩ := r.two_inv; obtain ⟨t, rfl⟩ := p.str_inv; obtain ⟨u, rfl⟩ := q.str_inv
  have hn : (Builtin.Str.partsBetween x (Builtin.Str.occurrences x y 0 x.length (x.length + 1)) y.length).length ≤ sizeLine := by
    have e1 := StrLaws.occ_length_le_len x y 0 x.length (x.length + 1)
    rw [length_partsBetween]; omega
  cases h1 : (decide (x.length < y.length) || decide (Builtin.Str.strKind x < Builtin.Str.strKind y))
  · cases hf : (Builtin.Str.occurrences x y 0 x.length (x.length + 1)).isEmpty
    · refine call_meets PySem.F.slot_str_split (typeIs_str _ _ _) PySem.F.entry_str_split (PySem.F.args_str_split_2 _ _) (meets_str_split_sep x y t u h1 hy hf (by omega) hn) ?_
      show wants _ E _ { s with toks := _, heap := s.heap.push { cls := .type "list", data := .seq (strsFrom s.toks (Builtin.Str.partsBetween x (Builtin.Str.occurrences x y 0 x.length (x.length + 1)) y.length)).toArray } }
      rw [strsFrom_eq]
      exact pushStrs L ((numbered_texts _ _).trans ((if_neg (ne_true_of_eq_false h1)).trans (if_neg (ne_true_of_eq_false hf))).symm) (Nat.le_add_right _ _)
    · exact call_meets PySem.F.slot_str_split (typeIs_str _ _ _) PySem.F.entry_str_split (PySem.F.args_str_split_2 _ _) (meets_str_split_not_found x y t u h1 hy hf)
        (pushStrs (l := [(x, t)]) (tk := s.toks) L ((if_neg (ne_true_of_eq_false h1)).trans (if_pos hf)).symm (Nat.le_refl _))
  · exact call_meets PySem.F.slot_str_split (typeIs_str _ _ _) PySem.F.entry_str_split (PySem.F.args_str_split_2 _ _) (meets_str_split_cannot_occur x y t u h1)
      (pushStrs (l := [(x, t)]) (tk := s.toks) L (if_pos h1).symm (Nat.le_refl _))
theorem Cal.splitMax (x y : PySem.Str) (k : Int) (hk : (decide (k < -(2 ^ 63 : Int)) || decide (k ≥ 2 ^ 63)) = false) (hy : (y.length == 0) = false) (hx : x.length + 2 ≤ sizeLine) : Cal b (.builtin "str.split") [.str x, .str y, .int k] (.pl ((Txt.splitMax x y k).map .str)) := fun A Mu s E vs R L r => by
  obtain ⟨v, w, z, rfl, p, q, q'⟩ := r.three_inv; obtain ⟨t, rfl⟩ := p.str_inv; obtain ⟨u, rfl⟩ := q.str_inv; obtain ⟨u', rfl⟩ := q'.int_inv
  have hn : (Builtin.Str.partsBetween x (Builtin.Str.occurrences x y 0 x.length (limitOf x k)) y.length).length ≤ sizeLine := by
    have e1 := StrLaws.occ_length_le_len x y 0 x.length (limitOf x k)
    rw [length_partsBetween]; omega
  cases h1 : (decide (x.length < y.length) || decide (Builtin.Str.strKind x < Builtin.Str.strKind y))
  · cases hf : (Builtin.Str.occurrences x y 0 x.length (limitOf x k)).isEmpty
    · refine call_meets PySem.F.slot_str_split (typeIs_str _ _ _) PySem.F.entry_str_split (PySem.F.args_str_split_3 _ _ _) (meets_str_split_sep_max x y k t u u' hk h1 hy hf (by omega) hn) ?_
      show wants _ E _ { s with toks := _, heap := s.heap.push { cls := .type "list", data := .seq (strsFrom s.toks (Builtin.Str.partsBetween x (Builtin.Str.occurrences x y 0 x.length (limitOf x k)) y.length)).toArray } }
      rw [strsFrom_eq]
      exact pushStrs L ((numbered_texts _ _).trans ((if_neg (ne_true_of_eq_false h1)).trans (if_neg (ne_true_of_eq_false hf))).symm) (Nat.le_add_right _ _)
    · exact call_meets PySem.F.slot_str_split (typeIs_str _ _ _) PySem.F.entry_str_split (PySem.F.args_str_split_3 _ _ _) (meets_str_split_max_not_found x y k t u u' hk h1 hy hf)
        (pushStrs (l := [(x, t)]) (tk := s.toks) L ((if_neg (ne_true_of_eq_false h1)).trans (if_pos hf)).symm (Nat.le_refl _))
  · exact call_meets PySem.F.slot_str_split (typeIs_str _ _ _) PySem.F.entry_str_split (PySem.F.args_str_split_3 _ _ _) (meets_str_split_max_cannot_occur x y k t u u' hk h1)
      (pushStrs (l := [(x, t)]) (tk := s.toks) L (if_pos h1).symm (Nat.le_refl _))
theorem Cal.lines (x : PySem.Str) (hx : x.length ≤ sizeLine) (hn : (lineCuts x).length ≤ sizeLine) : Cal b (.builtin "str.splitlines") [.str x] (.pl ((Txt.lines x).map .str)) := fun A Mu s E vs R L r => by
  obtain ⟨v, rfl, p⟩ := r.one_inv; obtain ⟨t, rfl⟩ := p.str_inv
  refine call_meets PySem.F.slot_str_splitlines (typeIs_str _ _ _) PySem.F.entry_str_splitlines (PySem.F.args_str_splitlines_1 _) (meets_str_splitlines x t hx hn) ?_
  cases hw : lineCuts x == [(0, x.length)]
  · simp only [Bool.false_eq_true, if_false]
    rw [strsFrom_eq]
    exact pushStrs L ((numbered_texts s.toks (linesOf x)).trans (if_neg (ne_true_of_eq_false hw)).symm) (Nat.le_add_right _ _)
  · simp only [if_true]
    exact pushStrs (l := [(x, t)]) (tk := s.toks) L (if_pos hw).symm (Nat.le_refl _)
theorem Cal.join (x : PySem.Str) (ys : List PySem.Str) (h : JoinOk x ys = true) : Cal b (.builtin "str.join") [.str x, .list (ys.map .str)] (.d (.str (Txt.join x ys))) := fun A Mu s E vs R L r => by
  obtain ⟨v, w, rfl, p, q⟩ := r.two_inv; obtain ⟨t, rfl⟩ := p.str_inv; obtain ⟨a, vs, rfl, hm, hl, ra, e⟩ := q.isList
  obtain ⟨l, e1, e2⟩ := ra.strs_inv
  exact wpAny_le (SC.join (l := l) (by rw [← e1]; simpa using hl) e2 h fun t' k le => ⟨Grows.toks _ _ le, Rep.str _ _⟩)

variable {c : Cx} {Mu : List Addr} {ρ : Rho}
theorem Ev.addP {n : Nat} (ok : CxOk b n c) {l r : Expr} {pos : Pos} {xs ys : List PyData} (hl : Ev b c Mu ρ l (.pl xs)) (hr : Ev b c Mu ρ r (.pl ys)) (hs : xs.length + ys.length ≤ sizeLine) :
    Ev b c Mu ρ (.BinOp l .Add r pos) (.pl (xs ++ ys)) := .mk fun s E H =>
  wpAny_BinOp (wpAny_mono (hl.wp s E H) (fun v s₁ g₁ => wpAny_mono (hr.wp s₁ E (H.grows g₁.1)) (fun w s₂ g₂ => by
    have L₂ := (H.grows (g₁.1.trans g₂.1)).lt
    obtain ⟨a, vs, m, rfl, hm, ho, ra⟩ := RepL.keeps (b := b) (l := .pl xs) g₂.1.keeps g₁.2
    obtain ⟨a', ws, m', rfl, hm', ho', rb⟩ := (g₂.2 : RepL b Mu s₂.heap w (.pl ys))
    have e1 : vs.size = xs.length := by rw [← ra.length]; simp
    have e2 : ws.size = ys.length := by rw [← rb.length]; simp
    refine PySem.P.add_list (items := vs) (items2 := ws) ho ho' ?_ (by omega)
    exact ⟨(g₁.1.trans g₂.1).trans (Grows.push _ _), _, vs ++ ws, 0, rfl, notin_size L₂, Heap.get?_push_size _ rfl, by
      rw [Array.toList_append]; exact (ra.append rb).keeps (Grows.push _ _).keeps⟩) fun _ _ x => x) fun _ _ x => x)
theorem Cop.inL (x : PyData) (xs : List PyData) (h1 : PyData.canLayAll0 xs = true) (h2 : x.canLay0 = true) (h3 : min (PyData.depthAll xs) x.depth ≤ 100) : Cop b .In x (.list xs) (xs.any fun y => PyData.eqv y x) := fun A Mu s E v w R _ hv hw => by
  obtain ⟨as, ra⟩ := hv.reads; obtain ⟨bs, rb⟩ := hw.reads
  exact SeqAt.in_list_reads rb ra h1 h2 (by have := R.units; omega) ⟨Grows.refl _, rfl⟩
end
end Mine
end
section
open PySem PySem.W PyProof.Rows
set_option autoImplicit false
set_option linter.unusedVariables false
namespace Mine

/-- the value is that int or that text, on every heap -/
noncomputable def AtomV (v : Value) (d : PyData) : Prop := ∀ Mu h, Rep Mu h v d
noncomputable def isAtom : PyData → Bool
  | .int _ => true
  | .str _ => true
  | _ => false
noncomputable def dat : Value → PyData
  | .int i _ => .int i
  | .str x _ => .str x
  | _ => .none
theorem AtomV.of {Mu : List Addr} {h : Heap} {v : Value} {d : PyData} (r : Rep Mu h v d) (a : isAtom d = true) : AtomV v d := fun Mu' h' => by
  cases d with
  | int i => obtain ⟨t, rfl⟩ := r.int_inv; exact Rep.int _ _
  | str x => obtain ⟨t, rfl⟩ := r.str_inv; exact Rep.str _ _
  | _ => cases a
theorem AtomV.dat {v : Value} {d : PyData} (r : AtomV v d) (a : isAtom d = true) : dat v = d := by
  cases d with
  | int i => obtain ⟨t, rfl⟩ := (r [] { objs := #[] }).int_inv; rfl
  | str x => obtain ⟨t, rfl⟩ := (r [] { objs := #[] }).str_inv; rfl
  | _ => cases a

/-- what is gone through: ints or texts, one by one -/
structure Src (b : Base) (c : Cx) (Mu : List Addr) (ρ : Rho) (iter : Expr) (xs : List PyData) : Prop where
  wp : ∀ (s : Shared) (E : Value → Shared → Prop), Hold b c Mu ρ s →
    wpAny (model b.prog b.w) c.A (eval iter c.env) (fun xv s₁ => wpAny (model b.prog b.w) c.A (pyIter xv) (fun it s₂ => Grows s s₂ ∧
      ∃ I fp P St, it = .ref I ∧ (∀ a o, s.heap.get? a = some o → a < I) ∧ Walks b.prog b.w c.A I fp [I] xs.length P St ∧ St 0 s₂.heap ∧ (∀ a ∈ fp, a < s₂.heap.objs.size) ∧ (∀ a ∈ fp, a ∉ Mu) ∧
        (∀ i v, P i v → ∃ d, xs[i]? = some d ∧ AtomV v d) ∧ (∀ i h, St i h → ∃ o, h.get? I = some o)) E s₁) E s

theorem above_none {h : Heap} {I : Addr} (k : ∀ a o, h.get? a = some o → a < I) : h.get? I = Option.none := by
  cases e : h.get? I with
  | none => rfl
  | some o => exact absurd (k I o e) (Nat.lt_irrefl _)

section
variable {b : Base} {c : Cx} {Mu : List Addr} {ρ : Rho}

noncomputable def rangeData (lo hi : Int) : List PyData := (List.range (hi - lo).toNat).map fun (i : Nat) => PyData.int (lo + (i : Int))
theorem rangeData_len (lo hi : Int) : (rangeData lo hi).length = (hi - lo).toNat := by simp [rangeData]

theorem Src.range_of {n : Nat} (ok : CxOk b n c) {iter : Expr} {lo hi : Int} (h1 : -(2 ^ 62) ≤ lo) (h2 : lo < 2 ^ 62) (h3 : -(2 ^ 62) ≤ hi) (h4 : hi < 2 ^ 62)
    (h : ∀ (s : Shared) (E : Value → Shared → Prop), Hold b c Mu ρ s → wpAny (model b.prog b.w) c.A (eval iter c.env) (fun xv s₁ => Grows s s₁ ∧ ∃ r t u v, xv = .ref r ∧ IsRange s₁.heap r lo hi 1 t u v) E s) :
    Src b c Mu ρ iter (rangeData lo hi) := .mk fun s E H => by
  refine wpAny_mono (h s E H) (fun xv s₁ g => ?_) fun _ _ x => x
  obtain ⟨g1, r, t, u, v, rfl, hr⟩ := g
  refine wpAny_pyIter_range hr (small_one h1 h2 h3 h4) ⟨g1.trans (Grows.push _ _), s₁.heap.objs.size, _, _, _, rfl, ?_, Walks.bound (Walks.range ok.room.hand _ lo 1 _), ?_, ?_, ?_, ?_, fun i h st => ⟨_, st⟩⟩
  · exact fun a o e => Heap.lt_size (g1.keeps _ _ e)
  · have e : Builtin.Range.rangeSize lo hi 1 = ((rangeData lo hi).length : Int) := by
      rw [rangeSize_one, rangeData_len]; split <;> omega
    show IsRangeIter _ _ _ _ _
    unfold IsRangeIter
    rw [e]
    have := Heap.get?_push_size s₁.heap (o := { cls := .type "range_iterator", data := .fields #[rawInt lo, rawInt ((rangeData lo hi).length : Int), rawInt 1] }) rfl
    simpa [rawInt] using this
  · intro a ha
    have : a = s₁.heap.objs.size := by simpa using ha
    subst this
    show _ < (s₁.heap.push _).objs.size
    rw [Heap.size_push]; exact Nat.lt_succ_self _
  · intro a ha
    have : a = s₁.heap.objs.size := by simpa using ha
    subst this
    exact notin_size (H.grows g1).lt
  · rintro i v ⟨hi, t, rfl⟩
    rw [rangeData_len] at hi
    refine ⟨.int (lo + (i : Int)), ?_, fun _ _ => ?_⟩
    · simp [rangeData, List.getElem?_map, List.getElem?_range hi]
    · rw [Int.mul_one]; exact Rep.int _ _

theorem Src.range1 {n : Nat} (ok : CxOk b n c) {np pos : Pos} {e : Expr} {hi : Int} (h3 : -(2 ^ 62) ≤ hi) (h4 : hi < 2 ^ 62) (hf : Ev b c Mu ρ (.Name "range" np) (.r (.type "range"))) (he : Evs b c Mu ρ [e] [.int hi]) :
    Src b c Mu ρ (.Call (.Name "range" np) [e] [] pos) (rangeData 0 hi) :=
  Src.range_of ok (by decide) (by decide) h3 h4 fun s E H => wpAny_Call_NameR (wpAny_mono (hf.wp s E H) (fun f s₁ g₁ => by
    have e : f = .type "range" := g₁.2
    subst e
    refine PySem.callWith_type (star_plain he pos) (wpAny_mono (evalArgs_wp he pos s₁ E (H.grows g₁.1)) (fun a s₂ g₂ => ?_) fun _ _ x => x)
    obtain ⟨g2, hk, ra⟩ := g₂
    rw [hk]
    obtain ⟨v, ea, rv⟩ := ra.one_inv
    obtain ⟨t, rfl⟩ := rv.int_inv
    rw [ea]
    exact call_range_1 ⟨(g₁.1.trans g2).trans (Grows.of (fun _ _ e => Heap.get?_push_of_some _ e) (Nat.le_succ_of_le (Nat.le_succ _))), _, _, _, _, rfl, IsRange.new ..⟩) fun _ _ x => x)
theorem Src.range2 {n : Nat} (ok : CxOk b n c) {np pos : Pos} {e e' : Expr} {lo hi : Int} (h1 : -(2 ^ 62) ≤ lo) (h2 : lo < 2 ^ 62) (h3 : -(2 ^ 62) ≤ hi) (h4 : hi < 2 ^ 62) (hf : Ev b c Mu ρ (.Name "range" np) (.r (.type "range"))) (he : Evs b c Mu ρ [e, e'] [.int lo, .int hi]) :
    Src b c Mu ρ (.Call (.Name "range" np) [e, e'] [] pos) (rangeData lo hi) :=
  Src.range_of ok h1 h2 h3 h4 fun s E H => wpAny_Call_NameR (wpAny_mono (hf.wp s E H) (fun f s₁ g₁ => by
    have e : f = .type "range" := g₁.2
    subst e
    refine PySem.callWith_type (star_plain he pos) (wpAny_mono (evalArgs_wp he pos s₁ E (H.grows g₁.1)) (fun a s₂ g₂ => ?_) fun _ _ x => x)
    obtain ⟨g2, hk, ra⟩ := g₂
    rw [hk]
    obtain ⟨v, v', ea, rv, rv'⟩ := ra.two_inv
    obtain ⟨t, rfl⟩ := rv.int_inv
    obtain ⟨t', rfl⟩ := rv'.int_inv
    rw [ea]
    exact call_range_2 ⟨(g₁.1.trans g2).trans (Grows.of (fun _ _ e => Heap.get?_push_of_some _ e) (Nat.le_succ _)), _, _, _, _, rfl, IsRange.new ..⟩) fun _ _ x => x)
theorem Src.list {n : Nat} (ok : CxOk b n c) {e : Expr} {xs : List PyData} (h : Ev b c Mu ρ e (.d (.list xs))) (ha : ∀ d ∈ xs, isAtom d = true) : Src b c Mu ρ e xs := .mk fun s E H =>
  wpAny_mono (h.wp s E H) (fun xv s₁ g => by
    have r : Rep Mu s₁.heap xv (.list xs) := g.2
    obtain ⟨a, vs, rfl, hm, hl, ra, e⟩ := r.isList
    have hne : a ≠ s₁.heap.objs.size := by obtain ⟨o, ho, _⟩ := hl; exact Nat.ne_of_lt (Heap.lt_size ho)
    have hlt : a < s₁.heap.objs.size := by obtain ⟨o, ho, _⟩ := hl; exact Heap.lt_size ho
    refine wpAny_pyIter_list hl ⟨g.1.trans (Grows.push _ _), s₁.heap.objs.size, _, _, _, rfl, ?_, e ▸ Walks.list ok.room.hand _ a hne vs, ⟨⟨_, Heap.get?_push_size _ rfl, rfl, rfl⟩, hl.push _⟩, ?_, ?_, ?_, fun i h st => let ⟨o, e, _⟩ := st.1; ⟨o, e⟩⟩
    · exact fun a o e => Heap.lt_size (g.1.keeps _ _ e)
    · intro z hz
      show _ < (s₁.heap.push _).objs.size
      rw [Heap.size_push]
      rcases List.mem_cons.mp hz with rfl | hz
      · exact Nat.lt_succ_self _
      · rcases List.mem_cons.mp hz with rfl | hz
        · exact Nat.lt_succ_of_lt hlt
        · cases hz
    · intro z hz
      rcases List.mem_cons.mp hz with rfl | hz
      · exact notin_size (H.grows g.1).lt
      · rcases List.mem_cons.mp hz with rfl | hz
        · exact hm
        · cases hz
    · intro i v hv
      obtain ⟨d, hd, rd⟩ := ra.get' (v := v) (i := i) (by simpa using hv)
      exact ⟨d, hd, AtomV.of rd (ha d (List.mem_of_getElem? hd))⟩) fun _ _ x => x
theorem Src.dict {n : Nat} (ok : CxOk b n c) {e : Expr} {es : List (PySem.Str × PyData)} (h : Ev b c Mu ρ e (.k es)) : Src b c Mu ρ e (es.map fun p => .str p.1) := .mk fun s E H =>
  wpAny_mono (h.wp s E H) (fun xv s₁ g => by
    obtain ⟨a, rfl, hm, nsm, kvs, hd, hk, ra⟩ := (g.2 : RepL b Mu s₁.heap xv (.k es))
    obtain ⟨ep, hat⟩ : ∃ ep, s₁.heap.DictAt (PySem.strKind b.prog b.w) a kvs ep := hd.dictAt
    have hne : a ≠ s₁.heap.objs.size := Nat.ne_of_lt hat.lt_size
    have hl : (es.map fun p => PyData.str p.1).length = kvs.length := by
      have := congrArg List.length hk; simpa using this.symm
    have W := Walks.dictKeys (knd := PySem.strKind b.prog b.w) (A := c.A) ok.room.hand s₁.heap.objs.size a hne kvs ep
    rw [← hl] at W
    refine wpAny_pyIter_dict nsm hat ⟨g.1.trans (Grows.push _ _), s₁.heap.objs.size, _, _, _, rfl, ?_, W, ⟨⟨_, Heap.get?_push_size _ rfl, rfl, by rw [hl]; rfl⟩, hat.push _⟩, ?_, ?_, ?_, fun i h st => let ⟨o, e, _⟩ := st.1; ⟨o, e⟩⟩
    · exact fun a o e => Heap.lt_size (g.1.keeps _ _ e)
    · intro z hz
      show _ < (s₁.heap.push _).objs.size
      rw [Heap.size_push]
      rcases List.mem_cons.mp hz with rfl | hz
      · exact Nat.lt_succ_self _
      · rcases List.mem_cons.mp hz with rfl | hz
        · exact Nat.lt_succ_of_lt hat.lt_size
        · cases hz
    · intro z hz
      rcases List.mem_cons.mp hz with rfl | hz
      · exact notin_size (H.grows g.1).lt
      · rcases List.mem_cons.mp hz with rfl | hz
        · exact hm
        · cases hz
    · rintro i v ⟨k, x, hx, hi⟩
      obtain ⟨t, rfl⟩ := Value.isStrOf_shape hi
      refine ⟨.str k, ?_, fun _ _ => Rep.str _ _⟩
      have : (es.map (·.1))[i]? = some k := by rw [← hk]; simp [hx]
      simp only [List.getElem?_map, Option.map_eq_some_iff] at this ⊢
      obtain ⟨p, e1, e2⟩ := this
      exact ⟨p, e1, by rw [e2]⟩) fun _ _ x => x

inductive Ifs (b : Base) (c : Cx) (Mu : List Addr) (ρ : Rho) : List Expr → Bool → Prop
  | nil : Ifs b c Mu ρ [] true
  | one {e t} : Te b c Mu ρ e t → Ifs b c Mu ρ [e] t
theorem Ifs.wp {es : List Expr} {t : Bool} (h : Ifs b c Mu ρ es t) (s : Shared) (E : Value → Shared → Prop) (H : Hold b c Mu ρ s) :
    wpAny (model b.prog b.w) c.A (forIn es true fun e r => if r = true then do let ok ← isTrue e c.env (eval e c.env); pure (ForInStep.yield ok) else pure (ForInStep.yield r)) (fun v s' => Grows s s' ∧ v = t) E s := by
  cases h with
  | nil => exact wpAny_pure ⟨Grows.refl _, rfl⟩
  | one h =>
    rw [List.forIn_cons]
    refine wpAny_bind ?_
    rw [if_pos rfl]
    exact wpAny_bind (wpAny_mono (h.wp s E H) (fun v s' g => wpAny_pure (by show wpAny _ _ (forIn [] v _) _ _ _; rw [List.forIn_nil]; exact wpAny_pure g)) fun _ _ x => x)

theorem paired_rep {g : PyData → PyData} {vs ys : List Value} (h : Paired (fun v y => AtomV y (g (dat v))) vs ys) (Mu : List Addr) (hp : Heap) : RepAll Mu hp ys ((vs.map dat).map g) := by
  induction h with
  | nil => exact RepAll.nil
  | cons a _ ih => exact RepAll.cons (a Mu hp) ih

theorem Ev.comp {n : Nat} (ok : CxOk b n c) {elt iter : Expr} {x : PySem.Str} {px pos : Pos} {ifs : List Expr} {scope : Scope} {cl : List (PySem.Str × Addr)} {xs : List PyData}
    (src : Src b c Mu ρ iter xs) (hn : xs.length ≤ sizeLine) (hxa : ∀ d ∈ xs, isAtom d = true)
    (hclos : closureFor scope c.env = pure cl) (hcell : ∀ y ∈ scope.names, y.2 ≠ .cell) (hkind : scope.kind = .function)
    (hnames : ∀ y ∈ scope.names, y.2 = .local → scope.names.lookup y.1 = some .local) (hx : scope.names.lookup x = some .local)
    (hs : ∀ x, foldedSetIterable iter c.env x = pure x)
    (ρc : Rho) (hcap : ∀ y l, ρc y = some l → ∃ a, cl.lookup y = some a ∧ (relabel scope c.env).names.lookup y = some .cell ∧ c.env.kindOf y = some .cell ∧ c.env.cells.lookup y = some a ∧ ρ y = some l)
    (p : PyData → Bool) (g : PyData → PyData)
    (hin : ∀ C d, d ∈ xs → Ifs b ⟨c.A, compEnvC scope cl C c.env⟩ (C :: Mu) (upd ρc x (.d d)) ifs (p d) ∧
      (p d = true → isAtom (g d) = true ∧ Ev b ⟨c.A, compEnvC scope cl C c.env⟩ (C :: Mu) (upd ρc x (.d d)) elt (.d (g d)))) :
    Ev b c Mu ρ (.ListComp elt [⟨.Name x px, iter, ifs, 0⟩] scope pos) (.pl ((xs.filter p).map g)) := .mk fun s E H => by
  refine wpAny_le (wpAny_ListComp_free (fun v => p (dat v)) (fun v y => AtomV y (g (dat v))) hclos hcell hkind hnames hx ?_ hs)
  refine wpAny_mono (src.wp s E H) (fun xv s₁ h₁ => wpAny_mono h₁ (fun it s₂ h₂ => ?_) fun _ _ x => x) fun _ _ x => x
  obtain ⟨g2, I, fp, P, St, rfl, hI0, W, hst, hfp, hmu, hP, _⟩ := h₂
  have hI : s.heap.get? I = Option.none := above_none hI0
  have H₂ := H.grows g2
  -- the frame of the turn
  have inner : ∀ C v d s₃ m₃, s₂.heap.objs.size ≤ C → AtomV v d → s₃.heap.Ns C m₃ → m₃ x = some v → (∀ a o, a ∉ [I] → s₂.heap.get? a = some o → s₃.heap.get? a = some o) → s₂.toks ≤ s₃.toks →
      Hold b ⟨c.A, compEnvC scope cl C c.env⟩ (C :: Mu) (upd ρc x (.d d)) s₃ := by
    intro C v d s₃ m₃ hC av hm hv hk htk
    have k0 : KeepsH s.heap s₃.heap := fun a o e => hk a o (fun hm => by rw [List.mem_singleton.mp hm] at e; rw [hI] at e; cases e) (g2.keeps a o e)
    have st : Stays Mu (C :: Mu) s.heap s₃.heap := fun a o hn e => ⟨fun hm => by
      rcases List.mem_cons.mp hm with rfl | hm
      · exact absurd (Heap.lt_size (g2.keeps _ _ e)) (Nat.not_lt.mpr hC)
      · exact hn hm, k0 a o e⟩
    refine ⟨H.base.trans k0, fun a ha => ?_, fun y l e => ?_, Nat.lt_of_lt_of_le H₂.pos htk, fun a ha => ?_⟩
    · rcases List.mem_cons.mp ha with rfl | ha
      · obtain ⟨o, _, _, e, _⟩ := hm; exact ⟨o, e⟩
      · obtain ⟨o, e⟩ := H.lt a ha; exact ⟨o, k0 a o e⟩
    · unfold upd at e
      by_cases hy : y = x
      · rw [if_pos hy] at e; cases e; subst hy
        exact ⟨v, .inl ⟨lookup_relabel_local hx, m₃, hm, hv⟩, av _ _⟩
      · rw [if_neg hy] at e
        obtain ⟨a, h1, h2, h3, h4, h5⟩ := hcap y l e
        obtain ⟨u, nu, ru⟩ := H.vars y l h5
        rcases nu with ⟨hk', _⟩ | ⟨_, a', ha', hc'⟩
        · rw [h3] at hk'; cases hk'
        · rw [h4] at ha'; cases ha'
          exact ⟨u, .inr ⟨h2, a, h1, hc'.keeps k0⟩, ru.mono st⟩
    · rcases List.mem_cons.mp ha with rfl | ha
      · cases e : b.h₀.get? a with
        | none => rfl
        | some o => exact absurd (Heap.lt_size (H₂.base a o e)) (Nat.not_lt.mpr hC)
      · exact H.hi a ha
  refine ⟨I, fp, [I], xs.length, P, St, rfl, W, hn, hst, hfp, ⟨?_, ?_⟩, ?_⟩
  · intro C i v s₃ m₃ E' hC hPv hm hv hk htk
    obtain ⟨d, hd, av⟩ := hP i v hPv
    have hd' := List.mem_of_getElem? hd
    rw [av.dat (hxa d hd')]
    exact wpAny_mono ((hin C d hd').1.wp s₃ E' (inner C v d s₃ m₃ hC av hm hv hk htk)) (fun t s₄ q => ⟨q.2, q.1.toKeeps⟩) fun _ _ x => x
  · intro C i v s₃ m₃ E' hC hPv hpv hm hv hk htk
    obtain ⟨d, hd, av⟩ := hP i v hPv
    have hd' := List.mem_of_getElem? hd
    rw [av.dat (hxa d hd')] at hpv ⊢
    obtain ⟨ha, he⟩ := (hin C d hd').2 hpv
    exact wpAny_mono (he.wp s₃ E' (inner C v d s₃ m₃ hC av hm hv hk htk)) (fun t s₄ q => ⟨AtomV.of q.2 ha, q.1.toKeeps⟩) fun _ _ x => x
  · intro D h' tk ys vs hD hl hpl hlen hPs hF hk le
    have k0 : KeepsH s.heap h' := fun a o e => hk a o (fun hm => by rw [List.mem_singleton.mp hm] at e; rw [hI] at e; cases e) (g2.keeps a o e)
    obtain ⟨m, hm⟩ := hpl
    obtain ⟨hh, ht, e2, _, l2⟩ := g2
    subst e2
    refine ⟨Grows.of (s := s) k0 le, D, ys, m, rfl, fun hmu => ?_, hm, ?_⟩
    · obtain ⟨o, e⟩ := H₂.lt D hmu; rw [hD] at e; cases e
    · have e1 : vs.map dat = xs := by
        apply List.ext_getElem?
        intro i
        cases hv : vs[i]? with
        | none =>
          have : xs[i]? = none := by
            rw [List.getElem?_eq_none_iff] at hv ⊢; omega
          simp [hv, this]
        | some v =>
          obtain ⟨d, hd, av⟩ := hP i v (hPs i v hv)
          simp [hv, hd, av.dat (hxa d (List.mem_of_getElem? hd))]
      have e2 : (vs.filter fun v => p (dat v)).map dat = xs.filter p := by
        rw [← e1, List.filter_map]; rfl
      have := paired_rep hF Mu h'
      rw [e2] at this
      exact this
end
end Mine
end
section
open PySem PySem.W PyProof.Rows
set_option autoImplicit false
set_option linter.unusedVariables false
namespace Mine

/-- the frame of a comprehension whose target is a cell -/
noncomputable def compEnvT (scope : Scope) (x : PySem.Str) (T : Addr) (cl : List (PySem.Str × Addr)) (C : Addr) (env : Env) : Env :=
  { scope := relabel scope env, locals := C, globals := env.globals, cells := (x, T) :: cl, qual := env.qual, func := none, code := env.code, frame := env.frame, builtins := env.builtins }

section
variable {b : Base} {c : Cx} {Mu : List Addr} {ρ : Rho}

theorem nfe_cell {M : Model} {A : Around} {E : Value → Shared → Prop} {s : Shared} {scope : Scope} {env : Env} {x : PySem.Str} {cl : List (PySem.Str × Addr)} {Q : Env → Shared → Prop}
    (h1 : ∀ n, cellsFrom n scope.names cl = (x, n) :: cl) (h2 : ∀ h, pushCells h scope.names = h.push { cls := .type "cell", data := .cell none })
    (hQ : Q { scope := scope, locals := s.heap.objs.size, globals := env.globals, cells := (x, s.heap.objs.size + 1) :: cl, qual := env.qual, func := none, code := env.code, frame := env.frame, builtins := env.builtins }
      { s with heap := (s.heap.push { cls := .type "dict", data := .dict #[] }).push { cls := .type "cell", data := .cell none } }) :
    wpAny M A (newFunctionEnv scope env.globals cl [] env.qual none .none (some env)) Q E s := by
  simp only [newFunctionEnv, Option.isSome_some, if_true]
  refine wpAny_bind (wpAny_alloc ?_)
  refine wpAny_bind (wpAny_layCells _ (fun name kind cells => by cases hkc : kind == NameKind.cell <;> simp) _ _ _ _ ?_)
  rw [h1, h2]
  rw [show ({ s with heap := s.heap.push { cls := .type "dict", data := .dict #[] } } : Shared).heap.objs.size = s.heap.objs.size + 1 from Heap.size_push ..]
  rw [List.forIn_nil]
  exact wpAny_bind (wpAny_pure (wpAny_pure hQ))

theorem Ev.compCell {n : Nat} (ok : CxOk b n c) {elt iter : Expr} {x : PySem.Str} {px pos : Pos} {ifs : List Expr} {scope : Scope} {cl : List (PySem.Str × Addr)} {xs : List PyData}
    (src : Src b c Mu ρ iter xs) (hn : xs.length ≤ sizeLine) (hxa : ∀ d ∈ xs, isAtom d = true)
    (hclos : closureFor scope c.env = pure cl) (hkind : scope.kind = .function)
    (hc1 : ∀ n, cellsFrom n scope.names cl = (x, n) :: cl) (hc2 : ∀ h, pushCells h scope.names = h.push { cls := .type "cell", data := .cell none })
    (hnames : ∀ y ∈ scope.names, y.2 = .local → scope.names.lookup y.1 = some .local) (hx : (relabel scope c.env).names.lookup x = some .cell)
    (hs : ∀ x, foldedSetIterable iter c.env x = pure x)
    (ρc : Rho) (hcap : ∀ y l, ρc y = some l → y ≠ x → ∃ a, cl.lookup y = some a ∧ (relabel scope c.env).names.lookup y = some .cell ∧ c.env.kindOf y = some .cell ∧ c.env.cells.lookup y = some a ∧ ρ y = some l)
    (p : PyData → Bool) (g : PyData → PyData)
    (hin : ∀ C T d, d ∈ xs → Ifs b ⟨c.A, compEnvT scope x T cl C c.env⟩ (C :: T :: Mu) (upd ρc x (.d d)) ifs (p d) ∧
      (p d = true → isAtom (g d) = true ∧ Ev b ⟨c.A, compEnvT scope x T cl C c.env⟩ (C :: T :: Mu) (upd ρc x (.d d)) elt (.d (g d)))) :
    Ev b c Mu ρ (.ListComp elt [⟨.Name x px, iter, ifs, 0⟩] scope pos) (.pl ((xs.filter p).map g)) := .mk fun s E H => by
  rw [eval_ListComp]
  refine wpAny_le (wpAny_comprehension_free (use := none) rfl hs hclos hkind hnames ?_)
  refine wpAny_mono (src.wp s E H) (fun xv s₁ h₁ => wpAny_mono h₁ (fun it s₂ h₂ => ?_) fun _ _ x => x) fun _ _ x => x
  obtain ⟨g2, I, fp, P, St, rfl, hI0, W, hst, hfp, hmu, hP, _⟩ := h₂
  have hI : s.heap.get? I = Option.none := above_none hI0
  have H₂ := H.grows g2
  refine wpAny_newObj_type (nfe_cell hc1 hc2 ?_)
  generalize hH3 : s₂.heap.push { cls := .type "list", dict := none, data := .seq ([] : List Value).toArray } = H3
  have hCs : H3.objs.size = s₂.heap.objs.size + 1 := by rw [← hH3, Heap.size_push]
  have hTs : H3.objs.size + 1 = s₂.heap.objs.size + 2 := by rw [hCs]
  -- the three new addresses
  generalize hD : s₂.heap.objs.size = D at *
  generalize hC : H3.objs.size = C at *
  generalize hT : C + 1 = T at *
  have nDC : D ≠ C := by rw [hCs]; exact Nat.ne_of_lt (Nat.lt_succ_self _)
  have nDT : D ≠ T := by rw [hTs]; exact Nat.ne_of_lt (Nat.lt_succ_of_lt (Nat.lt_succ_self _))
  have nCT : C ≠ T := by rw [← hT]; exact Nat.ne_of_lt (Nat.lt_succ_self _)
  have hiD : D < C := by rw [hCs]; exact Nat.lt_succ_self _
  have hiT : D < T := by rw [hTs]; exact Nat.lt_succ_of_lt (Nat.lt_succ_self _)
  have lowD : ∀ a o, s₂.heap.get? a = some o → a < D := fun a o e => hD ▸ Heap.lt_size e
  have fpD : ∀ a ∈ fp, a < D := hfp
  have fpn : D ∉ fp ∧ C ∉ fp ∧ T ∉ fp := ⟨fun h => Nat.lt_irrefl _ (fpD _ h), fun h => Nat.lt_irrefl _ (Nat.lt_trans hiD (fpD _ h)), fun h => Nat.lt_irrefl _ (Nat.lt_trans hiT (fpD _ h))⟩
  have hIfp : I ∈ fp := W.sub I (by simp)
  generalize hH5 : (H3.push { cls := .type "dict", data := .dict #[] }).push { cls := .type "cell", data := .cell none } = H5
  have old5 : ∀ a o, s₂.heap.get? a = some o → H5.get? a = some o := fun a o e => by
    rw [← hH5]; exact Heap.get?_push_of_some _ (Heap.get?_push_of_some _ (hH3 ▸ Heap.get?_push_of_some _ e))
  have d5 : H5.get? D = some (plainList #[] 0) := by
    rw [← hH5]; exact Heap.get?_push_of_some _ (Heap.get?_push_of_some _ (by rw [← hH3, ← hD]; exact Heap.get?_push_size _ rfl))
  have c5 : H5.Ns C (fun _ => none) := by
    rw [← hH5, ← hC]; exact (Heap.Ns.new H3 (.type "dict")).keeps fun _ _ e => Heap.get?_push_of_some _ e
  have t5 : H5.IsCell T none := by
    rw [← hH5, ← hT, ← hC]
    exact ⟨_, by rw [← Heap.size_push H3 { cls := .type "dict", data := .dict #[] }]; exact Heap.get?_push_size _ rfl, rfl⟩
  show codeAny (model b.prog b.w) c.A (.compStart (.ListComp elt [⟨.Name x px, iter, ifs, 0⟩] scope pos) 0 (.ref I) (.ref D) (compEnvT scope x T cl C c.env)) (compPost (model b.prog b.w) c.A E none _ (.ref D) C) { s₂ with heap := H5 }
  have hkf : (compEnvT scope x T cl C c.env).scope.kind = .function := hkind
  have hkx : (compEnvT scope x T cl C c.env).kindOf x = some .cell := hx
  have hcx : (compEnvT scope x T cl C c.env).cells.lookup x = some T := by simp [compEnvT]
  have k0 : ∀ h : Heap, (∀ a o, a ∉ [I] → s₂.heap.get? a = some o → h.get? a = some o) → KeepsH s.heap h := fun h hk a o e =>
    hk a o (fun hm => by rw [List.mem_singleton.mp hm] at e; rw [hI] at e; cases e) (g2.keeps a o e)
  have inner : ∀ v d (s₃ : Shared), AtomV v d → (∃ m, s₃.heap.Ns C m) → s₃.heap.IsCell T (some v) → (∀ a o, a ∉ [I] → s₂.heap.get? a = some o → s₃.heap.get? a = some o) → 0 < s₃.toks →
      Hold b ⟨c.A, compEnvT scope x T cl C c.env⟩ (C :: T :: Mu) (upd ρc x (.d d)) s₃ := by
    intro v d s₃ av hm hv hk htk
    have k := k0 _ hk
    have st : Stays Mu (C :: T :: Mu) s.heap s₃.heap := fun a o hn e => ⟨fun hm => by
      have := lowD _ _ (g2.keeps _ _ e)
      rcases List.mem_cons.mp hm with rfl | hm
      · exact Nat.lt_irrefl _ (Nat.lt_trans hiD this)
      · rcases List.mem_cons.mp hm with rfl | hm
        · exact Nat.lt_irrefl _ (Nat.lt_trans hiT this)
        · exact hn hm, k a o e⟩
    refine ⟨H.base.trans k, fun a ha => ?_, fun y l e => ?_, htk, fun a ha => ?_⟩
    · rcases List.mem_cons.mp ha with rfl | ha
      · obtain ⟨m, o, _, _, e, _⟩ := hm; exact ⟨o, e⟩
      · rcases List.mem_cons.mp ha with rfl | ha
        · obtain ⟨o, e, _⟩ := hv; exact ⟨o, e⟩
        · obtain ⟨o, e⟩ := H.lt a ha; exact ⟨o, k a o e⟩
    · unfold upd at e
      by_cases hy : y = x
      · rw [if_pos hy] at e; cases e; subst hy
        exact ⟨v, .inr ⟨hkx, T, hcx, hv⟩, av _ _⟩
      · rw [if_neg hy] at e
        obtain ⟨a, h1, h2, h3, h4, h5⟩ := hcap y l e hy
        obtain ⟨u, nu, ru⟩ := H.vars y l h5
        rcases nu with ⟨hk', _⟩ | ⟨_, a', ha', hc'⟩
        · rw [h3] at hk'; cases hk'
        · rw [h4] at ha'; cases ha'
          refine ⟨u, .inr ⟨h2, a, ?_, hc'.keeps k⟩, ru.mono st⟩
          show List.lookup y ((x, T) :: cl) = some a
          have hb : (y == x) = false := by simpa using hy
          rw [List.lookup_cons, hb]; exact h1
    · have lowB : ∀ z, D ≤ z → b.h₀.get? z = Option.none := fun z hz => by
        cases e : b.h₀.get? z with
        | none => rfl
        | some o => exact absurd (lowD _ _ (H₂.base z o e)) (Nat.not_lt.mpr hz)
      rcases List.mem_cons.mp ha with rfl | ha
      · exact lowB _ (Nat.le_of_lt hiD)
      · rcases List.mem_cons.mp ha with rfl | ha
        · exact lowB _ (Nat.le_of_lt hiT)
        · exact H.hi a ha
  have loop : codeAny (model b.prog b.w) c.A (.compLoop (.ListComp elt [⟨.Name x px, iter, ifs, 0⟩] scope pos) 0 (.ref I) (.ref D) (compEnvT scope x T cl C c.env))
      (compPost (model b.prog b.w) c.A E none (fun a s' => s.toks ≤ s'.toks → Grows s s' ∧ RepL b Mu s'.heap a (.pl ((xs.filter p).map g))) (.ref D) C) { s₂ with heap := H5 } := by
    refine codeAny_compLoop_tests
      (fun k s' => ∃ h' tk m v₀ ys j, ∃ vs : List Value, s' = { s₂ with heap := h', toks := tk } ∧ St vs.length h' ∧ h'.get? D = some (plainList ys j) ∧ h'.Ns C m ∧ h'.IsCell T v₀ ∧ (∀ j v, vs[j]? = some v → P j v) ∧
        Paired (fun v y => AtomV y (g (dat v))) (vs.filter fun v => p (dat v)) ys.toList ∧ vs.length ≤ xs.length ∧ k = xs.length + 1 - vs.length ∧
        (∀ a o, a ∉ [I] → s₂.heap.get? a = some o → h'.get? a = some o) ∧ s₂.toks ≤ tk) ?_ (xs.length + 1)
      ⟨H5, s₂.toks, _, none, #[], 0, [], rfl, W.frame _ _ _ hst (fun a _ o e => old5 a o e), d5, c5, t5, by simp, by simpa using Paired.nil, Nat.zero_le _, rfl, fun a o _ e => old5 a o e, Nat.le_refl _⟩
    rintro k s' ⟨h', tk, m, v₀, ys, j, vs, rfl, hst', hd', hc', ht', hPs, hF, hi, rfl, hk, htk⟩
    have nI : D ≠ I ∧ C ≠ I ∧ T ≠ I := ⟨fun e => fpn.1 (e ▸ hIfp), fun e => fpn.2.1 (e ▸ hIfp), fun e => fpn.2.2 (e ▸ hIfp)⟩
    by_cases hlt : vs.length < xs.length
    · refine wpAny_with_toks (n := s₂.toks) htk (W.item vs.length _ _ _ hlt hst' fun v h₁ tk₁ hPv hst₁ hk₁ htk₁ => ?_)
      have up1 : ∀ a o, a ≠ I → h'.get? a = some o → h₁.get? a = some o := fun a o ha e => hk₁ a o (by simpa using ha) e
      obtain ⟨d, hd, av⟩ := hP _ v hPv
      have hdm := List.mem_of_getElem? hd
      have edat : dat v = d := av.dat (hxa d hdm)
      have ht1 : h₁.IsCell T v₀ := let ⟨o, e, q⟩ := ht'; ⟨o, up1 _ _ nI.2.2 e, q⟩
      refine wpAny_assign_Name (wpAny_storeName_cell hkf hkx hcx ht1 fun h₂ ht₂ hs₂ => ?_)
      have up2 : ∀ a o, a ≠ I → a ≠ T → h'.get? a = some o → h₂.get? a = some o := fun a o ha hb e => hs₂.extBut a o hb (up1 a o ha e)
      have hc2' : h₂.Ns C m := let ⟨o, es, ep, e, r⟩ := hc'; ⟨o, es, ep, up2 _ _ nI.2.1 nCT e, r⟩
      have hk2 : ∀ a o, a ∉ [I] → s₂.heap.get? a = some o → h₂.get? a = some o := fun a o ha e =>
        up2 a o (by simpa using ha) (fun e' => Nat.lt_irrefl _ (Nat.lt_trans hiT (e' ▸ lowD a o e))) (hk a o ha e)
      have hd2 : h₂.get? D = some (plainList ys j) := up2 _ _ nI.1 nDT hd'
      have hst2 : St (vs.length + 1) h₂ := W.frame _ _ _ hst₁ fun a ha o e => hs₂.extBut a o (fun e' => fpn.2.2 (e' ▸ ha)) e
      have tpos : ∀ t, s₂.toks ≤ t → 0 < t := fun t h => Nat.lt_of_lt_of_le H₂.pos h
      have HI := inner v d { s₂ with heap := h₂, toks := tk₁ } av ⟨m, hc2'⟩ ht₂ hk2 (tpos _ htk₁)
      have hPs' : ∀ j u, (vs ++ [v])[j]? = some u → P j u := fun j u hj => by
        rcases Nat.lt_trichotomy j vs.length with h | h | h
        · exact hPs j u (by rwa [List.getElem?_append_left h] at hj)
        · subst h; simp at hj; subst hj; exact hPv
        · have hnone : (vs ++ [v])[j]? = none := List.getElem?_eq_none (by rw [List.length_append, List.length_singleton]; omega)
          rw [hnone] at hj; cases hj
      obtain ⟨hif, hel⟩ := hin C T d hdm
      refine wpAny_mono (hif.wp _ _ HI) (fun t s₃ h₃ => ?_) fun _ _ e => e
      obtain ⟨g3, rfl⟩ := h₃
      have HI3 := HI.grows g3
      obtain ⟨h₃, tk₃, rfl, k3, l3⟩ := g3
      have k3 : KeepsH h₂ h₃ := k3
      have l3 : tk₁ ≤ tk₃ := l3
      have hst3 : St (vs.length + 1) h₃ := W.frame _ _ _ hst2 fun a _ o e => k3 a o e
      cases hpd : p d with
      | false =>
        simp only [Bool.false_eq_true, if_false]
        refine ⟨xs.length + 1 - (vs.length + 1), by omega, h₃, tk₃, m, some v, ys, j, vs ++ [v], rfl, by simpa using hst3, k3 _ _ hd2, hc2'.keeps k3, ht₂.keeps k3, hPs', ?_, (by rw [List.length_append, List.length_singleton]; exact hlt),
          (by rw [List.length_append, List.length_singleton]), fun a o ha e => k3 _ _ (hk2 a o ha e), Nat.le_trans htk₁ l3⟩
        rw [List.filter_append]; simpa [edat, hpd] using hF
      | true =>
        simp only [if_true]
        obtain ⟨hat, hev⟩ := hel hpd
        refine wpAny_mono (hev.wp _ _ HI3) (fun y s₄ h₄ => ?_) fun _ _ e => e
        obtain ⟨g4, ry⟩ := h₄
        obtain ⟨h₄, tk₄, rfl, k4, l4⟩ := g4
        have k4 : KeepsH h₃ h₄ := k4
        have l4 : tk₃ ≤ tk₄ := l4
        have hys : ys.size ≤ sizeLine := by
          have e1 := hF.length
          have e2 : (vs.filter fun v => p (dat v)).length ≤ vs.length := List.length_filter_le _ _
          have e4 : ys.toList.length = ys.size := by simp
          omega
        refine wpAny_list_append_plain (hsz := hys) ⟨j, k4 _ _ (k3 _ _ hd2)⟩ fun h₅ hl₅ hs₅ => ?_
        obtain ⟨j', hl₅⟩ := hl₅
        have up5 : ∀ a o, a ≠ D → h₂.get? a = some o → h₅.get? a = some o := fun a o ha e => hs₅.extBut a o ha (k4 _ _ (k3 _ _ e))
        refine ⟨xs.length + 1 - (vs.length + 1), by omega, h₅, tk₄, m, some v, ys.push y, j', vs ++ [v], rfl, ?_, hl₅, ?_, ?_, hPs', ?_, (by rw [List.length_append, List.length_singleton]; exact hlt),
          (by rw [List.length_append, List.length_singleton]), fun a o ha e => up5 a o (fun e' => Nat.lt_irrefl _ (e' ▸ lowD a o e)) (hk2 a o ha e), Nat.le_trans htk₁ (Nat.le_trans l3 l4)⟩
        · have := W.frame _ _ h₅ hst2 fun a ha o e => up5 a o (fun e' => fpn.1 (e' ▸ ha)) e
          simpa using this
        · obtain ⟨o, es, ep, e, r⟩ := hc2'; exact ⟨o, es, ep, up5 _ _ (Ne.symm nDC) e, r⟩
        · obtain ⟨o, e, r⟩ := ht₂; exact ⟨o, up5 _ _ (Ne.symm nDT) e, r⟩
        · rw [List.filter_append]; simpa [edat, hpd] using Paired.snoc hF (by rw [edat]; exact AtomV.of ry hat)
    · have hin : vs.length = xs.length := by omega
      refine W.done _ _ _ (hin ▸ hst') fun h₁ tk₁ hk₁ => ?_
      have up1 : ∀ a o, a ≠ I → h'.get? a = some o → h₁.get? a = some o := fun a o ha e => hk₁ a o (by simpa using ha) e
      refine ⟨m, let ⟨o, es, ep, e, r⟩ := hc'; ⟨o, es, ep, up1 _ _ nI.2.1 e, r⟩, fun h₂ hs₂ le => ?_⟩
      have up2 : ∀ a o, a ≠ I → a ≠ C → h'.get? a = some o → h₂.get? a = some o := fun a o ha hb e => hs₂.extBut a o hb (up1 a o ha e)
      have kk := k0 h₂ fun a o ha e => up2 a o (by simpa using ha) (fun e' => Nat.lt_irrefl _ (Nat.lt_trans hiD (e' ▸ lowD a o e))) (hk a o ha e)
      obtain ⟨hh, ht, e2, _, l2⟩ := g2
      subst e2
      refine ⟨Grows.of (s := s) kk le, D, ys, j, rfl, fun hmu => ?_, up2 _ _ nI.1 nDC hd', ?_⟩
      · obtain ⟨o, e⟩ := H₂.lt D hmu; exact Nat.lt_irrefl _ (lowD _ _ e)
      · have e1 : vs.map dat = xs := by
          apply List.ext_getElem?
          intro i
          cases hv : vs[i]? with
          | none =>
            have : xs[i]? = none := by
              rw [List.getElem?_eq_none_iff] at hv ⊢; omega
            simp [hv, this]
          | some v =>
            obtain ⟨d, hd, av⟩ := hP i v (hPs i v hv)
            simp [hv, hd, av.dat (hxa d (List.mem_of_getElem? hd))]
        have e2 : (vs.filter fun v => p (dat v)).map dat = xs.filter p := by
          rw [← e1, List.filter_map]; rfl
        have := paired_rep hF Mu h₂
        rw [e2] at this
        exact this
  exact codeAny_compStart_list loop (W.self 0 _ _ _ (W.frame _ _ _ hst fun a _ o e => old5 a o e) loop)
end
end Mine
end
section
open PySem PySem.W PyProof.Rows
set_option autoImplicit false
set_option linter.unusedVariables false
set_option maxRecDepth 100000
namespace Mine
theorem lk_list_append : typeLookup (.type "list") "append" = pure (some (.builtin "list.append")) := by rw [typeLookup_type, builtinLookup_eq_fast]; kernel_rfl
theorem md_no_set : typeLookup (.type "method_descriptor") "__set__" = pure none := by rw [typeLookup_type, builtinLookup_eq_fast]; kernel_rfl
theorem md_no_del : typeLookup (.type "method_descriptor") "__delete__" = pure none := by rw [typeLookup_type, builtinLookup_eq_fast]; kernel_rfl
theorem slot_md_get : Slot "method_descriptor" "__get__" "method_descriptor.__get__" :=
  .of (owner := "method_descriptor") (n := "__get__") (by rw [typeLookup_type, builtinLookup_eq_fast]; kernel_rfl) (by decide +kernel) (by decide +kernel) (by decide +kernel)
    (by first | exact .inl (by decide +kernel) | exact .inr (by decide +kernel)) (by rw [isSubtype_type]; kernel_rfl)
theorem entry_md_get : entryFor table "method_descriptor.__get__" = some Builtin.«method_descriptor.__get__» := entryFor_of_tree (by kernel_rfl)
theorem args_md_get (a b c : Value) : argsOk "method_descriptor.__get__" ⟨[a, b, c], []⟩ := by unfold argsOk; kernel_rfl
theorem owner_append : (".".intercalate ("list.append".cutAt '.').dropLast) = "list" := by decide +kernel
theorem sub_list_append : isSubtype (.type "list") (.type (".".intercalate ("list.append".cutAt '.').dropLast)) = pure true := by rw [owner_append, isSubtype_type]; kernel_rfl

noncomputable def boundAppend (a : Addr) : Obj := { cls := .type "builtin_function_or_method", data := .fields #[.builtin "list.append", .ref a] }
section
variable {prog : Program} {w : World} {A : Around} {E : Value → Shared → Prop} {h : Heap} {g : Array GenState} {d : Drawn} {t : Nat} {os : OsState} {a : Addr} {o : Obj} {vs : Array Value} {n : Nat}

theorem append_get {R : Result → Shared → Prop} (hx : h.get? a = some o) (hc : o.cls = .type "list") (hq : R (.ok (.ret (.ref h.objs.size))) ⟨h.push (boundAppend a), g, d, t, os⟩) :
    codeAny (model prog w) A (.call (.builtin "method_descriptor.__get__") ⟨[.builtin "list.append", .ref a, .type "list"], []⟩) R ⟨h, g, d, t, os⟩ := by
  have hT : (⟨h, g, d, t, os⟩ : Shared).TypeIs (.ref a) "list" := ⟨_, hx, hc⟩
  have hT5 : (⟨h, g, d, t, os⟩ : Shared).TypeIs (.builtin "list.append") "method_descriptor" := type_list_append
  refine codeAny_call_builtin slot_md_get.plain entry_md_get (slot_md_get.check _ _ _ _ _ _ _ _ hT5 (args_md_get _ _ _) ?_)
  unfold Builtin.«method_descriptor.__get__»
  have f8 := sub_list_append
  repeat (any_goals (first | assumption | wp_step))

theorem append_entry {tk : Tok} {Q : Fin → Shared → Prop} (hx : h.get? a = some { cls := .type "list", data := .seq vs n }) (hq : Q (.done (.ret (.ref h.objs.size))) ⟨h.push (boundAppend a), g, d, t, os⟩) :
    wpAny (model prog w) A (Builtin.«object.__getattribute__» ⟨[.ref a, .str "append" tk], []⟩) Q E ⟨h, g, d, t, os⟩ := by
  have hT : (⟨h, g, d, t, os⟩ : Shared).TypeIs (.ref a) "list" := ⟨_, hx, rfl⟩
  have hT5 : (⟨h, g, d, t, os⟩ : Shared).TypeIs (.builtin "list.append") "method_descriptor" := type_list_append
  have f4 := lk_list_append
  have f5 := type_list_append
  have f6 := slot_md_get.lookup
  have f7 := md_no_set
  have f9 := md_no_del
  repeat (any_goals (first | assumption | wp_step))
  refine append_get hx rfl ?_
  repeat (any_goals (first | assumption | wp_step))

theorem append_call {tk : Tok} {R : Result → Shared → Prop} (hx : h.get? a = some { cls := .type "list", data := .seq vs n }) (hq : R (.ok (.ret (.ref h.objs.size))) ⟨h.push (boundAppend a), g, d, t, os⟩) :
    codeAny (model prog w) A (.call (.builtin "list.__getattribute__") ⟨[.ref a, .str "append" tk], []⟩) R ⟨h, g, d, t, os⟩ :=
  codeAny_call_builtin PySem.F.slot_list_getattribute.plain PySem.F.entry_list_ga (PySem.F.slot_list_getattribute.check _ _ _ _ _ _ _ _ (show (⟨h, g, d, t, os⟩ : Shared).TypeIs (.ref a) "list" from ⟨_, hx, rfl⟩) (PySem.F.args_list_getattribute_2 _ _) (append_entry hx hq))

theorem append_attr {Q : Value → Shared → Prop} (hx : h.get? a = some { cls := .type "list", data := .seq vs n }) (hq : Q (.ref h.objs.size) ⟨h.push (boundAppend a), g, d, t + 1, os⟩) :
    wpAny (model prog w) A (getAttr (.ref a) "append" true) Q E ⟨h, g, d, t, os⟩ := by
  have hT : (⟨h, g, d, t + 1, os⟩ : Shared).TypeIs (.ref a) "list" := ⟨_, hx, rfl⟩
  have f2 := PySem.F.slot_list_getattribute.lookup
  have f3 := PySem.F.slot_list_getattribute.bind (.ref a)
  unfold getAttr
  repeat (any_goals (first | assumption | wp_step))

  refine append_call hx ?_
  repeat (any_goals (first | assumption | wp_step))
end
end Mine
namespace Mine
noncomputable def sigAppend : Option Manifest.Signature := List.lookup (String.ofList ['d', 'n', 'e', 'p', 'p', 'a'].reverse) Manifest.sig_list
theorem sigAppend_some : sigAppend.isSome = true := by kernel_rfl
theorem sigAppend_ok (a x : Value) : (match sigAppend with | some sig => Bind.checkArgs "list.append" { sig with full := toString (Bind.lastOf "list") ++ toString "." ++ toString (Bind.lastOf "list.append") } ⟨[a, x], []⟩ | none => pure ()) = pure () := by kernel_rfl
theorem kind_append : builtinKind "list.append" = some .method := by kernel_rfl
theorem va_append : Manifest.varargsMethods.contains "list.append" = false := by kernel_rfl
theorem sub_list_module : isSubtype (.type "list") (.type "module") = pure false := by rw [isSubtype_type]; kernel_rfl
theorem sub_list_type : isSubtype (.type "list") (.type "type") = pure false := by rw [isSubtype_type]; kernel_rfl
section
variable {prog : Program} {w : World} {A : Around} {E : Value → Shared → Prop} {s : Shared} {a m : Addr} {vs : Array Value} {n : Nat} {x : Value}
theorem bound_check {Q : Unit → Shared → Prop}
    (hx : s.heap.get? a = some { cls := .type "list", data := .seq vs n }) (hq : Q () s) : wpAny (model prog w) A (checkBoundCall "list.append" ⟨[.ref a, x], []⟩) Q E s := by
  have hT : s.TypeIs (.ref a) "list" := ⟨_, hx, rfl⟩
  have f1 := sub_list_module
  have f2 := sub_list_type
  unfold checkBoundCall
  rw [signature?_of (id := "list.append") (n := ['d', 'n', 'e', 'p', 'p', 'a']) (o := ['t', 's', 'i', 'l']) (by kernel_rfl) PySem.F.owner_list]
  obtain ⟨sig, hsig⟩ := Option.isSome_iff_exists.mp sigAppend_some
  have hk := sigAppend_ok (.ref a) x
  rw [hsig] at hk
  rw [show List.lookup (String.ofList ['d', 'n', 'e', 'p', 'p', 'a'].reverse) Manifest.sig_list = some sig from hsig]
  dsimp only at hk ⊢
  rw [kind_append, va_append]
  dsimp only
  rw [if_neg (by decide)]
  refine wpAny_bind (wpAny_isInstance hT f1 ?_)
  rw [if_neg (by decide)]
  refine wpAny_bind ?_
  unfold isType
  refine wpAny_bind ?_
  have hl := hx
  repeat (any_goals (first | assumption | with_reducible refine wpAny_pure ?_ | ((with_reducible apply wpAny_loadPart'); focus (heap_get; done)) | ((with_reducible apply wpAny_load'); focus (heap_get; done))))
  all_goals try unfold loadHead
  repeat (any_goals (first | assumption | with_reducible refine wpAny_pure ?_ | ((with_reducible apply wpAny_loadPart'); focus (heap_get; done)) | ((with_reducible apply wpAny_load'); focus (heap_get; done))))
  dsimp only
  simp only [Bool.false_eq_true, if_false]
  refine wpAny_bind (wpAny_typeOf hT ?_)
  dsimp only
  rw [hk]
  exact wpAny_pure hq

theorem bound_call {Q : Value → Shared → Prop} (hm : s.heap.get? m = some (boundAppend a)) (hx : s.heap.get? a = some { cls := .type "list", data := .seq vs n }) (hsz : vs.size ≤ sizeLine)
    (hQ : ∀ h', h'.get? a = some { cls := .type "list", data := .seq (vs.push x) (n + 1) } → Heap.SameBut a s.heap h' → Q .none { s with heap := h' }) :
    wpAny (model prog w) A (call (.ref m) [x] []) Q E s := by
  refine wpAny_call ?_
  refine codeAny_of_tree ?_
  show wpAny _ _ (callAny (.ref m) ⟨[x], []⟩) _ _ _
  unfold callAny
  refine wpAny_bind (wpAny_load hm ?_)
  show wpAny _ _ (if (Value.type "builtin_function_or_method" == Value.type "method" || Value.type "builtin_function_or_method" == Value.type "builtin_function_or_method" || Value.type "builtin_function_or_method" == Value.type "method-wrapper") = true then _ else _) _ _ _
  rw [if_pos (by decide)]
  show wpAny _ _ (if (Value.type "builtin_function_or_method" != Value.type "method") = true then _ else _) _ _ _
  rw [if_pos (by decide)]
  refine wpAny_bind (bound_check hx ?_)
  refine wpAny_pure ⟨Code.quiet_builtin _ (by decide +kernel), codeAny_builtin entry_list_append ?_⟩
  show wpAny _ _ (updateSeq a (·.push x) >>= fun _ => ret .none) _ _ s
  refine wpAny_bind ?_
  refine wpAny_updateSeq hx rfl (wpAny_pure ?_)
  refine hQ _ ?_ (Heap.SameBut.update ..)
  rw [Heap.get?_update_self _ hx (by rw [Obj.mapSeq_push_plain]; rfl), Obj.mapSeq_push_plain]

theorem callWith_boundAppend {pos : Pos} {args : List (Bool × Sem Value)} {Q : Value → Shared → Prop} (hplain : args.any (·.1) = false)
    (h : wpAny (model prog w) A (evalArgs (.ref m) true args []) (fun x s₁ => s₁.heap.get? m = some (boundAppend a) ∧ wpAny (model prog w) A (call (.ref m) x.pos x.kw) Q E s₁) E s) : wpAny (model prog w) A (callWith pos (.ref m) [] args []) Q E s := by
  unfold callWith
  refine wpAny_bind (wpAny_holding (wpAny_mono h (fun x s₁ h₁ => wpAny_bind (wpAny_standAt ?_)) fun _ _ x => x))
  obtain ⟨ho, hcall⟩ := h₁
  simp only [hplain, List.any_nil, Bool.or_false]
  refine wpAny_bind (m := keeperOf (.ref m)) ?_
  unfold keeperOf
  refine wpAny_bind (wpAny_load ho ?_)
  simp only [boundAppend, show (Value.type "builtin_function_or_method" != Value.type "method") = true by decide, show (Value.type "builtin_function_or_method" == Value.type "builtin_function_or_method" || Value.type "builtin_function_or_method" == Value.type "method-wrapper") = true by decide, if_true]
  refine wpAny_pure ?_
  exact wpAny_bind (wpAny_mono hcall (fun r s₂ hr => wpAny_bind (wpAny_holding (wpAny_point (wpAny_pure hr)))) fun _ _ x => x)
end
end Mine
end
section
open PySem PySem.W PyProof.Rows
set_option autoImplicit false
set_option linter.unusedVariables false
namespace Mine

section
variable {b : Base} {c : Cx} {s₀ : Shared} {M0 : List Addr} {G : List (Addr × Obj)} {ρ : Rho} {mus : Mus}

theorem Held.mutate {s : Shared} {l₁ l₂ : Mus} {a : Addr} {m m' : MV} (H : Held b c s₀ M0 G ρ (l₁ ++ (a, m) :: l₂) s) {h' : Heap} {tk : Nat} (htk : s.toks ≤ tk)
    (hs : ∀ z o, z ≠ a → s.heap.get? z = some o → h'.get? z = some o) (live : ∃ o, h'.get? a = some o) (hn : MVat b (MuOf c (l₁ ++ (a, m) :: l₂) M0) h' a m') :
    Held b c s₀ M0 G ρ (l₁ ++ (a, m') :: l₂) { s with heap := h', toks := tk } := by
  have e : (l₁ ++ (a, m') :: l₂).map (·.1) = (l₁ ++ (a, m) :: l₂).map (·.1) := by simp
  have hin : (a, m) ∈ l₁ ++ (a, m) :: l₂ := by simp
  obtain ⟨p1, p2, p3, _⟩ := H.muts _ hin
  have ha : a ∈ MuOf c (l₁ ++ (a, m) :: l₂) M0 := by simp [MuOf]
  have st : Stays (MuOf c (l₁ ++ (a, m) :: l₂) M0) (MuOf c (l₁ ++ (a, m) :: l₂) M0) s.heap h' := fun z o n q => ⟨n, hs z o (fun r => n (r ▸ ha)) q⟩
  obtain ⟨h0, t, rfl, l⟩ := H.same
  have hnd := H.musApart
  refine ⟨⟨h', tk, rfl, Nat.le_trans l htk⟩, H.pos, fun z o q => hs z o (Nat.ne_of_lt (Nat.lt_of_lt_of_le (Heap.lt_size q) p1)) (H.keep z o q), H.base, H.m0, ?_, H.nsHi, fun y f q => ?_, H.apart, fun y k q => ?_, ?_, fun p hp => ?_, ?_, fun p hp => ?_⟩
  · obtain ⟨m, o, es, ep, q, r⟩ := H.ns; exact ⟨m, o, es, ep, hs _ _ (Ne.symm p2) q, r⟩
  · obtain ⟨h1, h2, v, o, q', r⟩ := H.cells y f q
    exact ⟨h1, h2, v, o, hs _ _ (fun z => p3 (z ▸ List.mem_map.mpr ⟨(y, f), mem_of_lookup q, rfl⟩)) q', r⟩
  · rw [e]
    obtain ⟨v, nu, ru⟩ := H.vars y k q
    refine ⟨v, ?_, ru.mono st⟩
    rcases nu with ⟨hk, m, ⟨o, es, ep, q', r⟩, w⟩ | ⟨hk, f, hf, o, q', r⟩
    · exact .inl ⟨hk, m, ⟨o, es, ep, hs _ _ (Ne.symm p2) q', r⟩, w⟩
    · exact .inr ⟨hk, f, hf, o, hs _ _ (fun z => p3 (z ▸ List.mem_map.mpr ⟨(y, f), mem_of_lookup hf, rfl⟩)) q', r⟩
  · rw [e]
    intro z hz
    by_cases hza : z = a
    · subst hza; exact live
    · obtain ⟨o, q⟩ := H.lt z hz; exact ⟨o, hs z o hza q⟩
  · rw [e]
    have hnd' : ∀ q ∈ l₁ ++ l₂, q.1 ≠ a := by
      intro q hq hqa
      rw [List.map_append, List.map_cons] at hnd
      rw [List.nodup_append] at hnd
      obtain ⟨n1, n2, n3⟩ := hnd
      rcases List.mem_append.mp hq with hq | hq
      · exact n3 q.1 (List.mem_map.mpr ⟨q, hq, rfl⟩) a List.mem_cons_self hqa
      · exact (List.nodup_cons.mp n2).1 (List.mem_map.mpr ⟨q, hq, hqa⟩)
    by_cases hpa : p = (a, m')
    · subst hpa; exact ⟨p1, p2, p3, hn⟩
    · have hp' : p ∈ l₁ ++ l₂ := by
        rcases List.mem_append.mp hp with hp | hp
        · exact List.mem_append.mpr (.inl hp)
        · rcases List.mem_cons.mp hp with hp | hp
          · exact absurd hp hpa
          · exact List.mem_append.mpr (.inr hp)
      have hp'' : p ∈ l₁ ++ (a, m) :: l₂ := by
        rcases List.mem_append.mp hp' with hp | hp
        · exact List.mem_append.mpr (.inl hp)
        · exact List.mem_append.mpr (.inr (List.mem_cons_of_mem _ hp))
      obtain ⟨h1, h2, h3, h4⟩ := H.muts p hp''
      exact ⟨h1, h2, h3, h4.mono st fun o q => hs _ o (hnd' p hp') q⟩
  · rw [e]; exact hnd
  · rw [e]
    obtain ⟨u, w⟩ := H.guard p hp
    exact ⟨u, hs _ _ (fun z => u (z ▸ ha)) w⟩

theorem Held.size_le {s : Shared} (H : Held b c s₀ M0 G ρ mus s) : s₀.heap.objs.size ≤ s.heap.objs.size := by
  obtain ⟨m, o, es, ep, e, _⟩ := H.ns
  exact Nat.le_of_lt (Nat.lt_of_le_of_lt H.nsHi (Heap.lt_size e))

/-- something new that may still turn -/
theorem Held.newMut {s : Shared} (H : Held b c s₀ M0 G ρ mus s) {o : Obj} {m : MV} (hm : MVat b (MuOf c ((s.heap.objs.size, m) :: mus) M0) (s.heap.push o) s.heap.objs.size m) (live : (s.heap.push o).get? s.heap.objs.size = some o) :
    Held b c s₀ M0 G ρ ((s.heap.objs.size, m) :: mus) { s with heap := s.heap.push o } := by
  have k : KeepsH s.heap (s.heap.push o) := fun _ _ e => Heap.get?_push_of_some _ e
  have hnew : ∀ z o', s.heap.get? z = some o' → z ≠ s.heap.objs.size := fun z o' e => Nat.ne_of_lt (Heap.lt_size e)
  have nin : s.heap.objs.size ∉ MuOf c mus M0 := notin_size H.lt
  have mem : ∀ z, z ∈ MuOf c ((s.heap.objs.size, m) :: mus) M0 ↔ z = s.heap.objs.size ∨ z ∈ MuOf c mus M0 := fun z => by
    simp only [MuOf, List.map_cons, List.cons_append, List.append_assoc, List.mem_cons, List.mem_append]
    constructor
    · rintro (h | h | h | h | h)
      · exact .inr (.inl h)
      · exact .inr (.inr (.inl h))
      · exact .inl h
      · exact .inr (.inr (.inr (.inl h)))
      · exact .inr (.inr (.inr (.inr h)))
    · rintro (h | h | h | h | h)
      · exact .inr (.inr (.inl h))
      · exact .inl h
      · exact .inr (.inl h)
      · exact .inr (.inr (.inr (.inl h)))
      · exact .inr (.inr (.inr (.inr h)))
  have st : Stays (MuOf c mus M0) (MuOf c ((s.heap.objs.size, m) :: mus) M0) s.heap (s.heap.push o) := fun z o' n e =>
    ⟨fun h => ((mem z).mp h).elim (hnew z o' e) n, k _ _ e⟩
  obtain ⟨h0, t, rfl, l⟩ := H.same
  refine ⟨⟨_, t, rfl, l⟩, H.pos, H.keep.trans k, H.base, H.m0, ?_, H.nsHi, fun x a e => ?_, H.apart, fun x l e => ?_, ?_, fun p hp => ?_, ?_, fun p hp => ?_⟩
  · obtain ⟨m, hm⟩ := H.ns; exact ⟨m, hm.keeps k⟩
  · obtain ⟨h1, h2, v, h3⟩ := H.cells x a e; exact ⟨h1, h2, v, h3.keeps k⟩
  · obtain ⟨v, n, r⟩ := H.vars x l e; exact ⟨v, n.keeps k, r.mono st⟩
  · intro z hz
    rcases (mem z).mp hz with rfl | hz
    · exact ⟨_, live⟩
    · obtain ⟨o', e⟩ := H.lt z hz; exact ⟨o', k _ _ e⟩
  · rcases List.mem_cons.mp hp with rfl | hp
    · refine ⟨H.size_le, ?_, ?_, hm⟩
      · intro e; refine nin ?_; rw [show h0.objs.size = c.env.locals from e]; simp [MuOf]
      · intro e; exact nin (by simp only [MuOf, List.cons_append, List.mem_cons, List.mem_append]; exact .inr (.inl (.inl e)))
    · obtain ⟨h1, h2, h3, h4⟩ := H.muts p hp
      exact ⟨h1, h2, h3, h4.mono st fun o e => k _ _ e⟩
  · refine List.nodup_cons.mpr ⟨fun e => nin (by simp only [MuOf, List.cons_append, List.mem_cons, List.mem_append]; exact .inr (.inl (.inr e))), H.musApart⟩
  · obtain ⟨u, w⟩ := H.guard p hp
    exact ⟨fun h => ((mem _).mp h).elim (hnew _ _ w) u, k _ _ w⟩

theorem Held.newMut' {s : Shared} (H : Held b c s₀ M0 G ρ mus s) {o : Obj} {m : MV} {tk : Nat} (htk : s.toks ≤ tk) (hm : MVat b (MuOf c ((s.heap.objs.size, m) :: mus) M0) (s.heap.push o) s.heap.objs.size m) (live : (s.heap.push o).get? s.heap.objs.size = some o) :
    Held b c s₀ M0 G ρ ((s.heap.objs.size, m) :: mus) { s with heap := s.heap.push o, toks := tk } :=
  (H.newMut hm live).grows (Grows.toks { s with heap := s.heap.push o } tk htk)

/-- a list that turns no more -/
theorem Held.freeze {s : Shared} {l₁ l₂ : Mus} {a : Addr} {xs : List PyData} {x : PySem.Str} (H : Held b c s₀ M0 G ρ (l₁ ++ (a, .lst xs) :: l₂) s) (hx : ρ x = some (.r (.ref a))) :
    Held b c s₀ M0 G (upd ρ x (.pl xs)) (l₁ ++ l₂) s := by
  have hin : (a, MV.lst xs) ∈ l₁ ++ (a, .lst xs) :: l₂ := by simp
  obtain ⟨p1, p2, p3, vs, n, ho, r⟩ := H.muts _ hin
  have hnd := H.musApart
  rw [List.map_append, List.map_cons, List.nodup_append] at hnd
  obtain ⟨n1, n2, n3⟩ := hnd
  have n2' := List.nodup_cons.mp n2
  have sub : ∀ z ∈ MuOf c (l₁ ++ l₂) M0, z ∈ MuOf c (l₁ ++ (a, .lst xs) :: l₂) M0 := fun z hz => by
    simp only [MuOf, List.map_append, List.map_cons, List.cons_append, List.append_assoc, List.mem_cons, List.mem_append] at hz ⊢
    rcases hz with h | h | h | h | h
    · exact .inl h
    · exact .inr (.inl h)
    · exact .inr (.inr (.inl h))
    · exact .inr (.inr (.inr (.inr (.inl h))))
    · exact .inr (.inr (.inr (.inr (.inr h))))
  have st : Stays (MuOf c (l₁ ++ (a, .lst xs) :: l₂) M0) (MuOf c (l₁ ++ l₂) M0) s.heap s.heap := .less sub
  have na : a ∉ MuOf c (l₁ ++ l₂) M0 := fun hz => by
    simp only [MuOf, List.map_append, List.cons_append, List.append_assoc, List.mem_cons, List.mem_append] at hz
    rcases hz with h | h | h | h | h
    · exact p2 h
    · exact p3 h
    · exact n3 a h a List.mem_cons_self rfl
    · exact n2'.1 h
    · obtain ⟨o, e⟩ := H.m0.1 a h; exact absurd (Heap.lt_size e) (Nat.not_lt.mpr p1)
  refine ⟨H.same, H.pos, H.keep, H.base, H.m0, H.ns, H.nsHi, H.cells, H.apart, fun y l e => ?_, fun z hz => H.lt z (sub z hz), fun p hp => ?_, ?_, fun p hp => ?_⟩
  · unfold upd at e
    by_cases hy : y = x
    · rw [if_pos hy] at e; cases e; subst hy
      obtain ⟨v, nu, ru⟩ := H.vars y _ hx
      exact ⟨v, nu, a, vs, n, ru, na, ho, r.mono st⟩
    · rw [if_neg hy] at e
      obtain ⟨v, nu, ru⟩ := H.vars y l e
      exact ⟨v, nu, ru.mono st⟩
  · have hp' : p ∈ l₁ ++ (a, .lst xs) :: l₂ := by
      rcases List.mem_append.mp hp with hp | hp
      · exact List.mem_append.mpr (.inl hp)
      · exact List.mem_append.mpr (.inr (List.mem_cons_of_mem _ hp))
    obtain ⟨h1, h2, h3, h4⟩ := H.muts p hp'
    exact ⟨h1, h2, h3, h4.mono st fun o e => e⟩
  · rw [List.map_append, List.nodup_append]
    exact ⟨n1, n2'.2, fun q hq z hz => n3 q hq z (List.mem_cons_of_mem _ hz)⟩
  · obtain ⟨u, w⟩ := H.guard p hp
    exact ⟨fun h => u (sub _ h), w⟩
theorem Held.freezeD {s : Shared} {l₁ l₂ : Mus} {a : Addr} {xs : List (PySem.Str × PyData)} {x : PySem.Str} (H : Held b c s₀ M0 G ρ (l₁ ++ (a, .dct xs) :: l₂) s) (hx : ρ x = some (.r (.ref a))) :
    Held b c s₀ M0 G (upd ρ x (.k xs)) (l₁ ++ l₂) s := by
  have hin : (a, MV.dct xs) ∈ l₁ ++ (a, .dct xs) :: l₂ := by simp
  obtain ⟨p1, p2, p3, r⟩ := H.muts _ hin
  have hnd := H.musApart
  rw [List.map_append, List.map_cons, List.nodup_append] at hnd
  obtain ⟨n1, n2, n3⟩ := hnd
  have n2' := List.nodup_cons.mp n2
  have sub : ∀ z ∈ MuOf c (l₁ ++ l₂) M0, z ∈ MuOf c (l₁ ++ (a, .dct xs) :: l₂) M0 := fun z hz => by
    simp only [MuOf, List.map_append, List.map_cons, List.cons_append, List.append_assoc, List.mem_cons, List.mem_append] at hz ⊢
    rcases hz with h | h | h | h | h
    · exact .inl h
    · exact .inr (.inl h)
    · exact .inr (.inr (.inl h))
    · exact .inr (.inr (.inr (.inr (.inl h))))
    · exact .inr (.inr (.inr (.inr (.inr h))))
  have st : Stays (MuOf c (l₁ ++ (a, .dct xs) :: l₂) M0) (MuOf c (l₁ ++ l₂) M0) s.heap s.heap := .less sub
  have na : a ∉ MuOf c (l₁ ++ l₂) M0 := fun hz => by
    simp only [MuOf, List.map_append, List.cons_append, List.append_assoc, List.mem_cons, List.mem_append] at hz
    rcases hz with h | h | h | h | h
    · exact p2 h
    · exact p3 h
    · exact n3 a h a List.mem_cons_self rfl
    · exact n2'.1 h
    · obtain ⟨o, e⟩ := H.m0.1 a h; exact absurd (Heap.lt_size e) (Nat.not_lt.mpr p1)
  refine ⟨H.same, H.pos, H.keep, H.base, H.m0, H.ns, H.nsHi, H.cells, H.apart, fun y l e => ?_, fun z hz => H.lt z (sub z hz), fun p hp => ?_, ?_, fun p hp => ?_⟩
  · unfold upd at e
    by_cases hy : y = x
    · rw [if_pos hy] at e; cases e; subst hy
      obtain ⟨v, nu, ru⟩ := H.vars y _ hx
      exact ⟨v, nu, a, ru, na, r.mono st fun o e => e⟩
    · rw [if_neg hy] at e
      obtain ⟨v, nu, ru⟩ := H.vars y l e
      exact ⟨v, nu, ru.mono st⟩
  · have hp' : p ∈ l₁ ++ (a, .dct xs) :: l₂ := by
      rcases List.mem_append.mp hp with hp | hp
      · exact List.mem_append.mpr (.inl hp)
      · exact List.mem_append.mpr (.inr (List.mem_cons_of_mem _ hp))
    obtain ⟨h1, h2, h3, h4⟩ := H.muts p hp'
    exact ⟨h1, h2, h3, h4.mono st fun o e => e⟩
  · rw [List.map_append, List.nodup_append]
    exact ⟨n1, n2'.2, fun q hq z hz => n3 q hq z (List.mem_cons_of_mem _ hz)⟩
  · obtain ⟨u, w⟩ := H.guard p hp
    exact ⟨fun h => u (sub _ h), w⟩

theorem Ex.freeze {l₁ l₂ : Mus} {a : Addr} {xs : List PyData} {x : PySem.Str} {es : List Stmt} {K : Rho → Mus → Prop} {R : LV → Prop} (hx : ρ x = some (.r (.ref a)))
    (h : Ex b c s₀ M0 G (upd ρ x (.pl xs)) (l₁ ++ l₂) es K R) : Ex b c s₀ M0 G ρ (l₁ ++ (a, .lst xs) :: l₂) es K R := .mk fun s E H => h.wp s E (H.freeze hx)
theorem Ex.freezeD {l₁ l₂ : Mus} {a : Addr} {xs : List (PySem.Str × PyData)} {x : PySem.Str} {es : List Stmt} {K : Rho → Mus → Prop} {R : LV → Prop} (hx : ρ x = some (.r (.ref a)))
    (h : Ex b c s₀ M0 G (upd ρ x (.k xs)) (l₁ ++ l₂) es K R) : Ex b c s₀ M0 G ρ (l₁ ++ (a, .dct xs) :: l₂) es K R := .mk fun s E H => h.wp s E (H.freezeD hx)
/-- fewer names are told -/
theorem Held.drop {s : Shared} {ρ' : Rho} (H : Held b c s₀ M0 G ρ mus s) (h : ∀ x l, ρ' x = some l → ρ x = some l) : Held b c s₀ M0 G ρ' mus s :=
  ⟨H.same, H.pos, H.keep, H.base, H.m0, H.ns, H.nsHi, H.cells, H.apart, fun x l e => H.vars x l (h x l e), H.lt, H.muts, H.musApart, H.guard⟩
theorem Ex.drop {ρ' : Rho} {es : List Stmt} {K : Rho → Mus → Prop} {R : LV → Prop} (h : ∀ x l, ρ' x = some l → ρ x = some l) (hr : Ex b c s₀ M0 G ρ' mus es K R) : Ex b c s₀ M0 G ρ mus es K R := .mk fun s E H => hr.wp s E (H.drop h)

/-- x = [] -/
theorem Ex.newList {n : Nat} (ok : CxOk b n c) {x : PySem.Str} {px lp pos : Pos} {rest : List Stmt} {K : Rho → Mus → Prop} {R : LV → Prop}
    (hx : c.env.kindOf x = some .local ∨ (c.env.kindOf x = some .cell ∧ (c.env.cells.lookup x).isSome = true))
    (hr : ∀ a, Ex b c s₀ M0 G (upd ρ x (.r (.ref a))) ((a, .lst []) :: mus) rest K R) : Ex b c s₀ M0 G ρ mus (.Assign [.Name x px] (.List [] lp) pos :: rest) K R := .mk fun s E H => by
  refine wpAny_execs_cons (wpAny_Assign_Name (wpAny_List (wpAny_items_nil ⟨by decide, ?_⟩)) rfl)
  have H' := H.newMut (o := { cls := .type "list", data := .seq ([] : List Value).toArray }) (m := .lst []) ⟨#[], 0, Heap.get?_push_size _ rfl, RepAll.nil⟩ (Heap.get?_push_size _ rfl)
  exact storeK ok H' hx (l := .r (.ref s.heap.objs.size)) rfl fun s' H'' => (hr _).wp s' E H''
/-- x = {} -/
theorem Ex.newDict {n : Nat} (ok : CxOk b n c) {x : PySem.Str} {px lp pos : Pos} {rest : List Stmt} {K : Rho → Mus → Prop} {R : LV → Prop}
    (hx : c.env.kindOf x = some .local ∨ (c.env.kindOf x = some .cell ∧ (c.env.cells.lookup x).isSome = true)) (hsys : ∃ o, b.h₀.get? sysModules = some o)
    (hr : ∀ a, Ex b c s₀ M0 G (upd ρ x (.r (.ref a))) ((a, .dct []) :: mus) rest K R) : Ex b c s₀ M0 G ρ mus (.Assign [.Name x px] (.Dict [] [] lp) pos :: rest) K R := .mk fun s E H => by
  refine wpAny_execs_cons (wpAny_Assign_Name ?_ rfl)
  rw [eval_Dict_empty]
  refine wpAny_bind (wpAny_standAt (wpAny_newObj_type ?_))
  have nsm : (s.heap.objs.size == sysModules) = false := by
    obtain ⟨o, e⟩ := hsys
    have := Heap.lt_size (H.keep _ _ (H.base _ _ e))
    simpa using Nat.ne_of_gt this
  have H' := H.newMut (o := { cls := .type "dict", data := .dict #[] }) (m := .dct []) ⟨nsm, [], Heap.DictOf.new _, rfl, RepAll.nil⟩ (Heap.get?_push_size _ rfl)
  exact storeK ok H' hx (l := .r (.ref s.heap.objs.size)) rfl fun s' H'' => (hr _).wp s' E H''
/-- x = y.append -/
theorem Ex.bindAppend {n : Nat} (ok : CxOk b n c) {x y : PySem.Str} {px py ap pos : Pos} {rest : List Stmt} {K : Rho → Mus → Prop} {R : LV → Prop} {a : Addr} {xs : List PyData}
    (hx : c.env.kindOf x = some .local ∨ (c.env.kindOf x = some .cell ∧ (c.env.cells.lookup x).isSome = true)) (hy : ρ y = some (.r (.ref a))) (ha : (a, MV.lst xs) ∈ mus) (hd : (y == ("__debug__" : PySem.Str)) = false)
    (hr : ∀ m, Ex b c s₀ M0 G (upd ρ x (.r (.ref m))) ((m, .obj (boundAppend a)) :: mus) rest K R) : Ex b c s₀ M0 G ρ mus (.Assign [.Name x px] (.Attribute (.Name y py) "append" ap) pos :: rest) K R := .mk fun s E H => by
  refine wpAny_execs_cons (wpAny_Assign_Name ?_ rfl)
  rw [arm_eval_Attribute]
  refine wpAny_bind (wpAny_mono ((Ev.nameR ok hy hd).wp s E H.hold) (fun v s₁ g => ?_) fun _ _ x => x)
  obtain ⟨g1, e⟩ := g
  have e : v = .ref a := e
  subst e
  have H₁ := H.grows g1
  obtain ⟨_, _, _, vs, k, ho, _⟩ := H₁.muts _ ha
  refine wpAny_bind (wpAny_standAt (wpAny_bind (wpAny_holding (append_attr (vs := vs) (n := k) ho ?_))))
  have H' := H₁.newMut' (o := boundAppend a) (m := .obj (boundAppend a)) (tk := s₁.toks + 1) (Nat.le_succ _) (Heap.get?_push_size _ rfl) (Heap.get?_push_size _ rfl)
  exact wpAny_bind (wpAny_letTemporaryGo (wpAny_pure (storeK ok H' hx (l := .r (.ref s₁.heap.objs.size)) rfl fun s' H'' => (hr _).wp s' E H'')))
/-- f(e), f a bound append -/
theorem Ex.appendB {n : Nat} (ok : CxOk b n c) {f : PySem.Str} {pf cp pos : Pos} {e : Expr} {rest : List Stmt} {K : Rho → Mus → Prop} {R : LV → Prop} {a m : Addr} {xs : List PyData} {d : PyData} {l₁ l₂ : Mus}
    (hf : ρ f = some (.r (.ref m))) (hm : (m, MV.obj (boundAppend a)) ∈ l₁ ++ (a, .lst xs) :: l₂) (hd : (f == ("__debug__" : PySem.Str)) = false)
    (he : Evs b c (MuOf c (l₁ ++ (a, .lst xs) :: l₂) M0) ρ [e] [d]) (hsz : xs.length ≤ sizeLine)
    (hr : Ex b c s₀ M0 G ρ (l₁ ++ (a, .lst (xs ++ [d])) :: l₂) rest K R) : Ex b c s₀ M0 G ρ (l₁ ++ (a, .lst xs) :: l₂) (.Expr (.Call (.Name f pf) [e] [] cp) pos :: rest) K R := .mk fun s E H => by
  refine wpAny_execs_cons (wpAny_Expr (wpAny_Call_NameR (wpAny_mono ((Ev.nameR ok hf hd).wp s E H.hold) (fun v s₁ g => ?_) fun _ _ x => x)) ?_ rfl)
  · obtain ⟨g1, ev⟩ := g
    have ev : v = .ref m := ev
    subst ev
    refine callWith_boundAppend (a := a) (star_plain he cp) (wpAny_mono (evalArgs_wp he cp s₁ E (H.grows g1).hold) (fun z s₂ g₂ => ?_) fun _ _ x => x)
    obtain ⟨g2, hk, ra⟩ := g₂
    have H₂ := H.grows (g1.trans g2)
    have hm' := (H₂.muts _ hm).2.2.2
    obtain ⟨_, _, _, vs, k, ho, rv⟩ := H₂.muts (a, .lst xs) (by simp)
    refine ⟨hm', ?_⟩
    rw [hk]
    obtain ⟨v, ez, rd⟩ := ra.one_inv
    rw [ez]
    have e1 : vs.size = xs.length := by rw [← rv.length]; simp
    refine bound_call hm' ho (by omega) fun h' hn hs => ?_
    have st : KeepsH (hideAll s₂.heap (MuOf c (l₁ ++ (a, .lst xs) :: l₂) M0)) (hideAll h' (MuOf c (l₁ ++ (a, .lst xs) :: l₂) M0)) := fun z o q =>
      hideAll_get _ (hs.extBut z o (fun r => hide_notin q (r ▸ by simp [MuOf])) (of_hideAll _ q)) (hide_notin q)
    have st' : Stays (MuOf c (l₁ ++ (a, .lst xs) :: l₂) M0) (MuOf c (l₁ ++ (a, .lst xs) :: l₂) M0) s₂.heap h' := fun z o n q => ⟨n, hs.extBut z o (fun r => n (r ▸ by simp [MuOf])) q⟩
    exact hr.wp _ E (H₂.mutate (Nat.le_refl _) (fun z o hz q => hs.extBut z o hz q) ⟨_, hn⟩ ⟨vs.push v, k + 1, hn, by rw [Array.toList_push]; exact (rv.mono st').append (.cons (rd.mono st') .nil)⟩)
  · show interactive c.env = false
    unfold interactive
    simp [ok.kind]
end
end Mine
end
section
open PySem PySem.W PyProof.Rows
set_option autoImplicit false
set_option linter.unusedVariables false
namespace Mine

section
variable {b : Base} {c : Cx} {s₀ : Shared} {M0 : List Addr} {G : List (Addr × Obj)} {ρ : Rho} {mus : Mus}

/-- y.append(e) -/
theorem Ex.appendM {n : Nat} (ok : CxOk b n c) {y : PySem.Str} {py ap cp pos : Pos} {e : Expr} {rest : List Stmt} {K : Rho → Mus → Prop} {R : LV → Prop} {a : Addr} {xs : List PyData} {d : PyData} {l₁ l₂ : Mus}
    (hy : ρ y = some (.r (.ref a))) (hd : (y == ("__debug__" : PySem.Str)) = false) (hline : (ap.endLine == cp.line) = true)
    (hfew : ((backTo cp (starEach [e] c.env)).all (fun x => !x.1) && (backToKw cp (keywordEach [] c.env)).all (fun x => x.1.isSome) && decide (1 + 0 + 0 < 30)) = true)
    (he : Evs b c (MuOf c (l₁ ++ (a, .lst xs) :: l₂) M0) ρ [e] [d]) (hsz : xs.length ≤ sizeLine)
    (hr : Ex b c s₀ M0 G ρ (l₁ ++ (a, .lst (xs ++ [d])) :: l₂) rest K R) : Ex b c s₀ M0 G ρ (l₁ ++ (a, .lst xs) :: l₂) (.Expr (.Call (.Attribute (.Name y py) "append" ap) [e] [] cp) pos :: rest) K R := .mk fun s E H => by
  refine wpAny_execs_cons (wpAny_Expr (wpAny_Call_method rfl hfew hline PySem.F.plainAttrs_list PySem.F.slot_list_append type_list_append (wpAny_mono ((Ev.nameR ok hy hd).wp s E H.hold) (fun v s₁ g => ?_) fun _ _ x => x)) ?_ rfl)
  · obtain ⟨g1, ev⟩ := g
    have ev : v = .ref a := ev
    subst ev
    obtain ⟨_, _, _, vs, k, ho, rv⟩ := (H.grows g1).muts (a, .lst xs) (by simp)
    refine ⟨⟨_, ho, rfl⟩, fun z ez => by cases ez; exact ⟨_, ho, rfl⟩, Calls.callWith_builtin (star_plain he cp) (wpAny_mono (evalArgs_wp he cp s₁ E (H.grows g1).hold) (fun z s₂ g₂ => ?_) fun _ _ x => x)⟩
    obtain ⟨g2, hk, ra⟩ := g₂
    have H₂ := H.grows (g1.trans g2)
    obtain ⟨_, _, _, vs, k, ho, rv⟩ := H₂.muts (a, .lst xs) (by simp)
    rw [hk]
    obtain ⟨v, ez, rd⟩ := ra.one_inv
    rw [ez]
    have e1 : vs.size = xs.length := by rw [← rv.length]; simp
    refine wpAny_list_append_plain (hsz := by omega) ⟨k, ho⟩ fun h' hn hs => ?_
    obtain ⟨k', hn⟩ := hn
    have st' : Stays (MuOf c (l₁ ++ (a, .lst xs) :: l₂) M0) (MuOf c (l₁ ++ (a, .lst xs) :: l₂) M0) s₂.heap h' := fun z o n q => ⟨n, hs.extBut z o (fun r => n (r ▸ by simp [MuOf])) q⟩
    exact hr.wp _ E (H₂.mutate (Nat.le_refl _) (fun z o hz q => hs.extBut z o hz q) ⟨_, hn⟩ ⟨vs.push v, k', hn, by rw [Array.toList_push]; exact (rv.mono st').append (.cons (rd.mono st') .nil)⟩)
  · show interactive c.env = false
    unfold interactive
    simp [ok.kind]

noncomputable def putS (es : List (PySem.Str × PyData)) (k : PySem.Str) (d : PyData) : List (PySem.Str × PyData) :=
  if es.any (fun p => p.1 = k) then es.map (fun p => if p.1 = k then (p.1, d) else p) else es ++ [(k, d)]
theorem stored_keys (kvs : List (PySem.Str × Value)) (es : List (PySem.Str × PyData)) (k : PySem.Str) (v : Value) (d : PyData) (h : kvs.map (·.1) = es.map (·.1)) : (stored kvs k v).map (·.1) = (putS es k d).map (·.1) := by
  have e : kvs.any (fun kv => kv.1 = k) = es.any (fun p => p.1 = k) := by
    have h1 : kvs.any (fun kv => kv.1 = k) = (kvs.map (·.1)).any (fun x => x = k) := by rw [List.any_map]; rfl
    have h2 : es.any (fun kv => kv.1 = k) = (es.map (·.1)).any (fun x => x = k) := by rw [List.any_map]; rfl
    rw [h1, h2, h]
  unfold stored putS
  rw [e]
  split
  · have e1 : (kvs.map fun kv => if kv.1 = k then (kv.1, v) else kv).map (·.1) = kvs.map (·.1) := by rw [List.map_map]; apply List.map_congr_left; intro x _; simp only [Function.comp]; split <;> rfl
    have e2 : (es.map fun kv => if kv.1 = k then (kv.1, d) else kv).map (·.1) = es.map (·.1) := by rw [List.map_map]; apply List.map_congr_left; intro x _; simp only [Function.comp]; split <;> rfl
    rw [e1, e2, h]
  · simp [h]
theorem rep_map {Mu : List Addr} {h : Heap} {k : PySem.Str} {v : Value} {d : PyData} (rd : Rep Mu h v d) : ∀ (kvs : List (PySem.Str × Value)) (es : List (PySem.Str × PyData)), kvs.map (·.1) = es.map (·.1) → RepAll Mu h (kvs.map (·.2)) (es.map (·.2)) →
    RepAll Mu h ((kvs.map fun kv => if kv.1 = k then (kv.1, v) else kv).map (·.2)) ((es.map fun kv => if kv.1 = k then (kv.1, d) else kv).map (·.2))
  | [], [], _, _ => .nil
  | [], _ :: _, e, _ => by simp at e
  | _ :: _, [], e, _ => by simp at e
  | (k1, v1) :: kvs, (k2, d2) :: es, e, r => by
    simp only [List.map_cons, List.cons.injEq] at e
    obtain ⟨e1, e2⟩ := e
    subst e1
    obtain ⟨v', r', hv, p, q⟩ := r.cons_inv
    simp only [List.map_cons, List.cons.injEq] at hv
    obtain ⟨rfl, rfl⟩ := hv
    have ih := rep_map (k := k) rd kvs es e2 q
    by_cases hk : k1 = k
    · simp only [List.map_cons, if_pos hk]; exact RepAll.cons rd ih
    · simp only [List.map_cons, if_neg hk]; exact RepAll.cons p ih
theorem stored_rep {Mu : List Addr} {h : Heap} {kvs : List (PySem.Str × Value)} {es : List (PySem.Str × PyData)} {k : PySem.Str} {v : Value} {d : PyData} (hk : kvs.map (·.1) = es.map (·.1)) (r : RepAll Mu h (kvs.map (·.2)) (es.map (·.2))) (rd : Rep Mu h v d) :
    RepAll Mu h ((stored kvs k v).map (·.2)) ((putS es k d).map (·.2)) := by
  have e : kvs.any (fun kv => kv.1 = k) = es.any (fun p => p.1 = k) := by
    have h1 : kvs.any (fun kv => kv.1 = k) = (kvs.map (·.1)).any (fun x => x = k) := by rw [List.any_map]; rfl
    have h2 : es.any (fun kv => kv.1 = k) = (es.map (·.1)).any (fun x => x = k) := by rw [List.any_map]; rfl
    rw [h1, h2, hk]
  unfold stored putS
  rw [e]
  split
  · exact rep_map rd kvs es hk r
  · simp only [List.map_append, List.map_cons, List.map_nil]
    exact r.append (.cons rd .nil)

/-- y[k] = v, y a dict of texts that still turns -/
theorem Ex.setItem {n : Nat} (ok : CxOk b n c) {y : PySem.Str} {py sp pos : Pos} {ke ve : Expr} {rest : List Stmt} {K : Rho → Mus → Prop} {R : LV → Prop} {a : Addr} {xs : List (PySem.Str × PyData)} {k : PySem.Str} {d : PyData} {l₁ l₂ : Mus}
    (hy : ρ y = some (.r (.ref a))) (hd : (y == ("__debug__" : PySem.Str)) = false) (hsw : swapsWith ve (some (.Subscript (.Name y py) ke sp)) pos.line c.env = pure false)
    (hv : Ev b c (MuOf c (l₁ ++ (a, .dct xs) :: l₂) M0) ρ ve (.d d)) (hk : Ev b c (MuOf c (l₁ ++ (a, .dct xs) :: l₂) M0) ρ ke (.d (.str k))) (hsz : xs.length ≤ sizeLine)
    (hr : Ex b c s₀ M0 G ρ (l₁ ++ (a, .dct (putS xs k d)) :: l₂) rest K R) : Ex b c s₀ M0 G ρ (l₁ ++ (a, .dct xs) :: l₂) (.Assign [.Subscript (.Name y py) ke sp] ve pos :: rest) K R := .mk fun s E H => by
  refine wpAny_execs_cons (wpAny_Assign_Subscript (wpAny_mono (hv.wp s E H.hold) (fun v s₁ g₁ => wpAny_mono ((Ev.nameR ok hy hd).wp s₁ E (H.grows g₁.1).hold) (fun o s₂ g₂ =>
    wpAny_mono (hk.wp s₂ E (H.grows (g₁.1.trans g₂.1)).hold) (fun kv s₃ g₃ => ?_) fun _ _ x => x) fun _ _ x => x) fun _ _ x => x) hsw)
  have eo : o = .ref a := g₂.2
  subst eo
  obtain ⟨t, rfl⟩ := Rep.str_inv g₃.2
  have H₃ := H.grows ((g₁.1.trans g₂.1).trans g₃.1)
  obtain ⟨_, _, _, nsm, kvs, hdo, hks, rv⟩ := H₃.muts (a, .dct xs) (by simp)
  have rd : Rep (MuOf c (l₁ ++ (a, .dct xs) :: l₂) M0) s₃.heap v d := RepL.keeps (b := b) (l := .d d) (g₂.1.trans g₃.1).keeps g₁.2
  have el : kvs.length = xs.length := by have := congrArg List.length hks; simpa using this
  refine wpAny_setItem_pairs (knd := PySem.strKind b.prog b.w) (k := k) (by simp [PySem.strKind, Value.isStrOf]) hdo (fun h' hn hs => ?_) (hsz := by omega)
  have st' : Stays (MuOf c (l₁ ++ (a, .dct xs) :: l₂) M0) (MuOf c (l₁ ++ (a, .dct xs) :: l₂) M0) s₃.heap h' := fun z o n q => ⟨n, hs.extBut z o (fun r => n (r ▸ by simp [MuOf])) q⟩
  refine hr.wp _ E (H₃.mutate (Nat.le_succ _) (fun z o hz q => hs.extBut z o hz q) (let ⟨o, _, _, e, _⟩ := hn; ⟨o, e⟩) ⟨nsm, _, hn, stored_keys _ _ _ _ _ hks, ?_⟩)
  exact stored_rep hks (rv.mono st') (rd.mono st')

/-- x, y = e -/
theorem Ex.assign2 {n : Nat} (ok : CxOk b n c) {x y : PySem.Str} {px py tp pos : Pos} {k : Nat} {e : Expr} {d₁ d₂ : PyData} {rest : List Stmt} {K : Rho → Mus → Prop} {R : LV → Prop}
    (he : Ev b c (MuOf c mus M0) ρ e (.d (.list [d₁, d₂])) ∨ Ev b c (MuOf c mus M0) ρ e (.d (.tuple [d₁, d₂]))) (ha : isAtom d₁ = true) (hb : isAtom d₂ = true)
    (hx : c.env.kindOf x = some .local ∨ (c.env.kindOf x = some .cell ∧ (c.env.cells.lookup x).isSome = true)) (hy : c.env.kindOf y = some .local ∨ (c.env.kindOf y = some .cell ∧ (c.env.cells.lookup y).isSome = true))
    (hsw : swapsWithSole [.Tuple [.Name x px, .Name y py] k tp] e pos.line c.env = pure false) (hst : swappedStores [.Tuple [.Name x px, .Name y py] k tp] e c.env = pure none)
    (hr : Ex b c s₀ M0 G (upd (upd ρ x (.d d₁)) y (.d d₂)) mus rest K R) : Ex b c s₀ M0 G ρ mus (.Assign [.Tuple [.Name x px, .Name y py] k tp] e pos :: rest) K R := .mk fun s E H => by
  have stores : ∀ (v w : Value) (s₁ : Shared), Held b c s₀ M0 G ρ mus s₁ → AtomV v d₁ → AtomV w d₂ →
      wpAny (model b.prog b.w) c.A (assignInOrder [PySem.assign (Expr.Name x px) c.env, PySem.assign (Expr.Name y py) c.env] [v, w]) (fun _ s' => wpAny (model b.prog b.w) c.A (execs rest c.env) (fun f s' => match f with
      | .next => ∃ ρ' mus', K ρ' mus' ∧ Held b c s₀ M0 G ρ' mus' s'
      | .ret v => ∃ l, R l ∧ Grows s₀ s' ∧ RepL b M0 s'.heap v l
      | _ => False) E s') E s₁ := fun v w s₁ H₁ rv rw => by
    show wpAny _ _ (holding [w] (PySem.assign (Expr.Name x px) c.env v) >>= fun _ => (holding [] (PySem.assign (Expr.Name y py) c.env w) >>= fun _ => pure ())) _ _ _
    refine wpAny_bind (wpAny_holding (wpAny_assign_Name ?_))
    refine storeK ok H₁ hx (l := .d d₁) (rv _ _) fun s₂ H₂ => ?_
    refine wpAny_bind (wpAny_holding (wpAny_assign_Name ?_))
    exact storeK ok H₂ hy (l := .d d₂) (rw _ _) fun s₃ H₃ => wpAny_pure (hr.wp s₃ E H₃)
  refine wpAny_execs_cons (wpAny_Assign_stores ?_ hsw hst)
  show wpAny _ _ _ (fun v s₁ => wpAny _ _ (PySem.assign (Expr.Tuple [Expr.Name x px, Expr.Name y py] k tp) c.env v) _ _ s₁) _ _
  rcases he with he | he
  · refine wpAny_mono (he.wp s E H.hold) (fun v s₁ g => ?_) fun _ _ x => x
    have H₁ := H.grows g.1
    obtain ⟨a, vs, rfl, hm, hl, ra, e⟩ := Rep.isList g.2
    obtain ⟨v₁, v₂, ev, r1, r2⟩ := ra.two_inv
    have r1 := AtomV.of r1 ha
    have r2 := AtomV.of r2 hb
    rw [PyProof.Rows.assign_Tuple]
    refine wpAny_bind (wpAny_standAt ?_)
    unfold unpack
    have hlen : (assignEach [Expr.Name x px, Expr.Name y py] c.env).length = vs.size := by rw [e]; rfl
    rw [hlen, show (assignEach [Expr.Name x px, Expr.Name y py] c.env).findIdx? (·.1) = none from rfl]
    refine wpAny_bind (wpAny_holding (kun_itemsOf ok.room.hand hl fun h' he => ?_))
    rw [ev]
    have H₂ : Held b c s₀ M0 G ρ mus { s₁ with heap := h' } := H₁.grows (Grows.of (tk := s₁.toks) (fun z o q => he z o (Nat.ne_of_lt (Heap.lt_size q)) q) (Nat.le_refl _))
    exact stores v₁ v₂ _ H₂ r1 r2
  · refine wpAny_mono (he.wp s E H.hold) (fun v s₁ g => ?_) fun _ _ x => x
    have H₁ := H.grows g.1
    obtain ⟨a, o, vs, m, rfl, hm, ho, hc, hd, ra⟩ := Rep.tuple_inv g.2
    have e : vs.size = 2 := by have := ra.length; simpa using this
    obtain ⟨v₁, v₂, ev, r1, r2⟩ := ra.two_inv
    have r1 := AtomV.of r1 ha
    have r2 := AtomV.of r2 hb
    refine assign_Tuple_tuple (items := vs) ok.room.hand ⟨o, ho, hc, m, hd⟩ (by rw [e]; rfl) rfl fun h' he => ?_
    rw [ev]
    have H₂ : Held b c s₀ M0 G ρ mus { s₁ with heap := h' } := H₁.grows (Grows.of (tk := s₁.toks) (fun z o q => he z o (Nat.ne_of_lt (Heap.lt_size q)) q) (Nat.le_refl _))
    exact stores v₁ v₂ _ H₂ r1 r2

/-- while -/
theorem Sx.while {test : Expr} {body : List Stmt} {pos : Pos} {K : Rho → Mus → Prop} {R : LV → Prop} (Inv : Nat → Rho → Mus → Prop) (k : Nat) (h0 : Inv k ρ mus)
    (turn : ∀ k ρ' mus', Inv k ρ' mus' → ∃ t, Te b c (MuOf c mus' M0) ρ' test t ∧ (t = true → Ex b c s₀ M0 G ρ' mus' body (fun ρ'' mus'' => ∃ j, j < k ∧ Inv j ρ'' mus'') R) ∧ (t = false → K ρ' mus')) :
    Sx b c s₀ M0 G ρ mus (.While test body [] pos) K R := .mk fun s E H => by
  refine wpAny_While (codeAny_whileLoop (fun k s => ∃ ρ' mus', Inv k ρ' mus' ∧ Held b c s₀ M0 G ρ' mus' s) ?_ k ⟨ρ, mus, h0, H⟩)
  rintro k s₁ ⟨ρ', mus', hi, H₁⟩
  obtain ⟨t, ht, h1, h2⟩ := turn k ρ' mus' hi
  refine wpAny_mono (ht.wp s₁ _ H₁.hold) (fun v s₂ g => ?_) fun _ _ x => x
  obtain ⟨g2, rfl⟩ := g
  have H₂ := H₁.grows g2
  cases v with
  | true =>
    simp only [if_true]
    refine wpAny_mono ((h1 rfl).wp s₂ _ H₂) (fun f s₃ g => ?_) fun _ _ x => x
    cases f with
    | next => obtain ⟨ρ'', mus'', ⟨j, hj, hi'⟩, H₃⟩ := g; exact ⟨j, hj, ρ'', mus'', hi', H₃⟩
    | ret v => exact g
    | brk => exact g.elim
    | cont => exact g.elim
  | false =>
    simp only [Bool.false_eq_true, if_false]
    exact wpAny_execs_nil ⟨ρ', mus', h2 rfl, H₂⟩

theorem Held.guardMore {s : Shared} {G₂ : List (Addr × Obj)} (H : Held b c s₀ M0 G ρ mus s) (h : ∀ p ∈ G₂, p.1 ∉ MuOf c mus M0 ∧ s.heap.get? p.1 = some p.2) : Held b c s₀ M0 (G₂ ++ G) ρ mus s :=
  ⟨H.same, H.pos, H.keep, H.base, H.m0, H.ns, H.nsHi, H.cells, H.apart, H.vars, H.lt, H.muts, H.musApart, fun p hp => (List.mem_append.mp hp).elim (h p) (H.guard p)⟩
theorem Held.guardLess {s : Shared} {G₂ : List (Addr × Obj)} (H : Held b c s₀ M0 (G₂ ++ G) ρ mus s) : Held b c s₀ M0 G ρ mus s :=
  ⟨H.same, H.pos, H.keep, H.base, H.m0, H.ns, H.nsHi, H.cells, H.apart, H.vars, H.lt, H.muts, H.musApart, fun p hp => H.guard p (List.mem_append.mpr (.inr hp))⟩

/-- a turning thing is forgotten -/
theorem Held.forget {s : Shared} {a : Addr} {m : MV} (H : Held b c s₀ M0 G ρ ((a, m) :: mus) s) : Held b c s₀ M0 G ρ mus s := by
  have sub : ∀ z ∈ MuOf c mus M0, z ∈ MuOf c ((a, m) :: mus) M0 := fun z hz => by
    simp only [MuOf, List.map_cons, List.cons_append, List.append_assoc, List.mem_cons, List.mem_append] at hz ⊢
    rcases hz with h | h | h | h
    · exact .inl h
    · exact .inr (.inl h)
    · exact .inr (.inr (.inr (.inl h)))
    · exact .inr (.inr (.inr (.inr h)))
  have st : Stays (MuOf c ((a, m) :: mus) M0) (MuOf c mus M0) s.heap s.heap := .less sub
  refine ⟨H.same, H.pos, H.keep, H.base, H.m0, H.ns, H.nsHi, H.cells, H.apart, fun y l e => ?_, fun z hz => H.lt z (sub z hz), fun p hp => ?_, (List.nodup_cons.mp H.musApart).2, fun p hp => ?_⟩
  · obtain ⟨v, nu, ru⟩ := H.vars y l e; exact ⟨v, nu, ru.mono st⟩
  · obtain ⟨h1, h2, h3, h4⟩ := H.muts p (List.mem_cons_of_mem _ hp)
    exact ⟨h1, h2, h3, h4.mono st fun o e => e⟩
  · obtain ⟨u, w⟩ := H.guard p hp
    exact ⟨fun h => u (sub _ h), w⟩
/-- what was new from `s` to `s'` may turn -/
theorem Held.addMut {s s' : Shared} {a : Addr} {o : Obj} (H : Held b c s₀ M0 G ρ mus s) (g : Grows s s') (ha : s.heap.get? a = none) (hlo : s₀.heap.objs.size ≤ a) (ho : s'.heap.get? a = some o) : Held b c s₀ M0 G ρ ((a, .obj o) :: mus) s' := by
  have nin : a ∉ MuOf c mus M0 := fun hm => by obtain ⟨o, e⟩ := H.lt a hm; rw [ha] at e; cases e
  have mem : ∀ z, z ∈ MuOf c ((a, .obj o) :: mus) M0 ↔ z = a ∨ z ∈ MuOf c mus M0 := fun z => by
    simp only [MuOf, List.map_cons, List.cons_append, List.append_assoc, List.mem_cons, List.mem_append]
    constructor
    · rintro (h | h | h | h | h)
      · exact .inr (.inl h)
      · exact .inr (.inr (.inl h))
      · exact .inl h
      · exact .inr (.inr (.inr (.inl h)))
      · exact .inr (.inr (.inr (.inr h)))
    · rintro (h | h | h | h | h)
      · exact .inr (.inr (.inl h))
      · exact .inl h
      · exact .inr (.inl h)
      · exact .inr (.inr (.inr (.inl h)))
      · exact .inr (.inr (.inr (.inr h)))
  have st : Stays (MuOf c mus M0) (MuOf c ((a, .obj o) :: mus) M0) s.heap s'.heap := fun z o' n e =>
    ⟨fun h => ((mem z).mp h).elim (fun q => by rw [q, ha] at e; cases e) n, g.keeps _ _ e⟩
  have H' := H.grows g
  refine ⟨H'.same, H.pos, H'.keep, H.base, H.m0, H'.ns, H.nsHi, H'.cells, H.apart, fun x l e => ?_, ?_, fun p hp => ?_, ?_, fun p hp => ?_⟩
  · obtain ⟨v, n, r⟩ := H.vars x l e; exact ⟨v, n.keeps g.keeps, r.mono st⟩
  · intro z hz
    rcases (mem z).mp hz with rfl | hz
    · exact ⟨_, ho⟩
    · exact H'.lt z hz
  · rcases List.mem_cons.mp hp with rfl | hp
    · refine ⟨hlo, ?_, ?_, ho⟩
      · intro e; exact nin (by rw [show a = c.env.locals from e]; simp [MuOf])
      · intro e; exact nin (by simp only [MuOf, List.cons_append, List.mem_cons, List.mem_append]; exact .inr (.inl (.inl e)))
    · obtain ⟨h1, h2, h3, h4⟩ := H.muts p hp
      exact ⟨h1, h2, h3, h4.mono st fun o e => g.keeps _ _ e⟩
  · refine List.nodup_cons.mpr ⟨fun e => nin (by simp only [MuOf, List.cons_append, List.mem_cons, List.mem_append]; exact .inr (.inl (.inr e))), H.musApart⟩
  · obtain ⟨u, w⟩ := H.guard p hp
    exact ⟨fun h => ((mem _).mp h).elim (fun q => by rw [q, ha] at w; cases w) u, g.keeps _ _ w⟩

/-- it has turned once more, and is forgotten -/
theorem Held.letGo {s : Shared} {a : Addr} {m : MV} (H : Held b c s₀ M0 G ρ ((a, m) :: mus) s) {h' : Heap} {tk : Nat} (htk : s.toks ≤ tk) (hs : ∀ z o, z ≠ a → s.heap.get? z = some o → h'.get? z = some o) :
    Held b c s₀ M0 G ρ mus { s with heap := h', toks := tk } := by
  have sub : ∀ z ∈ MuOf c mus M0, z ∈ MuOf c ((a, m) :: mus) M0 := fun z hz => by
    simp only [MuOf, List.map_cons, List.cons_append, List.append_assoc, List.mem_cons, List.mem_append] at hz ⊢
    rcases hz with h | h | h | h
    · exact .inl h
    · exact .inr (.inl h)
    · exact .inr (.inr (.inr (.inl h)))
    · exact .inr (.inr (.inr (.inr h)))
  have ha : a ∈ MuOf c ((a, m) :: mus) M0 := by simp [MuOf]
  have st : Stays (MuOf c ((a, m) :: mus) M0) (MuOf c mus M0) s.heap h' := fun z o n e => ⟨fun h => n (sub z h), hs z o (fun q => n (q ▸ ha)) e⟩
  obtain ⟨p1, p2, p3, _⟩ := H.muts _ List.mem_cons_self
  have hnd := List.nodup_cons.mp H.musApart
  have na : ∀ z ∈ MuOf c mus M0, z ≠ a := fun z hz e => by
    subst e
    simp only [MuOf, List.cons_append, List.append_assoc, List.mem_cons, List.mem_append] at hz
    rcases hz with h | h | h | h
    · exact p2 h
    · exact p3 h
    · exact hnd.1 h
    · obtain ⟨o, e⟩ := H.m0.1 z h; exact absurd (Heap.lt_size e) (Nat.not_lt.mpr p1)
  obtain ⟨h0, t, rfl, l⟩ := H.same
  refine ⟨⟨h', tk, rfl, Nat.le_trans l htk⟩, H.pos, fun z o q => hs z o (Nat.ne_of_lt (Nat.lt_of_lt_of_le (Heap.lt_size q) p1)) (H.keep z o q), H.base, H.m0, ?_, H.nsHi, fun y f q => ?_, H.apart, fun y k q => ?_, fun z hz => ?_, fun p hp => ?_, hnd.2, fun p hp => ?_⟩
  · obtain ⟨m, o, es, ep, q, r⟩ := H.ns; exact ⟨m, o, es, ep, hs _ _ (Ne.symm p2) q, r⟩
  · obtain ⟨h1, h2, v, o, q', r⟩ := H.cells y f q
    exact ⟨h1, h2, v, o, hs _ _ (fun z => p3 (z ▸ List.mem_map.mpr ⟨(y, f), mem_of_lookup q, rfl⟩)) q', r⟩
  · obtain ⟨v, nu, ru⟩ := H.vars y k q
    refine ⟨v, ?_, ru.mono st⟩
    rcases nu with ⟨hk, m, ⟨o, es, ep, q', r⟩, w⟩ | ⟨hk, f, hf, o, q', r⟩
    · exact .inl ⟨hk, m, ⟨o, es, ep, hs _ _ (Ne.symm p2) q', r⟩, w⟩
    · exact .inr ⟨hk, f, hf, o, hs _ _ (fun z => p3 (z ▸ List.mem_map.mpr ⟨(y, f), mem_of_lookup hf, rfl⟩)) q', r⟩
  · obtain ⟨o, e⟩ := H.lt z (sub z hz); exact ⟨o, hs z o (na z hz) e⟩
  · obtain ⟨h1, h2, h3, h4⟩ := H.muts p (List.mem_cons_of_mem _ hp)
    exact ⟨h1, h2, h3, h4.mono st fun o e => hs _ o (fun q => hnd.1 (q ▸ List.mem_map.mpr ⟨p, hp, rfl⟩)) e⟩
  · obtain ⟨u, w⟩ := H.guard p hp
    exact ⟨fun h => u (sub _ h), hs _ _ (fun q => u (q ▸ ha)) w⟩

/-- for x in iter -/
theorem Sx.for {n : Nat} (ok : CxOk b n c) {x : PySem.Str} {px : Pos} {iter : Expr} {body : List Stmt} {pos : Pos} {K : Rho → Mus → Prop} {R : LV → Prop} {xs : List PyData}
    (src : Src b c (MuOf c mus M0) ρ iter xs)
    (hx : c.env.kindOf x = some .local ∨ (c.env.kindOf x = some .cell ∧ (c.env.cells.lookup x).isSome = true)) (hs : ∀ v, foldedSetIterable iter c.env v = pure v)
    (hlt : ∀ it v, letOwnedTupleGo (.Name x px) it v = pure ())
    (Inv : Nat → Rho → Mus → Prop) (h0 : Inv 0 ρ mus) (hsame : ∀ k ρ' mus', Inv k ρ' mus' → mus'.map (·.1) = mus.map (·.1))
    (turn : ∀ (G' : List (Addr × Obj)) (I : Addr) (o : Obj) k d ρ' mus', xs[k]? = some d → Inv k ρ' mus' → Ex b c s₀ M0 G' (upd ρ' x (.d d)) ((I, .obj o) :: mus') body (fun ρ'' mus'' => ∃ u, mus'' = (I, .obj o) :: u ∧ Inv (k + 1) ρ'' u) (fun _ => False))
    (fin : ∀ ρ' mus', Inv xs.length ρ' mus' → K ρ' mus') : Sx b c s₀ M0 G ρ mus (.For (.Name x px) iter body [] pos) K R := .mk fun s E H => by
  refine wpAny_For (wpAny_mono (src.wp s E H.hold) (fun xv s₁ h₁ => wpAny_mono h₁ (fun it s₂ h₂ => ?_) fun _ _ x => x) fun _ _ x => x) hs
  obtain ⟨g2, I, fp, P, St, rfl, hI0, W, hst, hfp, hmu, hP, hlive⟩ := h₂
  have hI : s.heap.get? I = Option.none := above_none hI0
  obtain ⟨o₀, ho₀⟩ := hlive _ _ hst
  have hIlo : s₀.heap.objs.size ≤ I := by
    obtain ⟨m, o, es, ep, e, _⟩ := H.ns
    exact Nat.le_of_lt (Nat.lt_of_le_of_lt H.nsHi (hI0 _ _ e))
  have H₂ := H.addMut g2 hI hIlo ho₀
  have hmuE : ∀ mus' : Mus, mus'.map (·.1) = mus.map (·.1) → MuOf c mus' M0 = MuOf c mus M0 := fun mus' e => by unfold MuOf; rw [e]
  have hIfp : I ∈ fp := W.sub I (by simp)
  refine codeAny_forLoop (fun k s' => ∃ i ρ' mus' o, k = xs.length - i ∧ i ≤ xs.length ∧ Inv i ρ' mus' ∧ Held b c s₀ M0 G ρ' ((I, .obj o) :: mus') s' ∧ St i s'.heap) ?_ xs.length ⟨0, ρ, mus, o₀, rfl, Nat.zero_le _, h0, H₂, hst⟩ (hlt _)
  rintro k s₃ ⟨i, ρ', mus', o, rfl, hi, hinv, H₃, st₃⟩
  by_cases hlt' : i < xs.length
  · refine wpAny_le (W.item i _ _ _ hlt' st₃ fun v h₄ tk hPv st₄ hk le => ?_)
    obtain ⟨d, hd, av⟩ := hP i v hPv
    obtain ⟨o₄, ho₄⟩ := hlive _ _ st₄
    have H₄ := H₃.mutate (l₁ := []) (m' := .obj o₄) (h' := h₄) (tk := tk) le (fun z o hz e => hk z o (by simpa using hz) e) ⟨_, ho₄⟩ ho₄
    -- what the iterator leans on
    have fpn : ∀ a ∈ fp, a ≠ I → a ∉ MuOf c (([] : Mus) ++ (I, MV.obj o₄) :: mus') M0 := fun a ha hne hm => by
      have := hmu a ha
      rw [← hmuE mus' (hsame i ρ' mus' hinv)] at this
      refine this ?_
      simp only [MuOf, List.nil_append, List.map_cons, List.cons_append, List.append_assoc, List.mem_cons, List.mem_append] at hm ⊢
      rcases hm with h | h | h | h | h
      · exact .inl h
      · exact .inr (.inl h)
      · exact absurd h hne
      · exact .inr (.inr (.inl h))
      · exact .inr (.inr (.inr h))
    let G₂ : List (Addr × Obj) := fp.filterMap fun a => if a = I then none else (h₄.get? a).map fun o => (a, o)
    have G₂mem : ∀ a ∈ fp, a ≠ I → ∀ o, h₄.get? a = some o → (a, o) ∈ G₂ := fun a ha hne o e => List.mem_filterMap.mpr ⟨a, ha, by rw [if_neg hne, e]; rfl⟩
    have H₄' := H₄.guardMore (G₂ := G₂) (fun p hp => by
      obtain ⟨a, ha, e⟩ := List.mem_filterMap.mp hp
      by_cases hne : a = I
      · rw [if_pos hne] at e; cases e
      · rw [if_neg hne] at e
        obtain ⟨o, eo, rfl⟩ := Option.map_eq_some_iff.mp e
        exact ⟨fpn a ha hne, eo⟩)
    refine wpAny_assign_Name (storeK ok H₄' hx (l := .d d) (av _ _) fun s₅ H₅ => ?_)
    refine wpAny_mono ((turn (G₂ ++ G) I o₄ i d ρ' mus' hd hinv).wp s₅ _ H₅) (fun f s₆ g => ?_) fun _ _ x => x
    cases f with
    | next =>
      obtain ⟨ρ'', mus'', ⟨u, rfl, hi'⟩, H₆⟩ := g
      refine ⟨xs.length - (i + 1), by omega, i + 1, ρ'', u, o₄, rfl, hlt', hi', H₆.guardLess, ?_⟩
      refine W.frame _ _ _ st₄ fun a ha o e => ?_
      by_cases hne : a = I
      · subst hne
        have e1 : h₄.get? a = some o := e
        rw [ho₄] at e1; cases e1
        exact (H₆.muts (a, .obj o₄) List.mem_cons_self).2.2.2
      · exact (H₆.guard (a, o) (List.mem_append.mpr (.inl (G₂mem a ha hne o e)))).2
    | ret v => obtain ⟨l, hl, _⟩ := g; exact hl.elim
    | brk => exact g.elim
    | cont => exact g.elim
  · have e : i = xs.length := by omega
    subst e
    refine wpAny_le (W.done _ _ _ st₃ fun h₄ tk hk le => ?_)
    exact wpAny_execs_nil ⟨ρ', mus', fin ρ' mus' hinv, H₃.letGo le fun z o hz e => hk z o (by simpa using hz) e⟩
end
end Mine
end
section
open PySem PySem.W PyProof.Rows
set_option autoImplicit false
set_option linter.unusedVariables false
namespace Mine

theorem bindL_skip (ko : PySem.Str → Option NameKind) (x : PySem.Str) : ∀ (bs : List (PySem.Str × Value)) (m : PySem.Str → Option Value), (∀ p ∈ bs, p.1 ≠ x) → bindL ko bs m x = m x
  | [], _, _ => rfl
  | (n, v) :: r, m, h => by
    rw [bindL, bindL_skip ko x r _ fun p hp => h p (List.mem_cons_of_mem _ hp)]
    have hn : x ≠ n := fun e => h (n, v) List.mem_cons_self e.symm
    split
    · exact if_neg hn
    · rfl
theorem bindC_skip (ko : PySem.Str → Option NameKind) (x : PySem.Str) : ∀ (bs : List (PySem.Str × Value)) (m : PySem.Str → Option Value), (∀ p ∈ bs, p.1 ≠ x) → bindC ko bs m x = m x
  | [], _, _ => rfl
  | (n, v) :: r, m, h => by
    rw [bindC, bindC_skip ko x r _ fun p hp => h p (List.mem_cons_of_mem _ hp)]
    have hn : x ≠ n := fun e => h (n, v) List.mem_cons_self e.symm
    split
    · rfl
    · exact if_neg hn

theorem bind_name {Mu : List Addr} {h : Heap} (ko : PySem.Str → Option NameKind) (x : PySem.Str) (d : PyData) : ∀ (names : List PySem.Str) (vs : List Value) (ds : List PyData) (m cm : PySem.Str → Option Value), names.Nodup → RepAll Mu h vs ds →
    names.length = ds.length → (names.zip ds).lookup x = some d → ∃ v, Rep Mu h v d ∧ (ko x = some .local → bindL ko (names.zip vs) m x = some v) ∧ (ko x ≠ some .local → bindC ko (names.zip vs) cm x = some v)
  | [], _, _, _, _, _, _, _, e => by simp at e
  | n :: ns, vs, [], _, _, _, _, hl, _ => by simp at hl
  | n :: ns, vs, d₁ :: ds, m, cm, hn, r, hl, e => by
    obtain ⟨v, r', rfl, p, q⟩ := r.cons_inv
    obtain ⟨hn1, hn2⟩ := List.nodup_cons.mp hn
    simp only [List.zip_cons_cons] at e ⊢
    rw [List.lookup_cons] at e
    cases hx : x == n with
    | true =>
      rw [hx] at e; cases e
      have hx' : x = n := by simpa using hx
      subst hx'
      have hs : ∀ p ∈ ns.zip r', p.1 ≠ x := fun p hp e => hn1 (e ▸ (List.of_mem_zip hp).1)
      refine ⟨v, p, fun hk => ?_, fun hk => ?_⟩
      · rw [bindL, bindL_skip _ _ _ _ hs, if_pos hk]; simp
      · rw [bindC, bindC_skip _ _ _ _ hs, if_neg hk]; simp
    | false =>
      rw [hx] at e
      obtain ⟨v', r1, r2, r3⟩ := bind_name ko x d ns r' ds (if ko n = some .local then fun y => if y = n then some v else m y else m) (if ko n = some .local then cm else fun y => if y = n then some v else cm y) hn2 q (by simpa using hl) e
      exact ⟨v', r1, fun hk => r2 hk, fun hk => r3 hk⟩

noncomputable def rhoOf (names : List PySem.Str) (ds : List PyData) : Rho := fun x => ((names.zip ds).lookup x).map LV.d

theorem call_cells {prog : Program} {w : World} {A : Around} {s : Shared} {R : Result → Shared → Prop} {a : Addr} {o : Obj} {fd : FuncData} {body : List Stmt} {vals : List Value} {binds : List (PySem.Str × Value)}
    (hroom : A.depth < recursionLimit) (ho : s.heap.get? a = some o) (hdata : o.data = .func fd) (hlim : s.heap.NoLimit) (hcd : s.heap.CodeRec fd.code fd.qualname)
    (hbody : fd.body = .stmts body) (hbind : BindsTo s fd ⟨vals, []⟩ binds) (hclo : fd.closure = [])
    (hkind : ∀ x ∈ binds, fd.scope.names.lookup x.1 = some .local ∨ (fd.scope.names.lookup x.1 = some .cell ∧ ((cellsFrom (s.heap.objs.size + 1) fd.scope.names []).lookup x.1).isSome = true))
    (h : ∀ s₁, s.toks ≤ s₁.toks → InCallC s (callEnvC fd s.heap.objs.size a).locals (bindL (callEnvC fd s.heap.objs.size a).kindOf binds fun _ => none) (callEnvC fd s.heap.objs.size a).cells
        (bindC (callEnvC fd s.heap.objs.size a).kindOf binds fun _ => none) s₁ →
      wpAny (model prog w) (A.deeper (callEnvC fd s.heap.objs.size a)) (execs body (callEnvC fd s.heap.objs.size a)) (fun f s' => R (.ok (.ret (match f with | .ret v => v | _ => .none))) s')
        (fun e s' => wpAny (model prog w) (A.deeper (callEnvC fd s.heap.objs.size a)) (leaving (callEnvC fd s.heap.objs.size a) e) (fun _ s'' => R (.error e) s'') (fun e' s'' => R (.error e') s'') s') s₁)
    (hco : fd.scope.isCoroutine = false) (hgen : fd.scope.isGenerator = false) (hk : fd.scope.kind = .function) :
    codeAny (model prog w) A (.call (.ref a) ⟨vals, []⟩) R s := by
  refine codeAny_call_function hroom ho hdata hco hgen hbody hcd ?_
  refine hbind _ _ _ _ ?_
  rw [hclo]
  refine (wpAny_le (wpAny_newFunctionEnv_cells hk hkind fun env he s' x le => ?_))
  subst he
  exact ⟨hlim.keeps x.toInCall.keep, codeAny_func (h s' le x)⟩

theorem cellsFrom_keys : ∀ (names : List (PySem.Str × NameKind)) (n : Nat) (acc : List (PySem.Str × Addr)), (cellsFrom n names acc).map (·.1) = ((names.filter (·.2 == .cell)).map (·.1)).reverse ++ acc.map (·.1)
  | [], _, _ => rfl
  | (x, k) :: r, n, acc => by
    unfold cellsFrom
    cases hk : k == NameKind.cell
    · simp only [Bool.false_eq_true, if_false]
      rw [cellsFrom_keys r n acc, List.filter_cons_of_neg (by simp [hk])]
    · simp only [if_true]
      rw [cellsFrom_keys r (n + 1), List.filter_cons_of_pos (by simp [hk])]
      simp
theorem lookup_of_mem {α : Type} : ∀ {l : List (PySem.Str × α)} {n : PySem.Str} {a : α}, (l.map (·.1)).Nodup → (n, a) ∈ l → l.lookup n = some a
  | (k, v) :: r, n, a, hn, hm => by
    simp only [List.map_cons] at hn
    obtain ⟨h1, h2⟩ := List.nodup_cons.mp hn
    rw [List.lookup_cons]
    rcases List.mem_cons.mp hm with e | hm
    · cases e; simp
    · have hne : (n == k) = false := by
        cases hb : n == k with
        | false => rfl
        | true => exact absurd (by have : n = k := by simpa using hb
                                   exact this ▸ List.mem_map.mpr ⟨(n, a), hm, rfl⟩) h1
      rw [hne]; exact lookup_of_mem h2 hm

/-- what a def leaves on the heap -/
structure DefAt (b : Base) (a : Addr) (fd : FuncData) (body : List Stmt) : Prop where
  at' : ∃ o, b.h₀.get? a = some o ∧ o.data = .func fd
  code : b.h₀.CodeRec fd.code fd.qualname
  body : fd.body = .stmts body
  globals : fd.globals = mainGlobals
  builtins : fd.builtins = builtinsNs
  clo : fd.closure = []
  co : fd.scope.isCoroutine = false
  gen : fd.scope.isGenerator = false
  kind : fd.scope.kind = .function

theorem Fun.of {b : Base} (B : BaseOk b) {a : Addr} {fd : FuncData} {body : List Stmt} (D : DefAt b a fd body) {n : Nat} {names : List PySem.Str} {dv : List Value} {ds dd : List PyData} {l : LV}
    (hdv : ∀ Mu h, RepAll Mu h dv dd) (hbind : ∀ (s : Shared) (vs : List Value), KeepsH b.h₀ s.heap → vs.length = ds.length → BindsTo s fd ⟨vs, []⟩ (names.zip (vs ++ dv)))
    (hn : names.Nodup) (hl : names.length = (ds ++ dd).length) (hcn : ((fd.scope.names.filter (·.2 == .cell)).map (·.1)).Nodup)
    (hk : ∀ x ∈ names, fd.scope.names.lookup x = some .local ∨ (fd.scope.names.lookup x = some .cell ∧ x ∈ (fd.scope.names.filter (·.2 == .cell)).map (·.1)))
    (h : ∀ (A : Around) (L : Addr) (s₀ : Shared) (M0 : List Addr), CxOk b n ⟨A, callEnvC fd L a⟩ → Ex b ⟨A, callEnvC fd L a⟩ s₀ M0 [] (rhoOf names (ds ++ dd)) [] body (fun _ _ => False) (fun l' => l' = l)) :
    Fun b (.ref a) ds n l := by
  obtain ⟨o, ho, hd⟩ := D.at'
  refine ⟨a, o, fd, rfl, ho, hd, fun A Mu s E vs R hp hhi hb hL ra => ?_⟩
  have hvl : vs.length = ds.length := ra.length
  have ra' : RepAll Mu s.heap (vs ++ dv) (ds ++ dd) := ra.append (hdv Mu s.heap)
  have hkeys : ∀ m, (cellsFrom m fd.scope.names []).map (·.1) = ((fd.scope.names.filter (·.2 == .cell)).map (·.1)).reverse := fun m => by rw [cellsFrom_keys]; simp
  have hcn' : ∀ m, ((cellsFrom m fd.scope.names []).map (·.1)).Nodup := fun m => by rw [hkeys]; simpa [List.Nodup, List.pairwise_reverse, ne_comm] using hcn
  have hsome : ∀ m x, x ∈ (fd.scope.names.filter (·.2 == .cell)).map (·.1) → ((cellsFrom m fd.scope.names []).lookup x).isSome = true := fun m x hx => by
    have : x ∈ (cellsFrom m fd.scope.names []).map (·.1) := by rw [hkeys]; exact List.mem_reverse.mpr hx
    obtain ⟨⟨y, c⟩, hm, rfl⟩ := List.mem_map.mp this
    rw [lookup_of_mem (hcn' m) hm]; rfl
  refine wpAny_call ?_
  refine call_cells (by have := R.depth; omega) (hb _ _ ho) hd (B.nolimit.keeps hb) (D.code.keeps hb) D.body (hbind s vs hb hvl) D.clo (fun x hx => ?_) (fun s₁ le X => ?_) D.co D.gen D.kind
  · have hx1 : x.1 ∈ names := (List.of_mem_zip (show (x.1, x.2) ∈ names.zip (vs ++ dv) from hx)).1
    exact (hk x.1 hx1).imp id fun ⟨h1, h2⟩ => ⟨h1, hsome _ _ h2⟩
  · have ok : CxOk b n ⟨A.deeper (callEnvC fd s.heap.objs.size a), callEnvC fd s.heap.objs.size a⟩ :=
      ⟨⟨R.hand, by have := R.depth; show A.depth + 1 + n < _; omega, by have := R.units; show A.units + 3 + 3 * n + 200 < _; omega⟩, D.kind, D.globals, D.builtins⟩
    have hloc : (callEnvC fd s.heap.objs.size a).locals = s.heap.objs.size := rfl
    have hcells : (callEnvC fd s.heap.objs.size a).cells = cellsFrom (s.heap.objs.size + 1) fd.scope.names [] := rfl
    obtain ⟨h1, tk, e1⟩ := X.toInCall.same
    subst e1
    have le : s.toks ≤ tk := le
    have keep : KeepsH s.heap h1 := fun z o e => X.toInCall.keep z o e
    have ns := X.toInCall.ns
    have cellm : ∀ z ∈ (callEnvC fd s.heap.objs.size a).cells.map (·.2), ∃ x, (callEnvC fd s.heap.objs.size a).cells.lookup x = some z := fun z hz => by
      obtain ⟨⟨x, z'⟩, hm, rfl⟩ := List.mem_map.mp hz
      exact ⟨x, lookup_of_mem (by rw [hcells]; exact hcn' _) hm⟩
    have lo : ∀ z ∈ (callEnvC fd s.heap.objs.size a).cells.map (·.2), s.heap.objs.size < z := fun z hz => by
      obtain ⟨⟨x, z'⟩, hm, rfl⟩ := List.mem_map.mp hz
      exact X.above x z' hm
    have st : Stays Mu ((callEnvC fd s.heap.objs.size a).locals :: (callEnvC fd s.heap.objs.size a).cells.map (·.2) ++ ([] : Mus).map (·.1) ++ Mu) s.heap h1 := fun z o hn e => ⟨fun hm => by
      simp only [List.map_nil, List.append_nil, List.cons_append, List.mem_cons, List.mem_append] at hm
      have := Heap.lt_size e
      rcases hm with h | h | h
      · rw [h, hloc] at this; exact Nat.lt_irrefl _ this
      · exact Nat.lt_irrefl _ (Nat.lt_trans this (lo z h))
      · exact hn h, keep z o e⟩
    have H : Held b ⟨A.deeper (callEnvC fd s.heap.objs.size a), callEnvC fd s.heap.objs.size a⟩ s Mu [] (rhoOf names (ds ++ dd)) [] { s with heap := h1, toks := tk } := by
      refine { same := ⟨h1, tk, rfl, le⟩, pos := hp, keep := keep, base := hb, m0 := ⟨hL, hhi⟩, ns := ⟨_, ns⟩, nsHi := Nat.le_refl _, cells := fun x z e => ?_, apart := ⟨fun x y z ex ey => ?_, fun z hz => Nat.le_of_lt (lo z hz)⟩, vars := fun x l e => ?_, lt := fun z hz => ?_, muts := (fun p hp => nomatch hp), musApart := List.nodup_nil, guard := (fun p hp => nomatch hp) }
      · have hm := mem_of_lookup e
        have hlt := X.above x z hm
        exact ⟨Nat.le_of_lt hlt, Nat.ne_of_gt hlt, _, X.cell x z e⟩
      · exact name_of_addr X.apart (mem_of_lookup ex) (mem_of_lookup ey)
      · unfold rhoOf at e
        obtain ⟨d, hd', rfl⟩ := Option.map_eq_some_iff.mp e
        obtain ⟨v, rv, b1, b2⟩ := bind_name (callEnvC fd s.heap.objs.size a).kindOf x d names (vs ++ dv) (ds ++ dd) (fun _ => none) (fun _ => none) hn ra' hl hd'
        have hx1 : x ∈ names := (List.of_mem_zip (PySem.mem_of_lookup hd')).1
        refine ⟨v, ?_, rv.mono st⟩
        rcases hk x hx1 with hkl | ⟨hkc, hm⟩
        · exact .inl ⟨hkl, _, ns, b1 hkl⟩
        · obtain ⟨z, hz⟩ := Option.isSome_iff_exists.mp (hsome (s.heap.objs.size + 1) x hm)
          have := X.cell x z hz
          rw [b2 (by show fd.scope.names.lookup x ≠ _; rw [hkc]; decide)] at this
          exact .inr ⟨hkc, z, hz, this⟩
      · simp only [List.map_nil, List.append_nil, List.cons_append, List.mem_cons, List.mem_append] at hz
        rcases hz with h | h | h
        · obtain ⟨o, es, ep, e, _⟩ := ns; rw [h]; exact ⟨o, e⟩
        · obtain ⟨x, hx⟩ := cellm z h
          obtain ⟨o, e, _⟩ := X.cell x z hx
          exact ⟨o, e⟩
        · obtain ⟨o, e⟩ := hL z h; exact ⟨o, keep z o e⟩
    refine wpAny_mono ((h _ _ s Mu ok).wp _ _ H) (fun f s' g => ?_) fun _ _ x => x
    cases f with
    | next => obtain ⟨_, _, hf, _⟩ := g; exact hf.elim
    | ret v => obtain ⟨l', rfl, g1, g2⟩ := g; exact ⟨g1, g2⟩
    | brk => exact g.elim
    | cont => exact g.elim
end Mine
end
section
open PySem PySem.W PyProof.Rows
set_option autoImplicit false
set_option linter.unusedVariables false
namespace Mine

section
variable {b : Base} {c : Cx} {Mu : List Addr} {ρ : Rho}

theorem back1 (pos : Pos) (e : Expr) (env : Env) (h : isStarred e = false) : backTo pos (starEach [e] env) = [(false, eval e env)] := by rw [star_cons _ _ _ h]; rfl
theorem back2 (pos : Pos) (e f : Expr) (env : Env) (h : isStarred e = false) (h' : isStarred f = false) : backTo pos (starEach [e, f] env) = [(false, eval e env), (false, eval f env)] := by rw [star_cons _ _ _ h, star_cons _ _ _ h']; rfl
/-- a text's truth -/
theorem Te.str {e : Expr} {x : PySem.Str} (h : Ev b c Mu ρ e (.d (.str x))) (hx : x.length < 2 ^ 62) (he : isTrue e c.env (eval e c.env) = (do let v ← eval e c.env; standAt e.pos; holding [v] (truthy v))) : Te b c Mu ρ e (x.length != 0) := .mk fun s E H =>
  wpAny_isTrue_value (wpAny_mono (h.wp s E H) (fun v s' g => by
    obtain ⟨t, rfl⟩ := Rep.str_inv g.2
    exact PySem.P.truthy_str (by omega) ⟨g.1.trans (Grows.toks _ _ (Nat.le_succ_of_le (Nat.le_succ _))), by
      cases hl : x.length <;> simp [hl] <;> omega⟩) fun _ _ x => x) he
/-- a truth value's truth -/
theorem Te.val {e : Expr} {t : Bool} (h : Ev b c Mu ρ e (.d (.bool t))) (he : isTrue e c.env (eval e c.env) = (do let v ← eval e c.env; standAt e.pos; holding [v] (truthy v))) : Te b c Mu ρ e t := .mk fun s E H =>
  wpAny_isTrue_value (wpAny_mono (h.wp s E H) (fun v s' g => by
    obtain rfl := Rep.bool_inv g.2
    exact wpAny_truthy_bool ⟨g.1, rfl⟩) fun _ _ x => x) he

theorem Bop.mod (i j : Int) (h : j ≠ 0) : Bop b .Mod (.int i) (.int j) (.int (i.fmod j)) := fun A Mu s E v w R _ hv hw => by
  obtain ⟨t, rfl⟩ := hv.int_inv; obtain ⟨u, rfl⟩ := hw.int_inv
  exact PyProof.Rows.mod_int h ⟨Grows.toks _ _, Rep.int _ _⟩
theorem Bop.smul (x : PySem.Str) (n : Int) (h : MulOk x n) : Bop b .Mult (.str x) (.int n) (.str (Txt.mul x n)) := fun A Mu s E v w R _ hv hw => by
  obtain ⟨t, rfl⟩ := hv.str_inv; obtain ⟨u, rfl⟩ := hw.int_inv
  exact wpAny_le (SB.mul h fun t' k le => ⟨Grows.toks _ _ le, Rep.str _ _⟩)
theorem Cop.inS (x y : PySem.Str) : Cop b .In (.str y) (.str x) (Txt.contains x y) := fun A Mu s E v w R _ hv hw => by
  obtain ⟨t, rfl⟩ := hv.str_inv; obtain ⟨u, rfl⟩ := hw.str_inv
  exact SB.contains ⟨Grows.refl _, rfl⟩

theorem callN2 {n : Nat} (ok : CxOk b n c) {x : PySem.Str} {np pos : Pos} {id : String} {e₁ e₂ : Expr} {l₁ l₂ r : LV} (hf : Ev b c Mu ρ (.Name x np) (.r (.builtin id))) (h1 : Ev b c Mu ρ e₁ l₁) (h2 : Ev b c Mu ρ e₂ l₂)
    (hs : isStarred e₁ = false) (hs' : isStarred e₂ = false)
    (hc : ∀ (A : Around) (s : Shared) (E : Value → Shared → Prop) (v w : Value), Room 0 A → Lt Mu s.heap → RepL b Mu s.heap v l₁ → RepL b Mu s.heap w l₂ → wpAny (model b.prog b.w) A (call (.builtin id) [v, w] []) (fun z s' => Grows s s' ∧ RepL b Mu s'.heap z r) E s) :
    Ev b c Mu ρ (.Call (.Name x np) [e₁, e₂] [] pos) r := .mk fun s E H =>
  wpAny_Call_NameR (wpAny_mono (hf.wp s E H) (fun f s₁ g₁ => by
    have e : f = .builtin id := g₁.2
    subst e
    rw [back2 _ _ _ _ hs hs']
    refine Calls.callWith_builtin rfl (Calls.evalArgs_plain (Calls.spliced_cons (wpAny_mono (h1.wp s₁ E (H.grows g₁.1)) (fun v s₂ g₂ => Calls.spliced_cons (wpAny_mono (h2.wp s₂ E (H.grows (g₁.1.trans g₂.1))) (fun w s₃ g₃ => Calls.spliced_nil ?_) fun _ _ x => x)) fun _ _ x => x)))
    have G := (g₁.1.trans g₂.1).trans g₃.1
    exact wpAny_mono (hc c.A s₃ E v w (ok.room.le (Nat.zero_le _)) (H.grows G).lt (RepL.keeps g₃.1.keeps g₂.2) g₃.2) (fun z s₄ g₄ => ⟨G.trans g₄.1, g₄.2⟩) fun _ _ x => x) fun _ _ x => x)

theorem isiL (A : Around) (s : Shared) (E : Value → Shared → Prop) (v w : Value) (xs : List PyData) (hv : RepL b Mu s.heap v (.d (.list xs))) (hw : RepL b Mu s.heap w (.r (.type "list"))) :
    wpAny (model b.prog b.w) A (call (.builtin "isinstance") [v, w] []) (fun z s' => Grows s s' ∧ RepL b Mu s'.heap z (.d (.bool true))) E s := by
  obtain ⟨a, o, vs, n, rfl, hm, ho, hc, hd, _⟩ := Rep.list_inv hv
  have e : w = .type "list" := hw
  subst e
  exact PySem.IsiPair.list_list ho hc ⟨Grows.refl _, Rep.bool _⟩
theorem isiT (A : Around) (s : Shared) (E : Value → Shared → Prop) (v w : Value) (xs : List PyData) (hv : RepL b Mu s.heap v (.d (.tuple xs))) (hw : RepL b Mu s.heap w (.r (.type "tuple"))) :
    wpAny (model b.prog b.w) A (call (.builtin "isinstance") [v, w] []) (fun z s' => Grows s s' ∧ RepL b Mu s'.heap z (.d (.bool true))) E s := by
  obtain ⟨a, o, vs, n, rfl, hm, ho, hc, hd, _⟩ := Rep.tuple_inv hv
  have e : w = .type "tuple" := hw
  subst e
  exact PySem.IsiPair.tuple_tuple ho hc ⟨Grows.refl _, Rep.bool _⟩

/-- len of a dict of texts -/
theorem Ev.lenK {n : Nat} (ok : CxOk b n c) {x : PySem.Str} {np pos : Pos} {e : Expr} {es : List (PySem.Str × PyData)} (hf : Ev b c Mu ρ (.Name x np) (.r (.builtin "len"))) (he : Ev b c Mu ρ e (.k es)) (hl : es.length < 2 ^ 62)
    (hs : isStarred e = false) : Ev b c Mu ρ (.Call (.Name x np) [e] [] pos) (.d (.int es.length)) := .mk fun s E H =>
  wpAny_Call_NameR (wpAny_mono (hf.wp s E H) (fun f s₁ g₁ => by
    have e : f = .builtin "len" := g₁.2
    subst e
    rw [back1 _ _ _ hs]
    refine Calls.callWith_builtin rfl (Calls.evalArgs_plain (Calls.spliced_cons (wpAny_mono (he.wp s₁ E (H.grows g₁.1)) (fun v s₂ g₂ => Calls.spliced_nil ?_) fun _ _ x => x)))
    obtain ⟨a, rfl, hm, nsm, kvs, hd, hk, ra⟩ := (g₂.2 : RepL b Mu s₂.heap v (.k es))
    have el : kvs.length = es.length := by have := congrArg List.length hk; simpa using this
    exact call_len_dict nsm hd (by omega) ⟨(g₁.1.trans g₂.1).trans (Grows.toks _ _ (Nat.le_succ_of_le (Nat.le_succ _))), by rw [el]; exact Rep.int _ _⟩) fun _ _ x => x)

/-- list(d.items()) -/
theorem Ev.itemsList {n : Nat} (ok : CxOk b n c) {x : PySem.Str} {np pos ap cp : Pos} {o : Expr} {es : List (PySem.Str × PyData)} (hf : Ev b c Mu ρ (.Name x np) (.r (.type "list"))) (he : Ev b c Mu ρ o (.k es)) (hl : es.length ≤ sizeLine)
    (hbase : attributeBase o "items" c.env (eval o c.env) = eval o c.env) (hline : (ap.endLine == cp.line) = true) :
    Ev b c Mu ρ (.Call (.Name x np) [.Call (.Attribute o "items" ap) [] [] cp] [] pos) (.d (.list (es.map fun p => .tuple [.str p.1, p.2]))) := .mk fun s E H =>
  wpAny_Call_NameR (wpAny_mono (hf.wp s E H) (fun f s₁ g₁ => by
    have e : f = .type "list" := g₁.2
    subst e
    rw [back1 _ _ _ rfl]
    refine PySem.callWith_type rfl (Calls.evalArgs_plain (Calls.spliced_cons ?_))
    refine wpAny_Call_method (T := "dict") (id := "dict.items") hbase rfl hline PySem.F.plainAttrs_dict PySem.F.slot_dict_items PySem.F.type_dict_items (wpAny_mono (he.wp s₁ E (H.grows g₁.1)) (fun v s₂ g₂ => ?_) fun _ _ x => x)
    obtain ⟨a, rfl, hm, nsm, kvs, hd, hk, ra⟩ := (g₂.2 : RepL b Mu s₂.heap v (.k es))
    refine ⟨hd.typeIs, hd.mapOf.noDict, ?_⟩
    refine method_meetsIn PySem.F.slot_dict_items PySem.F.entry_dict_items rfl (PyProof.Rows.evalArgs_none ⟨rfl, hd.typeIs, PySem.F.args_dict_items_1 _, _, meets_dict_items (PySem.strKind b.prog b.w) a nsm, ⟨kvs, hd⟩, ?_⟩)
    refine Calls.spliced_nil ?_
    have el : kvs.length = es.length := by have := congrArg List.length hk; simpa using this
    have G₃ : Grows s { s₂ with heap := s₂.heap.push { cls := .type "dict_items", data := .fields #[.ref a] } } := (g₁.1.trans g₂.1).trans (Grows.push _ _)
    have H₃ := H.grows G₃
    obtain ⟨ep, hat⟩ := (hd.push { cls := .type "dict_items", data := .fields #[.ref a] }).dictAt
    refine wpAny_le (kdx_call (knd := PySem.strKind b.prog b.w) (kvs := kvs) ok.room.hand (r := s₂.heap.objs.size) (d := a) ⟨_, Heap.get?_push_size _ rfl, rfl, rfl⟩ hat (by rw [el]; exact hl) fun h' tk acc c as hk' hL hlen hG hacc le => ?_)
    have G₄ := G₃.trans (Grows.of (h' := h') (tk := tk) hk' le)
    refine ⟨G₄, Rep.list (fresh_notin H₃.lt (get?_size _)) hL rfl rfl ?_⟩
    rw [hacc]
    have ra' : RepAll Mu h' (kvs.map (·.2)) (es.map (·.2)) := ra.keeps (fun z o e => hk' z o (Heap.get?_push_of_some _ e))
    refine RepAll.of_get (by rw [List.length_map, List.length_map, hlen, el]) fun i v d hv hd' => ?_
    rw [List.getElem?_map, Option.map_eq_some_iff] at hv hd'
    obtain ⟨z, hz, rfl⟩ := hv
    obtain ⟨p, hp, rfl⟩ := hd'
    obtain ⟨key, k, x, hx, hkey, ho⟩ := hG.pairs i z hz
    obtain ⟨t, rfl⟩ := Value.isStrOf_shape hkey
    have e1 : k = p.1 := by
      have h1 : (kvs.map (·.1))[i]? = some k := by rw [List.getElem?_map, hx]; rfl
      rw [hk, List.getElem?_map, hp] at h1
      exact (Option.some.inj h1).symm
    obtain ⟨d', hd2, rd⟩ := ra'.get' (i := i) (v := x) (by rw [List.getElem?_map, hx]; rfl)
    rw [List.getElem?_map, hp] at hd2
    cases hd2
    subst e1
    refine Rep.tuple (fun hmz => ?_) ho rfl rfl (.cons (Rep.str _ _) (.cons rd .nil))
    have hab := hG.above z (List.mem_of_getElem? hz)
    obtain ⟨o, e⟩ := H₃.lt z hmz
    exact absurd (Heap.lt_size e) (Nat.not_lt.mpr (Nat.le_of_lt hab))) fun _ _ x => x)
end
end Mine
end
section
open PySem PySem.W PyProof.Rows
set_option autoImplicit false
set_option linter.unusedVariables false
namespace Mine
section
variable {b : Base}
noncomputable abbrev TSt := List PySem.Str × Nat × Bool × List (Nat × Option Nat) × Bool
theorem translate_loop {M : Model} {A : Around} {E : Value → Shared → Prop} (f : Nat → TSt → Sem (ForInStep TSt)) (good : Nat → Prop) (h : Heap)
    (hf : ∀ c pieces total known (s : Shared) (Q : ForInStep TSt → Shared → Prop), good c → total ≤ sizeLine → (∀ c a, known.lookup c = some a → a = some c) → s.heap = h →
      (∀ known' tk, (∀ c a, known'.lookup c = some a → a = some c) → Q (.yield (⟨#[c]⟩ :: pieces, total + 1, true, known', false)) { s with toks := tk }) → wpAny M A (f c (pieces, total, true, known, false)) Q E s) :
    ∀ (cs : List Nat) pieces total known (s : Shared) (Q : TSt → Shared → Prop), (∀ c ∈ cs, good c) → total + cs.length ≤ sizeLine + 1 → (∀ c a, known.lookup c = some a → a = some c) → s.heap = h →
      (∀ known' tk, Q ((cs.map fun c => (⟨#[c]⟩ : PySem.Str)).reverse ++ pieces, total + cs.length, true, known', false) { s with toks := tk }) → wpAny M A (forIn cs (pieces, total, true, known, false) f) Q E s
  | [], pieces, total, known, s, Q, _, _, _, _, hQ => by rw [List.forIn_nil]; exact wpAny_pure (hQ known s.toks)
  | c :: cs, pieces, total, known, s, Q, hg, hl, hk, hh, hQ => by
    rw [List.forIn_cons]
    refine wpAny_bind (hf c pieces total known s _ (hg c List.mem_cons_self) (by simp at hl; omega) hk hh fun known' tk hk' => ?_)
    refine translate_loop f good h hf cs _ _ known' _ Q (fun d hd => hg d (List.mem_cons_of_mem _ hd)) (by simp at hl; omega) hk' hh fun known'' tk' => ?_
    have := hQ known'' tk'
    simpa [Nat.add_assoc, Nat.add_comm, Nat.add_left_comm] using this

theorem tableLookup_list {A : Around} {E : Value → Shared → Prop} {s : Shared} {a : Addr} {vs : Array Value} {c : Nat} {u : Tok} {Q : Builtin.Str.Mapped → Shared → Prop} (hl : s.heap.IsList a vs) (hc : vs[c]? = some (.str ⟨#[c]⟩ u)) (hc2 : c < 128)
    (hQ : Q (.text ⟨#[c]⟩) { s with toks := s.toks + 1 }) : wpAny (model b.prog b.w) A (Builtin.Str.tableLookup (.ref a) c) Q E s := by
  unfold Builtin.Str.tableLookup
  refine wpAny_bind (wpAny_attempt (wpAny_bind (wpAny_mkInt ?_)))
  refine wpAny_getItem_list (items := vs) hl (by omega) (by omega) (x := .str ⟨#[c]⟩ u) (by simpa using hc) ?_
  dsimp only
  refine wpAny_bind (wpAny_of_eq (a := none) (by rfl) ?_)
  dsimp only
  refine wpAny_bind (wpAny_of_eq (a := some ⟨#[c]⟩) (by rfl) ?_)
  exact wpAny_pure hQ

theorem fold_pieces (cs : List Nat) : ∀ acc : Array Nat, (cs.map fun c => (⟨#[c]⟩ : PySem.Str)).foldl (fun acc p => acc ++ p.cps) acc = acc ++ cs.toArray := by
  induction cs with
  | nil => intro acc; simp
  | cons c r ih => intro acc; simp [ih]

theorem translate_wp {A : Around} {E : Value → Shared → Prop} {s : Shared} {x : PySem.Str} {t : Tok} {a : Addr} {vs : Array Value} {P : PySem.Fin → Shared → Prop} (hl : s.heap.IsList a vs)
    (hx : ∀ c ∈ x.cps, c < 128 ∧ ∃ u, vs[c]? = some (.str ⟨#[c]⟩ u)) (hn : x.length ≤ sizeLine) (h0 : x.length ≠ 0)
    (hP : ∀ tk, P (.done (.ret (.str x tk))) { s with toks := tk + 1 }) :
    wpAny (model b.prog b.w) A (Builtin.«str.translate» ⟨[.str x t, .ref a], []⟩) P E s := by
  unfold Builtin.«str.translate»
  refine wpAny_bind (wpAny_of_eq (a := (Value.str x t, x, Value.ref a)) (by rfl) ?_)
  dsimp only
  rw [if_neg (by simpa using h0)]
  have hall : (x.cps.all fun x => decide (x < 128)) = true := by
    rw [Array.all_eq_true]
    intro i hi
    exact decide_eq_true (hx _ (Array.getElem_mem hi)).1
  rw [hall, ← Array.forIn_toList]
  refine wpAny_bind (translate_loop _ (fun c => c < 128 ∧ ∃ u, vs[c]? = some (.str ⟨#[c]⟩ u)) s.heap ?_ x.cps.toList [] 0 [] s _ (fun c hc => hx c (by simpa using hc)) (by rw [Nat.zero_add, Array.length_toList]; exact Nat.le_succ_of_le hn) (by intro c a h; cases h) rfl fun known' tk => ?_)
  · rintro c pieces total known s' Q ⟨hc, u, hu⟩ ht hk hh hQ
    have htl : Builtin.Str.tooLong total = false := by
      unfold Builtin.Str.tooLong; exact decide_eq_false (by omega)
    dsimp only
    rw [if_neg (by rw [htl]; decide), if_pos rfl]
    cases hkn : known.lookup c with
    | some a' =>
      obtain rfl := hk c a' hkn
      refine wpAny_bind (wpAny_pure ?_)
      exact wpAny_pure (hQ known s'.toks hk)
    | none =>
      dsimp only
      refine wpAny_bind (tableLookup_list (by rw [hh]; exact hl) hu hc ?_)
      dsimp only
      have h1 : ((⟨#[c]⟩ : PySem.Str).length == 1 && (⟨#[c]⟩ : PySem.Str).cps.all fun x => decide (x < 128)) = true := by simp [PySem.Str.length, hc]
      rw [if_pos h1]
      refine wpAny_bind (wpAny_pure ?_)
      refine wpAny_pure (hQ ((c, some c) :: known) _ fun c' a' h' => ?_)
      rw [List.lookup_cons] at h'
      cases hb : c' == c with
      | true => rw [hb] at h'; cases h'; have : c' = c := by simpa using hb
                rw [this]
      | false => rw [hb] at h'; exact hk c' a' h'
  · dsimp only
    rw [if_neg (by unfold Builtin.Str.tooLong; simp; exact hn)]
    have e : (⟨((((x.cps.toList.map fun c => (⟨#[c]⟩ : PySem.Str)).reverse ++ []).reverse).foldl (fun acc (p : PySem.Str) => acc ++ p.cps) #[])⟩ : PySem.Str) = x := by
      rw [List.append_nil, List.reverse_reverse, fold_pieces]; simp
    show wpAny _ _ (retStr ⟨((((x.cps.toList.map fun c => (⟨#[c]⟩ : PySem.Str)).reverse ++ []).reverse).foldl (fun acc (p : PySem.Str) => acc ++ p.cps) #[])⟩) _ _ _
    rw [e]
    exact wpAny_bind (wpAny_mkStr (wpAny_pure (hP tk)) hn)

theorem Cal.translate (x : PySem.Str) (m : List PySem.Str) (hx : ∀ c ∈ x.cps, c < 128 ∧ m[c]? = some ⟨#[c]⟩) (hn : x.length ≤ sizeLine) (h0 : x.length ≠ 0) :
    Cal b (.builtin "str.translate") [.str x, .list (m.map .str)] (.d (.str x)) := fun A Mu s E vs R L r => by
  obtain ⟨v, w, rfl, p, q⟩ := r.two_inv; obtain ⟨t, rfl⟩ := p.str_inv; obtain ⟨a, vs, rfl, hm, hl, ra, e⟩ := q.isList
  refine wpAny_le (wpAny_call_entry PySem.F.slot_str_translate (typeIs_str _ _ _) PySem.F.entry_str_translate (translate_wp (b := b) hl (fun c hc => ?_) hn h0 fun tk => ⟨_, rfl, fun le => ⟨Grows.toks _ _ le, Rep.str _ _⟩⟩) (PySem.F.args_str_translate_2 _ _))
  obtain ⟨h1, h2⟩ := hx c hc
  obtain ⟨u, hu, ru⟩ := ra.get (i := c) (d := .str ⟨#[c]⟩) (by rw [List.getElem?_map, h2]; rfl)
  obtain ⟨tu, rfl⟩ := ru.str_inv
  exact ⟨h1, tu, by simpa using hu⟩
end
end Mine
end
section
open PySem PySem.W PyProof.Rows
set_option autoImplicit false
set_option linter.unusedVariables false
namespace Mine
section
variable {b : Base} {c : Cx} {Mu : List Addr} {ρ : Rho}
/-- o.replace('y', 'z') -/
theorem Ev.replaceC {n : Nat} (ok : CxOk b n c) {o : Expr} {ap pos p₁ p₂ : Pos} {x y z : PySem.Str} {k₁ k₂ : Nat}
    (hbase : attributeBase o "replace" c.env (eval o c.env) = eval o c.env) (hline : (ap.endLine == pos.line) = true)
    (hv : Ev b c Mu ρ o (.d (.str x))) (hyz : (y == z) = false) (hb : x.length + (x.length + 1) * z.length ≤ 16777216) :
    Ev b c Mu ρ (.Call (.Attribute o "replace" ap) [.Constant (.str y) k₁ p₁, .Constant (.str z) k₂ p₂] [] pos) (.d (.str (Txt.replace x y z))) := .mk fun s E H =>
  wpAny_Call_method hbase (by rw [back2 _ _ _ _ rfl rfl]; rfl) hline PySem.F.plainAttrs_str PySem.F.slot_str_replace PySem.F.type_str_replace (wpAny_mono (hv.wp s E H) (fun v s₁ g₁ => by
    obtain ⟨t, rfl⟩ := Rep.str_inv g₁.2
    have pos₁ := (H.grows g₁.1).pos
    refine ⟨typeIs_str _ _ _, (fun _ e => nomatch e), ?_⟩
    rw [back2 _ _ _ _ rfl rfl]
    refine Calls.callWith_builtin rfl (Calls.evalArgs_plain (Calls.spliced_cons (wpAny_Constant_str (Calls.spliced_cons (wpAny_Constant_str (Calls.spliced_nil ?_))))))
    refine wpAny_le (SC.replace (u := s₁.toks) (v := s₁.toks + 1) (Nat.ne_of_gt pos₁) (Nat.succ_ne_zero _) (Nat.ne_of_lt (Nat.lt_succ_self _)) hyz hb fun t' k le => ?_)
    exact ⟨g₁.1.trans (Grows.toks _ _ (by simp only at le; omega)), Rep.str _ _⟩) fun _ _ x => x)
end
end Mine
end
section
open PySem PySem.W PyProof.Rows
set_option autoImplicit false
set_option linter.unusedVariables false
namespace Mine

noncomputable def S (k : Nat) : Stmt := (PySem.Challenge.pw_wo0029_01.main.body[k]?).getD (.Pass default)
noncomputable def bodyOf : Stmt → List Stmt
  | .FunctionDef _ _ b _ _ _ _ _ _ _ => b
  | _ => []
noncomputable def scopeOf : Stmt → Scope
  | .FunctionDef _ _ _ _ _ _ sc _ _ _ => sc
  | _ => default
noncomputable def paramsOf : Stmt → Arguments
  | .FunctionDef _ p _ _ _ _ _ _ _ _ => p
  | _ => default
noncomputable def fdOf (k : Nat) (name : PySem.Str) (pm code doc dfl : Value) : FuncData := { Calls.docDef name (paramsOf (S k)) (bodyOf (S k)) (scopeOf (S k)) pm code doc with defaults := dfl }

/-- the def of statement `k` stands, under its name -/
noncomputable def Fn (b : Base) (x : PySem.Str) (k : Nat) : Prop :=
  ∃ a pm code doc, b.mg x = some (.ref a) ∧ (∃ o, b.h₀.get? a = some o ∧ o.data = .func (fdOf k x pm code doc .none)) ∧ b.h₀.CodeRec code x
noncomputable def FnD (b : Base) (x : PySem.Str) (k : Nat) (dv : List Value) : Prop :=
  ∃ a pm code doc T n, b.mg x = some (.ref a) ∧ (∃ o, b.h₀.get? a = some o ∧ o.data = .func (fdOf k x pm code doc (.ref T))) ∧ b.h₀.CodeRec code x ∧ ∃ o, b.h₀.get? T = some o ∧ o.data = .seq dv.toArray n

theorem Fn.def {b : Base} {x : PySem.Str} {k : Nat} (h : Fn b x k) (h1 : (scopeOf (S k)).isCoroutine = false) (h2 : (scopeOf (S k)).isGenerator = false) (h3 : (scopeOf (S k)).kind = .function) :
    ∃ a pm code doc, b.mg x = some (.ref a) ∧ DefAt b a (fdOf k x pm code doc .none) (bodyOf (S k)) := by
  obtain ⟨a, pm, code, doc, e, ho, hc⟩ := h
  exact ⟨a, pm, code, doc, e, ho, hc, rfl, rfl, rfl, rfl, h1, h2, h3⟩

noncomputable def okScope (k : Nat) (names : List PySem.Str) : Bool :=
  !(scopeOf (S k)).isCoroutine && !(scopeOf (S k)).isGenerator && decide ((scopeOf (S k)).kind = .function) && decide ((((scopeOf (S k)).names.filter (·.2 == .cell)).map (·.1)).Nodup) && decide names.Nodup &&
    names.all fun x => decide ((scopeOf (S k)).names.lookup x = some .local ∨ ((scopeOf (S k)).names.lookup x = some .cell ∧ x ∈ ((scopeOf (S k)).names.filter (·.2 == .cell)).map (·.1)))

theorem Fn.fun {b : Base} (B : BaseOk b) {x : PySem.Str} {k : Nat} (F : Fn b x k) {n : Nat} {names : List PySem.Str} {ds : List PyData} {l : LV} (hok : okScope k names = true) (hl : names.length = ds.length)
    (hbind : ∀ pm code doc vs, vs.length = ds.length → bindArgs (fdOf k x pm code doc .none) ⟨vs, []⟩ = pure (names.zip vs))
    (h : ∀ (A : Around) (L a : Addr) (pm code doc : Value) (s₀ : Shared) (M0 : List Addr), CxOk b n ⟨A, callEnvC (fdOf k x pm code doc .none) L a⟩ →
      Ex b ⟨A, callEnvC (fdOf k x pm code doc .none) L a⟩ s₀ M0 [] (rhoOf names ds) [] (bodyOf (S k)) (fun _ _ => False) (fun l' => l' = l)) :
    ∃ f, b.mg x = some f ∧ Fun b f ds n l := by
  simp only [okScope, Bool.and_eq_true, Bool.not_eq_true', decide_eq_true_eq, List.all_eq_true] at hok
  obtain ⟨⟨⟨⟨⟨h1, h2⟩, h3⟩, h4⟩, h5⟩, h6⟩ := hok
  obtain ⟨a, pm, code, doc, e, D⟩ := F.def h1 h2 h3
  refine ⟨_, e, Fun.of B D (names := names) (dv := []) (dd := []) (fun _ _ => RepAll.nil) (fun s vs _ hv => BindsTo.of_eq (by rw [List.append_nil]; exact hbind pm code doc vs hv)) h5 (by rw [List.append_nil]; exact hl) h4 h6 fun A L s₀ M0 ok => ?_⟩
  rw [List.append_nil]
  exact h A L a pm code doc s₀ M0 ok
theorem FnD.fun {b : Base} (B : BaseOk b) {x : PySem.Str} {k : Nat} {dvs : List Value} (F : FnD b x k dvs) {n : Nat} {names : List PySem.Str} {ds dd : List PyData} {dv : List Value} {l : LV} (hok : okScope k names = true) (hl : names.length = (ds ++ dd).length)
    (hdv : ∀ Mu h, RepAll Mu h dv dd)
    (hbind : ∀ pm code doc T vs, vs.length = ds.length → ∃ k₁, bindArgs (fdOf k x pm code doc (.ref T)) ⟨vs, []⟩ = seqItems? (.ref T) >>= k₁ ∧ k₁ (some dvs.toArray) = pure (names.zip (vs ++ dv)))
    (h : ∀ (A : Around) (L a : Addr) (pm code doc T : Value) (s₀ : Shared) (M0 : List Addr), CxOk b n ⟨A, callEnvC (fdOf k x pm code doc T) L a⟩ →
      Ex b ⟨A, callEnvC (fdOf k x pm code doc T) L a⟩ s₀ M0 [] (rhoOf names (ds ++ dd)) [] (bodyOf (S k)) (fun _ _ => False) (fun l' => l' = l)) :
    ∃ f, b.mg x = some f ∧ Fun b f ds n l := by
  simp only [okScope, Bool.and_eq_true, Bool.not_eq_true', decide_eq_true_eq, List.all_eq_true] at hok
  obtain ⟨⟨⟨⟨⟨h1, h2⟩, h3⟩, h4⟩, h5⟩, h6⟩ := hok
  obtain ⟨a, pm, code, doc, T, m, e, ho, hc, oT, hT, hTd⟩ := F
  have D : DefAt b a (fdOf k x pm code doc (.ref T)) (bodyOf (S k)) := ⟨ho, hc, rfl, rfl, rfl, rfl, h1, h2, h3⟩
  refine ⟨_, e, Fun.of B D (names := names) (dv := dv) (dd := dd) hdv (fun s vs hb hv => ?_) h5 hl h4 h6 fun A L s₀ M0 ok => h A L a pm code doc (.ref T) s₀ M0 ok⟩
  obtain ⟨k₁, e1, e2⟩ := hbind pm code doc T vs hv
  exact BindsTo.of_defaults (T := T) rfl (hb _ _ hT) hTd e1 e2

theorem of_t {x y z : PySem.Str} (h : (x == y) = true) (e : y = z := by decide +kernel) : x = z := (eq_of_beq h).trans e
theorem of_f {x y z : PySem.Str} (h : (x == y) = false) (e : y = z := by decide +kernel) : ¬ x = z := fun q => by rw [q, ← e] at h; simp at h
theorem one_of {vs : List Value} (h : vs.length = 1) : ∃ v, vs = [v] := List.length_eq_one_iff.mp h
theorem two_of {vs : List Value} (h : vs.length = 2) : ∃ v w, vs = [v, w] := by
  match vs, h with
  | [v, w], _ => exact ⟨v, w, rfl⟩
theorem three_of {vs : List Value} (h : vs.length = 3) : ∃ v w x, vs = [v, w, x] := by
  match vs, h with
  | [v, w, x], _ => exact ⟨v, w, x, rfl⟩

noncomputable def hexDigit (n : Nat) : Nat := if n < 10 then 48 + n else 55 + n
noncomputable def quoted (c : Nat) : PySem.Str := ⟨#[61, hexDigit (c / 16), hexDigit (c % 16)]⟩
noncomputable def bodyPlain (c : Nat) : Bool := (32 ≤ c && c ≤ 126 && c != 61) || c == 9
noncomputable def quoMap : List PySem.Str := (List.range 256).map quoted
noncomputable def encMap : List PySem.Str := (List.range 256).map fun c => if bodyPlain c || c == 13 || c == 10 then ⟨#[c]⟩ else quoted c

noncomputable def reCode : List Int := [14, 8, 1, 3, 3, 1, 1, 61, 0, 16, 61, 24, 16, 2, 2, 13, 11, 9, 0, 67043328, 126, 126, 0, 0, 0, 0, 0, 1, 1]
/-- the compiled pattern at an address -/
noncomputable def PatAt (h : Heap) (a : Addr) : Prop := ∃ (c : Addr) (x : PySem.Str) (t u : Tok), h.get? a = some { cls := .type "re.Pattern", data := .fields #[.str x t, .int 256 u, .int 0 0, .none, .none, .ref c, .int 0 0] } ∧
  h.get? c = some { cls := .type "tuple", data := .seq (reCode.map fun i => Value.int i 0).toArray 0 }
structure TopOk (b : Base) : Prop where
  base : BaseOk b
  sys : ∃ o, b.h₀.get? sysModules = some o
  f_unquote : Fn b "unquote" 15
  f_quote : Fn b "quote" 16
  f_um : Fn b "_unquote_match" 21
  f_hd : Fn b "header_decode" 22
  f_dr : Fn b "decode_rfc2231" 25
  f_pk : Fn b "parse_keqv_list" 27
  f_cell : Fn b "_law_cell" 29
  f_signs : Fn b "_law_signs" 30
  f_parts : Fn b "_law_parts" 31
  f_pair : Fn b "_law_pair" 32
  f_pieces : Fn b "_law_pieces" 33
  f_letter : Fn b "_law_letter" 34
  f_law : Fn b "law" 35
  f_be : ∃ t u, FnD b "body_encode" 20 [.int 76 t, .str ⟨#[10]⟩ u]
  g_crlf : ∃ t, b.mg "CRLF" = some (.str ⟨#[13, 10]⟩ t)
  g_tick : ∃ t, b.mg "TICK" = some (.str ⟨#[39]⟩ t)
  g_qm : ∃ v, b.mg "_QUOPRI_MAP" = some v ∧ Rep [] b.h₀ v (.list (quoMap.map .str))
  g_em : ∃ v, b.mg "_QUOPRI_BODY_ENCODE_MAP" = some v ∧ Rep [] b.h₀ v (.list (encMap.map .str))
  g_re : ∃ a, b.mg "_twin_re_1" = some (.ref a) ∧ PatAt b.h₀ a
  c_um : ∀ a, b.mg "_unquote_match" = some (.ref a) → ∃ o, b.h₀.get? a = some o ∧ o.cls = .type "function"
  n_len : b.mg "len" = none ∧ b.mb "len" = some (.builtin "len")
  n_chr : b.mg "chr" = none ∧ b.mb "chr" = some (.builtin "chr")
  n_ord : b.mg "ord" = none ∧ b.mb "ord" = some (.builtin "ord")
  n_int : b.mg "int" = none ∧ b.mb "int" = some (.type "int")
  n_str : b.mg "str" = none ∧ b.mb "str" = some (.type "str")
  n_list : b.mg "list" = none ∧ b.mb "list" = some (.type "list")
  n_tuple : b.mg "tuple" = none ∧ b.mb "tuple" = some (.type "tuple")
  n_range : b.mg "range" = none ∧ b.mb "range" = some (.type "range")
  n_isi : b.mg "isinstance" = none ∧ b.mb "isinstance" = some (.builtin "isinstance")
  n_sorted : b.mg "sorted" = none ∧ b.mb "sorted" = some (.builtin "sorted")
  n_max : b.mg "max" = none ∧ b.mb "max" = some (.builtin "max")
  n_ve : b.mg "ValueError" = none ∧ b.mb "ValueError" = some (.type "ValueError")

section
variable {b : Base} {c : Cx} {Mu : List Addr} {ρ : Rho}
theorem Ev.i {i : Int} {k : Nat} {p : Pos} : Ev b c Mu ρ (.Constant (.int i) k p) (.d (.int i)) := Ev.intC i k p
theorem Ev.s {i : PySem.Str} {k : Nat} {p : Pos} : Ev b c Mu ρ (.Constant (.str i) k p) (.d (.str i)) := Ev.strC i k p
theorem Ev.no {k : Nat} {p : Pos} : Ev b c Mu ρ (.Constant .none k p) (.d .none) := Ev.noneC k p
theorem Ev.tf {t : Bool} {k : Nat} {p : Pos} : Ev b c Mu ρ (.Constant (.bool t) k p) (.d (.bool t)) := Ev.boolC t k p
/-- a name of the frame -/
theorem Ev.v {n : Nat} (ok : CxOk b n c) {x : PySem.Str} {p : Pos} {l : LV} (e : ρ x = some l := by first | rfl | kernel_rfl) (hd : (x == ("__debug__" : PySem.Str)) = false := by decide) : Ev b c Mu ρ (.Name x p) l := Ev.nameR ok e hd
/-- a name of the text -/
theorem Ev.g {n : Nat} (ok : CxOk b n c) (B : BaseOk b) {x : PySem.Str} {p : Pos} {v : Value} (hv : b.mg x = some v) (hx : c.env.kindOf x = some .globalImplicit := by kernel_rfl) (hd : (x == ("__debug__" : PySem.Str)) = false := by decide) : Ev b c Mu ρ (.Name x p) (.r v) := Ev.global ok B hx hv hd
/-- a built-in name -/
theorem Ev.bi {n : Nat} (ok : CxOk b n c) (B : BaseOk b) {x : PySem.Str} {p : Pos} {v : Value} (hv : b.mg x = none ∧ b.mb x = some v) (hx : c.env.kindOf x = some .globalImplicit := by kernel_rfl) (hd : (x == ("__debug__" : PySem.Str)) = false := by decide) : Ev b c Mu ρ (.Name x p) (.r v) := Ev.builtin ok B hx hv.1 hv.2 hd
theorem Evs.one {e : Expr} {d : PyData} (h : Ev b c Mu ρ e (.d d)) (hs : isStarred e = false := by rfl) : Evs b c Mu ρ [e] [d] := .cons h hs .nil
theorem Evs.two {e f : Expr} {d g : PyData} (h : Ev b c Mu ρ e (.d d)) (h' : Ev b c Mu ρ f (.d g)) (hs : isStarred e = false := by rfl) (hs' : isStarred f = false := by rfl) : Evs b c Mu ρ [e, f] [d, g] := .cons h hs (.cons h' hs' .nil)
theorem Evs.three {e f g : Expr} {d d' d'' : PyData} (h : Ev b c Mu ρ e (.d d)) (h' : Ev b c Mu ρ f (.d d')) (h'' : Ev b c Mu ρ g (.d d'')) (hs : isStarred e = false := by rfl) (hs' : isStarred f = false := by rfl) (hs'' : isStarred g = false := by rfl) : Evs b c Mu ρ [e, f, g] [d, d', d''] := .cons h hs (.cons h' hs' (.cons h'' hs'' .nil))
theorem Ex.r {s₀ : Shared} {M0 : List Addr} {G : List (Addr × Obj)} {mus : Mus} {e : Expr} {pos : Pos} {l : LV} {rest : List Stmt} {K : Rho → Mus → Prop} (h : Ev b c (MuOf c mus M0) ρ e l) :
    Ex b c s₀ M0 G ρ mus (.Return (some e) pos :: rest) K (fun l' => l' = l) := Ex.ret h rfl
/-- x = e -/
theorem Ex.a {n : Nat} (ok : CxOk b n c) {s₀ : Shared} {M0 : List Addr} {G : List (Addr × Obj)} {mus : Mus} {x : PySem.Str} {e : Expr} {px pos : Pos} {l : LV} {rest : List Stmt} {K : Rho → Mus → Prop} {R : LV → Prop} (h : Ev b c (MuOf c mus M0) ρ e l)
    (hr : Ex b c s₀ M0 G (upd ρ x l) mus rest K R)
    (hx : c.env.kindOf x = some .local ∨ (c.env.kindOf x = some .cell ∧ (c.env.cells.lookup x).isSome = true) := by first | exact .inl (by kernel_rfl) | exact .inr ⟨by kernel_rfl, by kernel_rfl⟩) (hsw : swapsWith e (some (.Name x px)) pos.line c.env = pure false := by first | rfl | kernel_rfl) :
    Ex b c s₀ M0 G ρ mus (.Assign [.Name x px] e pos :: rest) K R := Ex.assign ok h hx hsw hr
/-- o.name(args), o a text -/
theorem Ev.m {n : Nat} (ok : CxOk b n c) {o : Expr} {name : PySem.Str} {apos pos : Pos} {es : List Expr} {id : String} {x : PySem.Str} {ds : List PyData} {r : LV}
    (hv : Ev b c Mu ρ o (.d (.str x))) (ha : Evs b c Mu ρ es ds) (slot : Slot "str" name id) (ty : typeOf (.builtin id) = pure (.type "method_descriptor")) (hc : Cal b (.builtin id) (.str x :: ds) r)
    (hbase : attributeBase o name c.env (eval o c.env) = eval o c.env := by rfl) (hfew : methodCallForm (es.length + ([] : List Keyword).length) (backTo pos (starEach es c.env)) (backToKw pos (keywordEach [] c.env)) = true := by rfl)
    (hline : (apos.endLine == pos.line) = true := by rfl) : Ev b c Mu ρ (.Call (.Attribute o name apos) es [] pos) r := Ev.methS ok hbase hfew hline slot ty hv ha hc
theorem Ex.guard {s₀ : Shared} {M0 : List Addr} {G : List (Addr × Obj)} {mus : Mus} {test : Expr} {body rest : List Stmt} {pos : Pos} {t : Bool} {K : Rho → Mus → Prop} {R : LV → Prop} (ht : Te b c (MuOf c mus M0) ρ test t)
    (h1 : t = true → Ex b c s₀ M0 G ρ mus body (fun _ _ => False) R) (h2 : t = false → Ex b c s₀ M0 G ρ mus rest K R) : Ex b c s₀ M0 G ρ mus (.If test body [] pos :: rest) K R := by
  cases t with
  | true => exact Ex.take ht (h1 rfl)
  | false => exact Ex.skip ht (h2 rfl)
theorem Ev.cast {e : Expr} {l l' : LV} (h : Ev b c Mu ρ e l) (q : l = l') : Ev b c Mu ρ e l' := q ▸ h

/-- the names that a comprehension takes along -/
inductive Capt (cl : List (PySem.Str × Addr)) (scope : Scope) (env : Env) : List PySem.Str → Prop
  | nil : Capt cl scope env []
  | cons {y ys} : cl.lookup y = env.cells.lookup y → (env.cells.lookup y).isSome = true → (relabel scope env).names.lookup y = some .cell → env.kindOf y = some .cell → Capt cl scope env ys → Capt cl scope env (y :: ys)
theorem Capt.get {cl : List (PySem.Str × Addr)} {scope : Scope} {env : Env} {names : List PySem.Str} (h : Capt cl scope env names) : ∀ y ∈ names, ∃ a, cl.lookup y = some a ∧ (relabel scope env).names.lookup y = some .cell ∧ env.kindOf y = some .cell ∧ env.cells.lookup y = some a := by
  induction h with
  | nil => intro y hy; cases hy
  | @cons z zs h1 h2 h3 h4 _ ih =>
    intro y hy
    rcases List.mem_cons.mp hy with rfl | hy
    · obtain ⟨a, ha⟩ := Option.isSome_iff_exists.mp h2
      exact ⟨a, by rw [h1, ha], h3, h4, ha⟩
    · exact ih y hy
noncomputable def restr (names : List PySem.Str) (ρ : Rho) : Rho := fun y => if y ∈ names then ρ y else none
theorem restr_some {names : List PySem.Str} {ρ : Rho} {y : PySem.Str} {l : LV} (h : restr names ρ y = some l) : y ∈ names ∧ ρ y = some l := by
  unfold restr at h
  split at h
  · rename_i hy; exact ⟨hy, h⟩
  · cases h
/-- what a comprehension's scope must be -/
noncomputable def compScope (scope : Scope) (x : PySem.Str) : Bool :=
  decide (scope.kind = .function) && (scope.names.all fun y => decide (y.2 ≠ .cell)) && (scope.names.all fun y => decide (y.2 = .local → scope.names.lookup y.1 = some .local)) && decide (scope.names.lookup x = some .local)
theorem CxOk.comp {n : Nat} (ok : CxOk b n c) {scope : Scope} {x : PySem.Str} (h : compScope scope x = true) (cl : List (PySem.Str × Addr)) (C : Addr) : CxOk b n ⟨c.A, compEnvC scope cl C c.env⟩ := by
  simp only [compScope, Bool.and_eq_true, decide_eq_true_eq] at h
  exact ⟨ok.room, h.1.1.1, ok.globals, ok.builtins⟩

theorem Ev.compD {n : Nat} (ok : CxOk b n c) {elt iter : Expr} {x : PySem.Str} {px pos : Pos} {ifs : List Expr} {scope : Scope} {cl : List (PySem.Str × Addr)} {xs : List PyData} (names : List PySem.Str)
    (hsc : compScope scope x = true) (src : Src b c Mu ρ iter xs) (hn : xs.length ≤ sizeLine) (hxa : ∀ d ∈ xs, isAtom d = true) (hclos : closureFor scope c.env = pure cl) (hcap : Capt cl scope c.env names)
    (hs : ∀ x, foldedSetIterable iter c.env x = pure x) (p : PyData → Bool) (g : PyData → PyData)
    (hin : ∀ C d, d ∈ xs → CxOk b n ⟨c.A, compEnvC scope cl C c.env⟩ → Ifs b ⟨c.A, compEnvC scope cl C c.env⟩ (C :: Mu) (upd (restr names ρ) x (.d d)) ifs (p d) ∧
      (p d = true → isAtom (g d) = true ∧ Ev b ⟨c.A, compEnvC scope cl C c.env⟩ (C :: Mu) (upd (restr names ρ) x (.d d)) elt (.d (g d)))) :
    Ev b c Mu ρ (.ListComp elt [⟨.Name x px, iter, ifs, 0⟩] scope pos) (.pl ((xs.filter p).map g)) := by
  have hsc' := hsc
  simp only [compScope, Bool.and_eq_true, decide_eq_true_eq, List.all_eq_true] at hsc'
  obtain ⟨⟨⟨h1, h2⟩, h3⟩, h4⟩ := hsc'
  exact Ev.comp ok src hn hxa hclos h2 h1 h3 h4 hs (restr names ρ) (fun y l h => by
    obtain ⟨hy, hl⟩ := restr_some h
    obtain ⟨a, a1, a2, a3, a4⟩ := hcap.get y hy
    exact ⟨a, a1, a2, a3, a4, hl⟩) p g fun C d hd => hin C d hd (CxOk.comp ok hsc cl C)

noncomputable def unI : PyData → Int
  | .int i => i
  | _ => 0
noncomputable def unS : PyData → PySem.Str
  | .str i => i
  | _ => ⟨#[]⟩
theorem filter_map_un {α : Type} (inj : α → PyData) (un : PyData → α) (hu : ∀ a, un (inj a) = a) (p : α → Bool) (g : α → PyData) (xs : List α) :
    (((xs.map inj).filter fun d => p (un d)).map fun d => g (un d)) = (xs.filter p).map g := by
  rw [List.filter_map, List.map_map]
  have e1 : ((fun d => p (un d)) ∘ inj) = p := by funext a; simp [hu]
  have e2 : ((fun d => g (un d)) ∘ inj) = g := by funext a; simp [hu]
  rw [e1, e2]

theorem Ev.compI {n : Nat} (ok : CxOk b n c) {elt iter : Expr} {x : PySem.Str} {px pos : Pos} {ifs : List Expr} {scope : Scope} {cl : List (PySem.Str × Addr)} {xs : List Int} (names : List PySem.Str)
    (src : Src b c Mu ρ iter (xs.map .int)) (hn : xs.length ≤ sizeLine) (p : Int → Bool) (g : Int → PyData)
    (hin : ∀ C i, i ∈ xs → CxOk b n ⟨c.A, compEnvC scope cl C c.env⟩ → Ifs b ⟨c.A, compEnvC scope cl C c.env⟩ (C :: Mu) (upd (restr names ρ) x (.d (.int i))) ifs (p i) ∧
      (p i = true → isAtom (g i) = true ∧ Ev b ⟨c.A, compEnvC scope cl C c.env⟩ (C :: Mu) (upd (restr names ρ) x (.d (.int i))) elt (.d (g i))))
    (hsc : compScope scope x = true := by kernel_rfl) (hclos : closureFor scope c.env = pure cl := by first | rfl | kernel_rfl)
    (hcap : Capt cl scope c.env names := by repeat (first | exact Capt.nil | refine Capt.cons (by kernel_rfl) (by kernel_rfl) (by kernel_rfl) (by kernel_rfl) ?_))
    (hs : ∀ x, foldedSetIterable iter c.env x = pure x := by intro _; rfl) :
    Ev b c Mu ρ (.ListComp elt [⟨.Name x px, iter, ifs, 0⟩] scope pos) (.pl ((xs.filter p).map g)) := by
  rw [← filter_map_un .int unI (fun _ => rfl) p g xs]
  refine Ev.compD ok names hsc src (by simpa using hn) (fun d hd => ?_) hclos hcap hs _ _ fun C d hd ok' => ?_
  · obtain ⟨i, _, rfl⟩ := List.mem_map.mp hd; rfl
  · obtain ⟨i, hi, rfl⟩ := List.mem_map.mp hd; exact hin C i hi ok'
theorem Ev.compS {n : Nat} (ok : CxOk b n c) {elt iter : Expr} {x : PySem.Str} {px pos : Pos} {ifs : List Expr} {scope : Scope} {cl : List (PySem.Str × Addr)} {xs : List PySem.Str} (names : List PySem.Str)
    (src : Src b c Mu ρ iter (xs.map .str)) (hn : xs.length ≤ sizeLine) (p : PySem.Str → Bool) (g : PySem.Str → PyData)
    (hin : ∀ C i, i ∈ xs → CxOk b n ⟨c.A, compEnvC scope cl C c.env⟩ → Ifs b ⟨c.A, compEnvC scope cl C c.env⟩ (C :: Mu) (upd (restr names ρ) x (.d (.str i))) ifs (p i) ∧
      (p i = true → isAtom (g i) = true ∧ Ev b ⟨c.A, compEnvC scope cl C c.env⟩ (C :: Mu) (upd (restr names ρ) x (.d (.str i))) elt (.d (g i))))
    (hsc : compScope scope x = true := by kernel_rfl) (hclos : closureFor scope c.env = pure cl := by first | rfl | kernel_rfl)
    (hcap : Capt cl scope c.env names := by repeat (first | exact Capt.nil | refine Capt.cons (by kernel_rfl) (by kernel_rfl) (by kernel_rfl) (by kernel_rfl) ?_))
    (hs : ∀ x, foldedSetIterable iter c.env x = pure x := by intro _; rfl) :
    Ev b c Mu ρ (.ListComp elt [⟨.Name x px, iter, ifs, 0⟩] scope pos) (.pl ((xs.filter p).map g)) := by
  rw [← filter_map_un .str unS (fun _ => rfl) p g xs]
  refine Ev.compD ok names hsc src (by simpa using hn) (fun d hd => ?_) hclos hcap hs _ _ fun C d hd ok' => ?_
  · obtain ⟨i, _, rfl⟩ := List.mem_map.mp hd; rfl
  · obtain ⟨i, hi, rfl⟩ := List.mem_map.mp hd; exact hin C i hi ok'
theorem Ev.compI0 {n : Nat} (ok : CxOk b n c) {elt iter : Expr} {x : PySem.Str} {px pos : Pos} {scope : Scope} {cl : List (PySem.Str × Addr)} {xs : List Int} (names : List PySem.Str)
    (src : Src b c Mu ρ iter (xs.map .int)) (hn : xs.length ≤ sizeLine) (g : Int → PyData) (hg : ∀ i ∈ xs, isAtom (g i) = true)
    (hin : ∀ C i, i ∈ xs → CxOk b n ⟨c.A, compEnvC scope cl C c.env⟩ → Ev b ⟨c.A, compEnvC scope cl C c.env⟩ (C :: Mu) (upd (restr names ρ) x (.d (.int i))) elt (.d (g i)))
    (hsc : compScope scope x = true := by kernel_rfl) (hclos : closureFor scope c.env = pure cl := by first | rfl | kernel_rfl)
    (hcap : Capt cl scope c.env names := by repeat (first | exact Capt.nil | refine Capt.cons (by kernel_rfl) (by kernel_rfl) (by kernel_rfl) (by kernel_rfl) ?_))
    (hs : ∀ x, foldedSetIterable iter c.env x = pure x := by intro _; rfl) :
    Ev b c Mu ρ (.ListComp elt [⟨.Name x px, iter, [], 0⟩] scope pos) (.pl (xs.map g)) := by
  have := Ev.compI ok (elt := elt) (px := px) (pos := pos) (ifs := []) names src hn (fun _ => true) g (fun C i hi ok' => ⟨.nil, fun _ => ⟨hg i hi, hin C i hi ok'⟩⟩) hsc hclos hcap hs
  rwa [filter_true'] at this
theorem Ev.compS0 {n : Nat} (ok : CxOk b n c) {elt iter : Expr} {x : PySem.Str} {px pos : Pos} {scope : Scope} {cl : List (PySem.Str × Addr)} {xs : List PySem.Str} (names : List PySem.Str)
    (src : Src b c Mu ρ iter (xs.map .str)) (hn : xs.length ≤ sizeLine) (g : PySem.Str → PyData) (hg : ∀ i ∈ xs, isAtom (g i) = true)
    (hin : ∀ C i, i ∈ xs → CxOk b n ⟨c.A, compEnvC scope cl C c.env⟩ → Ev b ⟨c.A, compEnvC scope cl C c.env⟩ (C :: Mu) (upd (restr names ρ) x (.d (.str i))) elt (.d (g i)))
    (hsc : compScope scope x = true := by kernel_rfl) (hclos : closureFor scope c.env = pure cl := by first | rfl | kernel_rfl)
    (hcap : Capt cl scope c.env names := by repeat (first | exact Capt.nil | refine Capt.cons (by kernel_rfl) (by kernel_rfl) (by kernel_rfl) (by kernel_rfl) ?_))
    (hs : ∀ x, foldedSetIterable iter c.env x = pure x := by intro _; rfl) :
    Ev b c Mu ρ (.ListComp elt [⟨.Name x px, iter, [], 0⟩] scope pos) (.pl (xs.map g)) := by
  have := Ev.compS ok (elt := elt) (px := px) (pos := pos) (ifs := []) names src hn (fun _ => true) g (fun C i hi ok' => ⟨.nil, fun _ => ⟨hg i hi, hin C i hi ok'⟩⟩) hsc hclos hcap hs
  rwa [filter_true'] at this

noncomputable def rangeI (lo hi : Int) : List Int := (List.range (hi - lo).toNat).map fun (i : Nat) => lo + (i : Int)
theorem rangeI_data (lo hi : Int) : (rangeI lo hi).map PyData.int = rangeData lo hi := by simp [rangeI, rangeData, List.map_map, Function.comp]
theorem rangeI_len (lo hi : Int) : (rangeI lo hi).length = (hi - lo).toNat := by simp [rangeI]
theorem mem_rangeI {lo hi i : Int} (h : i ∈ rangeI lo hi) : lo ≤ i ∧ i < hi := by
  obtain ⟨k, hk, rfl⟩ := List.mem_map.mp h
  have := List.mem_range.mp hk
  omega
theorem Src.r1 {n : Nat} (ok : CxOk b n c) {np pos : Pos} {e : Expr} {hi : Int} (h3 : -(2 ^ 62) ≤ hi) (h4 : hi < 2 ^ 62) (hf : Ev b c Mu ρ (.Name "range" np) (.r (.type "range"))) (he : Evs b c Mu ρ [e] [.int hi]) :
    Src b c Mu ρ (.Call (.Name "range" np) [e] [] pos) ((rangeI 0 hi).map .int) := by rw [rangeI_data]; exact Src.range1 ok h3 h4 hf he
theorem Src.r2 {n : Nat} (ok : CxOk b n c) {np pos : Pos} {e e' : Expr} {lo hi : Int} (h1 : -(2 ^ 62) ≤ lo) (h2 : lo < 2 ^ 62) (h3 : -(2 ^ 62) ≤ hi) (h4 : hi < 2 ^ 62) (hf : Ev b c Mu ρ (.Name "range" np) (.r (.type "range"))) (he : Evs b c Mu ρ [e, e'] [.int lo, .int hi]) :
    Src b c Mu ρ (.Call (.Name "range" np) [e, e'] [] pos) ((rangeI lo hi).map .int) := by rw [rangeI_data]; exact Src.range2 ok h1 h2 h3 h4 hf he
theorem Src.lI {n : Nat} (ok : CxOk b n c) {e : Expr} {xs : List Int} (h : Ev b c Mu ρ e (.d (.list (xs.map .int)))) : Src b c Mu ρ e (xs.map .int) := Src.list ok h fun d hd => by obtain ⟨i, _, rfl⟩ := List.mem_map.mp hd; rfl
theorem Src.lS {n : Nat} (ok : CxOk b n c) {e : Expr} {xs : List PySem.Str} (h : Ev b c Mu ρ e (.d (.list (xs.map .str)))) : Src b c Mu ρ e (xs.map .str) := Src.list ok h fun d hd => by obtain ⟨i, _, rfl⟩ := List.mem_map.mp hd; rfl
theorem Src.dS {n : Nat} (ok : CxOk b n c) {e : Expr} {es : List (PySem.Str × PyData)} (h : Ev b c Mu ρ e (.k es)) : Src b c Mu ρ e ((es.map (·.1)).map .str) := by rw [List.map_map]; exact Src.dict ok h

theorem Ex.ifThen {s₀ : Shared} {M0 : List Addr} {G : List (Addr × Obj)} {mus : Mus} {test : Expr} {body rest : List Stmt} {pos : Pos} {t : Bool} {K : Rho → Mus → Prop} {R : LV → Prop} (ht : Te b c (MuOf c mus M0) ρ test t)
    (h1 : t = true → Ex b c s₀ M0 G ρ mus body (fun ρ' mus' => Ex b c s₀ M0 G ρ' mus' rest K R) R) (h2 : t = false → Ex b c s₀ M0 G ρ mus rest K R) : Ex b c s₀ M0 G ρ mus (.If test body [] pos :: rest) K R :=
  Ex.cons (K1 := fun ρ' mus' => Ex b c s₀ M0 G ρ' mus' rest K R) (Sx.ite ht h1 fun h => Ex.nil (h2 h)) fun _ _ h => h
theorem Ex.ifElse {s₀ : Shared} {M0 : List Addr} {G : List (Addr × Obj)} {mus : Mus} {test : Expr} {body orelse rest : List Stmt} {pos : Pos} {t : Bool} {K : Rho → Mus → Prop} {R : LV → Prop} (ht : Te b c (MuOf c mus M0) ρ test t)
    (h1 : t = true → Ex b c s₀ M0 G ρ mus body (fun ρ' mus' => Ex b c s₀ M0 G ρ' mus' rest K R) R) (h2 : t = false → Ex b c s₀ M0 G ρ mus orelse (fun ρ' mus' => Ex b c s₀ M0 G ρ' mus' rest K R) R) : Ex b c s₀ M0 G ρ mus (.If test body orelse pos :: rest) K R :=
  Ex.cons (K1 := fun ρ' mus' => Ex b c s₀ M0 G ρ' mus' rest K R) (Sx.ite ht h1 h2) fun _ _ h => h
theorem Ex.sx {s₀ : Shared} {M0 : List Addr} {G : List (Addr × Obj)} {mus : Mus} {st : Stmt} {rest : List Stmt} {K : Rho → Mus → Prop} {R : LV → Prop} (h : Sx b c s₀ M0 G ρ mus st (fun ρ' mus' => Ex b c s₀ M0 G ρ' mus' rest K R) R) : Ex b c s₀ M0 G ρ mus (st :: rest) K R :=
  Ex.cons h fun _ _ h => h

theorem Cop.notInL (x : PyData) (xs : List PyData) (h1 : PyData.canLayAll0 xs = true) (h2 : x.canLay0 = true) (h3 : min (PyData.depthAll xs) x.depth ≤ 100) : Cop b .NotIn x (.list xs) (!(xs.any fun y => PyData.eqv y x)) := fun A Mu s E v w R _ hv hw => by
  obtain ⟨as, ra⟩ := hv.reads; obtain ⟨bs, rb⟩ := hw.reads
  exact SeqAt.notIn_list_reads rb ra h1 h2 (by have := R.units; omega) ⟨Grows.refl _, rfl⟩

/-- σ tells no more than ρ -/
noncomputable def Le (σ ρ : Rho) : Prop := ∀ y l, σ y = some l → ρ y = some l
theorem Le.none : Le (fun _ => Option.none) ρ := fun _ _ h => by cases h
theorem Le.put {σ : Rho} {x : PySem.Str} {v : LV} (h : Le σ ρ) (e : ρ x = some v) : Le (upd σ x v) ρ := fun y l q => by
  unfold upd at q
  by_cases hy : y = x
  · rw [if_pos hy] at q; cases q; rw [hy]; exact e
  · rw [if_neg hy] at q; exact h y l q
theorem Le.upd {σ : Rho} {x : PySem.Str} {v : LV} (h : Le σ ρ) : Le (Mine.upd σ x v) (Mine.upd ρ x v) := fun y l q => by
  unfold Mine.upd at q ⊢
  by_cases hy : y = x
  · rw [if_pos hy] at q ⊢; exact q
  · rw [if_neg hy] at q ⊢; exact h y l q
theorem Ex.le {s₀ : Shared} {M0 : List Addr} {G : List (Addr × Obj)} {mus : Mus} {σ : Rho} {es : List Stmt} {K : Rho → Mus → Prop} {R : LV → Prop} (h : Le σ ρ) (hr : Ex b c s₀ M0 G σ mus es K R) : Ex b c s₀ M0 G ρ mus es K R := Ex.drop h hr
end
end Mine
end
section
open PySem PySem.W PyProof.Rows
set_option autoImplicit false
set_option linter.unusedVariables false
set_option maxRecDepth 1000000
namespace Mine
noncomputable def vS (x : String) (t : Nat) : Value := .str (.ofString x) t
noncomputable def en (P : Params) (x : String) (t : Nat) (v : Value) : DictEntry := ⟨PyData.keyHash P (.ofString x), .str (.ofString x) t, v⟩
noncomputable def kW (a b : String) : PySem.Str := ⟨((PySem.Str.ofString a).cps.toList ++ (Builtin.chainKey.cps.toList.take 6 ++ (PySem.Str.ofString b).cps.toList)).toArray⟩
noncomputable def eK (P : Params) (a b : String) (t : Nat) (v : Value) : DictEntry := ⟨PyData.keyHash P (kW a b), .str (kW a b) t, v⟩
noncomputable def esOf (o : Obj) : Array DictEntry := match o.data with
  | .dict es _ => es
  | _ => List.toArray []
noncomputable def pk (o : Obj) : Value := Builtin.packed (Builtin.flatEntries (esOf o))
noncomputable def fl (f : Nat → Value) : Array Value := ((List.range 256).map f).toArray
noncomputable def qItem (i : Nat) : Value := .str (quoted i) (327 + 4 * i)
noncomputable def qPre (k : Nat) : Array Value := ((List.range k).map qItem).toArray
noncomputable def ufn (f : Nat → Value) (i : Nat) (v : Value) : Nat → Value := fun j => bif Nat.beq j i then v else f j
noncomputable abbrev pw := PySem.Challenge.pw_wo0029_01
noncomputable abbrev bodyE : List Stmt := behindTheImports pw
noncomputable def envE : Env := { scope := pw.main.scope, locals := mainNs, globals := mainNs, cells := [], code := .ref 30, frame := some 31 }
noncomputable abbrev codE : Code := .body bodyE envE
noncomputable abbrev annE : Option Value := some (.ref 6)
noncomputable def qp : Pos := ⟨0, 0, 0, 0⟩
noncomputable abbrev Bq : List PySem.Frame := [topFrame qp]
noncomputable def sts (a b : Nat) : List Stmt := (List.range' a (b - a)).map S
noncomputable abbrev Run (w : World) (N : Nat) (s : SharedT) (t : Thread) := segRunT treeTable pw w 28 annE 1 N s t
noncomputable abbrev Go (w : World) (N : Nat) (s : SharedT) (t : Thread) := segGoT treeTable pw w 28 annE 1 N s t
noncomputable def frOf (r : Option (SharedT × Thread)) : PySem.Frame := match r with
  | some (_, ⟨_, _, _, f :: _⟩) => f
  | _ => topFrame qp
noncomputable def valOf : Stmt → Expr
  | .Assign _ v _ => v
  | _ => .Constant .none 0 qp
noncomputable def C4 : Code := .compLoop (valOf (S 4)) 0 (.ref 38) (.ref 39) { scope := ⟨.function, [(".0", .local), ("c", .local)], false, false, []⟩, locals := 40, globals := 3, cells := [], code := .ref 30, frame := some 31, builtins := 0 }
noncomputable def forOf (k it : Nat) : Code := match S k with
  | .For t _ b o _ => .forLoop t (.ref it) b o envE
  | _ => .block [] envE
noncomputable abbrev Th (c : Code) (p : Pos) (fr : PySem.Frame) : Thread := ⟨denote treeTable c, c, p, fr :: Bq⟩
noncomputable def o11_E (P : Params) : Obj := ⟨(.type "dict"), none, (.dict (List.toArray [en P "__name__" 247 (vS "_sre" 246), en P "__doc__" 248 .none, en P "__package__" 250 (vS "" 249), en P "__loader__" 251 (.ref 14), en P "__spec__" 252 (.ref 26), en P "compile" 253 (.builtin "_sre.compile"), en P "template" 254 (.builtin "_sre.template"), en P "getcodesize" 255 (.builtin "_sre.getcodesize"), en P "ascii_iscased" 256 (.builtin "_sre.ascii_iscased"), en P "unicode_iscased" 257 (.builtin "_sre.unicode_iscased"), en P "ascii_tolower" 258 (.builtin "_sre.ascii_tolower"), en P "unicode_tolower" 259 (.builtin "_sre.unicode_tolower"), en P "MAGIC" 261 (.int 20230612 260), en P "CODESIZE" 263 (.int 4 262), en P "MAXREPEAT" 265 (.int 4294967295 264), en P "MAXGROUPS" 267 (.int 1073741823 266), en P "copyright" 269 (vS " SRE 2.2.2 Copyright (c) 1997-2002 by Secret Labs AB " 268)]) 17), List.toArray []⟩
noncomputable def o13_0 (P : Params) : Obj := ⟨(.type "dict"), none, (.dict (List.toArray [en P "__module__" 189 (vS "_frozen_importlib" 186), en P "__firstlineno__" 190 (.int 971 187), en P "__doc__" 191 (.builtin "_frozen_importlib.BuiltinImporter.__doc__:str#opaque"), en P "_ORIGIN" 192 (vS "built-in" 188), en P "find_spec" 193 (.builtin "_frozen_importlib.BuiltinImporter.find_spec#opaque"), en P "create_module" 194 (.builtin "_frozen_importlib.BuiltinImporter.create_module#opaque"), en P "exec_module" 195 (.builtin "_frozen_importlib.BuiltinImporter.exec_module#opaque"), en P "get_code" 196 (.builtin "_frozen_importlib.BuiltinImporter.get_code#opaque"), en P "get_source" 197 (.builtin "_frozen_importlib.BuiltinImporter.get_source#opaque"), en P "is_package" 198 (.builtin "_frozen_importlib.BuiltinImporter.is_package#opaque"), en P "load_module" 199 (.builtin "_frozen_importlib.BuiltinImporter.load_module#opaque"), en P "__static_attributes__" 200 (.ref 15), en P "__dict__" 202 (.ref 16), en P "__weakref__" 204 (.ref 17)]) 14), List.toArray []⟩
noncomputable def o21_0 (P : Params) : Obj := ⟨(.type "dict"), none, (.dict (List.toArray [en P "__module__" 227 (vS "_frozen_importlib" 217), en P "__firstlineno__" 228 (.int 562 218), en P "__doc__" 229 (.builtin "_frozen_importlib.ModuleSpec.__doc__:str#opaque"), en P "__init__" 230 (.builtin "_frozen_importlib.ModuleSpec.__init__#opaque"), en P "__repr__" 231 (.builtin "_frozen_importlib.ModuleSpec.__repr__#opaque"), en P "__eq__" 232 (.builtin "_frozen_importlib.ModuleSpec.__eq__#opaque"), en P "cached" 233 (.builtin "_frozen_importlib.ModuleSpec.cached#opaque"), en P "parent" 234 (.builtin "_frozen_importlib.ModuleSpec.parent#opaque"), en P "has_location" 235 (.builtin "_frozen_importlib.ModuleSpec.has_location#opaque"), en P "__static_attributes__" 236 (.ref 23), en P "__dict__" 238 (.ref 24), en P "__weakref__" 240 (.ref 25), en P "__hash__" 241 .none]) 13), List.toArray []⟩
noncomputable def o0_0 (P : Params) : Obj := ⟨(.type "dict"), none, (.dict (List.toArray [en P "__name__" 1 (vS "builtins" 160), en P "__doc__" 2 (.builtin "builtins.__doc__:str#opaque"), en P "__package__" 3 (.builtin "builtins.__package__:str#opaque"), en P "__loader__" 4 (.builtin "builtins.__loader__:shared#opaque"), en P "__spec__" 5 (.builtin "builtins.__spec__#opaque"), en P "__build_class__" 6 (.builtin "__build_class__"), en P "__import__" 7 (.builtin "__import__"), en P "abs" 8 (.builtin "abs"), en P "all" 9 (.builtin "all"), en P "any" 10 (.builtin "any"), en P "ascii" 11 (.builtin "ascii"), en P "bin" 12 (.builtin "bin"), en P "breakpoint" 13 (.builtin "breakpoint"), en P "callable" 14 (.builtin "callable"), en P "chr" 15 (.builtin "chr"), en P "compile" 16 (.builtin "compile"), en P "delattr" 17 (.builtin "delattr"), en P "dir" 18 (.builtin "dir"), en P "divmod" 19 (.builtin "divmod"), en P "eval" 20 (.builtin "eval"), en P "exec" 21 (.builtin "exec"), en P "format" 22 (.builtin "format"), en P "getattr" 23 (.builtin "getattr"), en P "globals" 24 (.builtin "globals"), en P "hasattr" 25 (.builtin "hasattr"), en P "hash" 26 (.builtin "hash"), en P "hex" 27 (.builtin "hex"), en P "id" 28 (.builtin "id"), en P "input" 29 (.builtin "input"), en P "isinstance" 30 (.builtin "isinstance"), en P "issubclass" 31 (.builtin "issubclass"), en P "iter" 32 (.builtin "iter"), en P "aiter" 33 (.builtin "aiter"), en P "len" 34 (.builtin "len"), en P "locals" 35 (.builtin "locals"), en P "max" 36 (.builtin "max"), en P "min" 37 (.builtin "min"), en P "next" 38 (.builtin "next"), en P "anext" 39 (.builtin "anext"), en P "oct" 40 (.builtin "oct"), en P "ord" 41 (.builtin "ord"), en P "pow" 42 (.builtin "pow"), en P "print" 43 (.builtin "print"), en P "repr" 44 (.builtin "repr"), en P "round" 45 (.builtin "round"), en P "setattr" 46 (.builtin "setattr"), en P "sorted" 47 (.builtin "sorted"), en P "sum" 48 (.builtin "sum"), en P "vars" 49 (.builtin "vars"), en P "None" 50 .none, en P "Ellipsis" 51 .ellipsis, en P "NotImplemented" 52 .notImplemented, en P "False" 53 (.bool false), en P "True" 54 (.bool true), en P "bool" 55 (.type "bool"), en P "memoryview" 56 (.type "memoryview"), en P "bytearray" 57 (.type "bytearray"), en P "bytes" 58 (.type "bytes"), en P "classmethod" 59 (.type "classmethod"), en P "complex" 60 (.type "complex"), en P "dict" 61 (.type "dict"), en P "enumerate" 62 (.type "enumerate"), en P "filter" 63 (.type "filter"), en P "float" 64 (.type "float"), en P "frozenset" 65 (.type "frozenset"), en P "property" 66 (.type "property"), en P "int" 67 (.type "int"), en P "list" 68 (.type "list"), en P "map" 69 (.type "map"), en P "object" 70 (.type "object"), en P "range" 71 (.type "range"), en P "reversed" 72 (.type "reversed"), en P "set" 73 (.type "set"), en P "slice" 74 (.type "slice"), en P "staticmethod" 75 (.type "staticmethod"), en P "str" 76 (.type "str"), en P "super" 77 (.type "super"), en P "tuple" 78 (.type "tuple"), en P "type" 79 (.type "type"), en P "zip" 80 (.type "zip"), en P "__debug__" 81 (.bool true), en P "BaseException" 82 (.type "BaseException"), en P "BaseExceptionGroup" 83 (.type "BaseExceptionGroup"), en P "Exception" 84 (.type "Exception"), en P "GeneratorExit" 85 (.type "GeneratorExit"), en P "KeyboardInterrupt" 86 (.type "KeyboardInterrupt"), en P "SystemExit" 87 (.type "SystemExit"), en P "ArithmeticError" 88 (.type "ArithmeticError"), en P "AssertionError" 89 (.type "AssertionError"), en P "AttributeError" 90 (.type "AttributeError"), en P "BufferError" 91 (.type "BufferError"), en P "EOFError" 92 (.type "EOFError"), en P "ImportError" 93 (.type "ImportError"), en P "LookupError" 94 (.type "LookupError"), en P "MemoryError" 95 (.type "MemoryError"), en P "NameError" 96 (.type "NameError"), en P "OSError" 97 (.type "OSError"), en P "ReferenceError" 98 (.type "ReferenceError"), en P "RuntimeError" 99 (.type "RuntimeError"), en P "StopAsyncIteration" 100 (.type "StopAsyncIteration"), en P "StopIteration" 101 (.type "StopIteration"), en P "SyntaxError" 102 (.type "SyntaxError"), en P "SystemError" 103 (.type "SystemError"), en P "TypeError" 104 (.type "TypeError"), en P "ValueError" 105 (.type "ValueError"), en P "Warning" 106 (.type "Warning"), en P "FloatingPointError" 107 (.type "FloatingPointError"), en P "OverflowError" 108 (.type "OverflowError"), en P "ZeroDivisionError" 109 (.type "ZeroDivisionError"), en P "BytesWarning" 110 (.type "BytesWarning"), en P "DeprecationWarning" 111 (.type "DeprecationWarning"), en P "EncodingWarning" 112 (.type "EncodingWarning"), en P "FutureWarning" 113 (.type "FutureWarning"), en P "ImportWarning" 114 (.type "ImportWarning"), en P "PendingDeprecationWarning" 115 (.type "PendingDeprecationWarning"), en P "ResourceWarning" 116 (.type "ResourceWarning"), en P "RuntimeWarning" 117 (.type "RuntimeWarning"), en P "SyntaxWarning" 118 (.type "SyntaxWarning"), en P "UnicodeWarning" 119 (.type "UnicodeWarning"), en P "UserWarning" 120 (.type "UserWarning"), en P "BlockingIOError" 121 (.type "BlockingIOError"), en P "ChildProcessError" 122 (.type "ChildProcessError"), en P "ConnectionError" 123 (.type "ConnectionError"), en P "FileExistsError" 124 (.type "FileExistsError"), en P "FileNotFoundError" 125 (.type "FileNotFoundError"), en P "InterruptedError" 126 (.type "InterruptedError"), en P "IsADirectoryError" 127 (.type "IsADirectoryError"), en P "NotADirectoryError" 128 (.type "NotADirectoryError"), en P "PermissionError" 129 (.type "PermissionError"), en P "ProcessLookupError" 130 (.type "ProcessLookupError"), en P "TimeoutError" 131 (.type "TimeoutError"), en P "IndentationError" 132 (.type "IndentationError"), en P "_IncompleteInputError" 133 (.type "_IncompleteInputError"), en P "IndexError" 134 (.type "IndexError"), en P "KeyError" 135 (.type "KeyError"), en P "ModuleNotFoundError" 136 (.type "ModuleNotFoundError"), en P "NotImplementedError" 137 (.type "NotImplementedError"), en P "PythonFinalizationError" 138 (.type "PythonFinalizationError"), en P "RecursionError" 139 (.type "RecursionError"), en P "UnboundLocalError" 140 (.type "UnboundLocalError"), en P "UnicodeError" 141 (.type "UnicodeError"), en P "BrokenPipeError" 142 (.type "BrokenPipeError"), en P "ConnectionAbortedError" 143 (.type "ConnectionAbortedError"), en P "ConnectionRefusedError" 144 (.type "ConnectionRefusedError"), en P "ConnectionResetError" 145 (.type "ConnectionResetError"), en P "TabError" 146 (.type "TabError"), en P "UnicodeDecodeError" 147 (.type "UnicodeDecodeError"), en P "UnicodeEncodeError" 148 (.type "UnicodeEncodeError"), en P "UnicodeTranslateError" 149 (.type "UnicodeTranslateError"), en P "ExceptionGroup" 150 (.type "ExceptionGroup"), en P "EnvironmentError" 151 (.type "OSError"), en P "IOError" 152 (.type "OSError"), en P "open" 153 (.builtin "open"), en P "quit" 154 (.builtin "builtins.quit#opaque"), en P "exit" 155 (.builtin "builtins.exit#opaque"), en P "copyright" 156 (.builtin "builtins.copyright#opaque"), en P "credits" 157 (.builtin "builtins.credits#opaque"), en P "license" 158 (.builtin "builtins.license#opaque"), en P "help" 159 (.builtin "builtins.help#opaque")]) 159), List.toArray []⟩
noncomputable def o1_0 (P : Params) : Obj := ⟨(.type "dict"), none, (.dict (List.toArray [en P "builtins" 162 (.ref 4), en P "__main__" 163 (.ref 5), en P "_sre" 244 (.ref 12)]) 3), List.toArray []⟩
noncomputable def o2_0 (P : Params) : Obj := ⟨.none, none, (.dict (List.toArray [eK P "" ".loaded._sre" 183 (.bool true), en P "class._frozen_importlib.BuiltinImporter" 185 (.ref 14), eK P "watched." "" 206 (.ref 18), en P "class._frozen_importlib.ModuleSpec" 216 (.ref 22), en P "sys.modules.booked-epoch" 245 (.int 3 0), eK P "" ".later-laid._sre" 270 (.bool true), en P "watched.library" 272 (.ref 27), en P "watched.library-objects" 0 (vS "\x0c" 0), en P "watched.library-deep._sre" 273 (vS "\x04\x00\x00\x0b\x04\x00\x00\x0b\x04\x00\x00\x03\x04\x00\x00\x0b\x08\x04dict\x02" 0)]) 9), List.toArray []⟩
noncomputable def o3_0 (P : Params) : Obj := ⟨(.type "dict"), none, (.dict (List.toArray [en P "__name__" 165 (vS "__main__" 164), en P "__doc__" 166 .none, en P "__package__" 167 .none, en P "__loader__" 168 (.builtin "__main__.__loader__#opaque"), en P "__spec__" 169 .none, en P "__annotations__" 170 (.ref 6), en P "__builtins__" 171 (.ref 4), en P "__file__" 173 (vS "/claim/cut.py" 172), en P "__cached__" 174 .none, en P "_sre" 275 (.ref 12)]) 10), List.toArray []⟩
noncomputable def o4_0 (P : Params) : Obj := ⟨(.type "module"), (some 0), .plain, List.toArray []⟩
noncomputable def o5_0 (P : Params) : Obj := ⟨(.type "module"), (some 3), .plain, List.toArray []⟩
noncomputable def o6_0 (P : Params) : Obj := ⟨(.type "dict"), none, (.dict (List.toArray []) 0), List.toArray []⟩
noncomputable def o7_0 (P : Params) : Obj := ⟨(.type "tuple"), none, (.seq (List.toArray []) 0), List.toArray []⟩
noncomputable def o8_0 (P : Params) : Obj := ⟨.none, none, (.fields (List.toArray [])), List.toArray []⟩
noncomputable def o9_0 (P : Params) : Obj := ⟨(.type "code"), none, (.fields (List.toArray [(vS "<module>" 176), (vS "<module>" 177), (vS "/claim/cut.py" 178), (.int 1 0), (.int 0 0), (.int 0 0), (.int 0 0), (.int 0 0), (.ref 7), (.bool false), (.int 175 0), (.ref 8), .none, .none, .none, .none, (.int 179 0), (.int 1 0), (vS "/claim/cut.py" 180)])), List.toArray []⟩
noncomputable def o10_0 (P : Params) : Obj := ⟨(.type "frame"), none, .plain, List.toArray [(some (.ref 9)), (some (.ref 3)), (some (.ref 3)), none, (some (vS "__main__" 164)), none, (some (.ref 0))]⟩
noncomputable def o11_0 (P : Params) : Obj := ⟨(.type "dict"), none, (.dict (List.toArray [en P "__name__" 247 (vS "_sre" 246), en P "__doc__" 248 .none, en P "__package__" 250 (vS "" 249), en P "__loader__" 251 (.builtin "off-the-table:_sre.__loader__:shared#opaque"), en P "__spec__" 252 (.builtin "off-the-table:_sre.__spec__:shared#opaque"), en P "compile" 253 (.builtin "_sre.compile"), en P "template" 254 (.builtin "off-the-table:_sre.template:shared#opaque"), en P "getcodesize" 255 (.builtin "off-the-table:_sre.getcodesize:shared#opaque"), en P "ascii_iscased" 256 (.builtin "off-the-table:_sre.ascii_iscased:shared#opaque"), en P "unicode_iscased" 257 (.builtin "off-the-table:_sre.unicode_iscased:shared#opaque"), en P "ascii_tolower" 258 (.builtin "off-the-table:_sre.ascii_tolower:shared#opaque"), en P "unicode_tolower" 259 (.builtin "off-the-table:_sre.unicode_tolower:shared#opaque"), en P "MAGIC" 261 (.int 20230612 260), en P "CODESIZE" 263 (.int 4 262), en P "MAXREPEAT" 265 (.int 4294967295 264), en P "MAXGROUPS" 267 (.int 1073741823 266), en P "copyright" 269 (vS " SRE 2.2.2 Copyright (c) 1997-2002 by Secret Labs AB " 268)]) 17), List.toArray []⟩
noncomputable def o12_0 (P : Params) : Obj := ⟨(.type "module"), (some 11), .plain, List.toArray []⟩
noncomputable def o14_0 (P : Params) : Obj := ⟨(.type "type"), none, (.cls ⟨.ofString "BuiltinImporter", [(.type "object")], [(.ref 14), (.type "object")], 13, .ofString "BuiltinImporter", true, [], [], false, none, false⟩), List.toArray []⟩
noncomputable def o16_0 (P : Params) : Obj := ⟨(.type "getset_descriptor"), none, (.fields (List.toArray [(vS "__dict__" 201), (.ref 14), (.builtin "function.__dict__"), (.builtin "function.__dict__#set")])), List.toArray []⟩
noncomputable def o17_0 (P : Params) : Obj := ⟨(.type "getset_descriptor"), none, (.fields (List.toArray [(vS "__weakref__" 203), (.ref 14), (.builtin "ExceptionGroup.__weakref__"), .none])), List.toArray []⟩
noncomputable def o18_0 (P : Params) : Obj := ⟨.none, none, (.seq (List.toArray [(.int 13 0), (pk (o13_0 P)), (.bool true), (.bool true), (vS "" 205), (.int 21 0), (pk (o21_0 P)), (.bool true), (.bool true), (vS "" 242)]) 1), List.toArray []⟩
noncomputable def o19_0 (P : Params) : Obj := ⟨(.type "list"), none, (.seq (List.toArray []) 0), List.toArray []⟩
noncomputable def o20_0 (P : Params) : Obj := ⟨(.type "dict"), none, (.dict (List.toArray [en P "name" 208 (vS "_sre" 207), en P "loader" 209 (.ref 14), en P "origin" 210 (vS "built-in" 184), en P "loader_state" 211 .none, en P "submodule_search_locations" 212 .none, en P "_uninitialized_submodules" 213 (.ref 19), en P "_set_fileattr" 214 (.bool false), en P "_cached" 215 .none, en P "_initializing" 243 (.bool false)]) 9), List.toArray []⟩
noncomputable def o22_0 (P : Params) : Obj := ⟨(.type "type"), none, (.cls ⟨.ofString "ModuleSpec", [(.type "object")], [(.ref 22), (.type "object")], 21, .ofString "ModuleSpec", true, [], [], false, none, false⟩), List.toArray []⟩
noncomputable def o23_0 (P : Params) : Obj := ⟨(.type "tuple"), none, (.seq (List.toArray [(vS "_cached" 219), (vS "_set_fileattr" 220), (vS "_uninitialized_submodules" 221), (vS "loader" 222), (vS "loader_state" 223), (vS "name" 224), (vS "origin" 225), (vS "submodule_search_locations" 226)]) 0), List.toArray []⟩
noncomputable def o24_0 (P : Params) : Obj := ⟨(.type "getset_descriptor"), none, (.fields (List.toArray [(vS "__dict__" 237), (.ref 22), (.builtin "function.__dict__"), (.builtin "function.__dict__#set")])), List.toArray []⟩
noncomputable def o25_0 (P : Params) : Obj := ⟨(.type "getset_descriptor"), none, (.fields (List.toArray [(vS "__weakref__" 239), (.ref 22), (.builtin "ExceptionGroup.__weakref__"), .none])), List.toArray []⟩
noncomputable def o26_0 (P : Params) : Obj := ⟨(.ref 22), (some 20), .plain, List.toArray []⟩
noncomputable def o27_0 (P : Params) : Obj := ⟨.none, none, (.seq (List.toArray [(.int 11 0), (pk (o11_E P)), (.bool true), (.bool false), (vS "_sre" 271)]) 0), List.toArray []⟩
noncomputable def s0t (P : Params) : BT := (.node (o0_0 P) (.node (o1_0 P) (.node (o3_0 P) (.node (o7_0 P) (.node (o7_0 P) .nil .nil) (.node (o23_0 P) .nil .nil)) (.node (o11_0 P) (.node (o19_0 P) .nil .nil) (.node (o27_0 P) .nil .nil))) (.node (o5_0 P) (.node (o9_0 P) (.node (o17_0 P) .nil .nil) (.node (o25_0 P) .nil .nil)) (.node (o13_0 P) (.node (o21_0 P) .nil .nil) .nil))) (.node (o2_0 P) (.node (o4_0 P) (.node (o8_0 P) (.node (o16_0 P) .nil .nil) (.node (o24_0 P) .nil .nil)) (.node (o12_0 P) (.node (o20_0 P) .nil .nil) .nil)) (.node (o6_0 P) (.node (o10_0 P) (.node (o18_0 P) .nil .nil) (.node (o26_0 P) .nil .nil)) (.node (o14_0 P) (.node (o22_0 P) .nil .nil) .nil))))
noncomputable def s0 (w : World) (os : OsState) : SharedT := ⟨s0t w.params, 28, {}, #[], {}, 276, os⟩
noncomputable def sEt (P : Params) : BT := (.node (o0_0 P) (.node (o1_0 P) (.node (o3_0 P) (.node (o7_0 P) (.node (o7_0 P) .nil .nil) (.node (o23_0 P) .nil .nil)) (.node (o11_E P) (.node (o19_0 P) .nil .nil) (.node (o27_0 P) .nil .nil))) (.node (o5_0 P) (.node (o9_0 P) (.node (o17_0 P) .nil .nil) (.node (o25_0 P) .nil .nil)) (.node (o13_0 P) (.node (o21_0 P) .nil .nil) .nil))) (.node (o2_0 P) (.node (o4_0 P) (.node (o8_0 P) (.node (o16_0 P) .nil .nil) (.node (o24_0 P) .nil .nil)) (.node (o12_0 P) (.node (o20_0 P) .nil .nil) .nil)) (.node (o6_0 P) (.node (o10_0 P) (.node (o18_0 P) .nil .nil) (.node (o26_0 P) .nil .nil)) (.node (o14_0 P) (.node (o22_0 P) .nil .nil) .nil))))
noncomputable def o30_pre (P : Params) : Obj := ⟨(.type "code"), none, (.fields (List.toArray [(vS "<module>" 277), (vS "<module>" 278), (vS "/claim/cut.py" 279), (.int 1 0), (.int 0 0), (.int 0 0), (.int 0 0), (.int 0 0), (.ref 28), (.bool false), (.int 276 0), (.ref 29), .none, .none, .none, .none, (.int 280 0), (.int 1 0), (vS "/claim/cut.py" 281)])), List.toArray []⟩
noncomputable def o31_pre (P : Params) : Obj := ⟨(.type "frame"), none, .plain, List.toArray [(some (.ref 30)), (some (.ref 3)), (some (.ref 3)), none, (some (vS "__main__" 164)), none, (some (.ref 0))]⟩
noncomputable def sat (P : Params) : BT := (.node (o0_0 P) (.node (o1_0 P) (.node (o3_0 P) (.node (o7_0 P) (.node (o7_0 P) (.node (o31_pre P) .nil .nil) .nil) (.node (o23_0 P) .nil .nil)) (.node (o11_0 P) (.node (o19_0 P) .nil .nil) (.node (o27_0 P) .nil .nil))) (.node (o5_0 P) (.node (o9_0 P) (.node (o17_0 P) .nil .nil) (.node (o25_0 P) .nil .nil)) (.node (o13_0 P) (.node (o21_0 P) .nil .nil) (.node (o8_0 P) .nil .nil)))) (.node (o2_0 P) (.node (o4_0 P) (.node (o8_0 P) (.node (o16_0 P) .nil .nil) (.node (o24_0 P) .nil .nil)) (.node (o12_0 P) (.node (o20_0 P) .nil .nil) (.node (o7_0 P) .nil .nil))) (.node (o6_0 P) (.node (o10_0 P) (.node (o18_0 P) .nil .nil) (.node (o26_0 P) .nil .nil)) (.node (o14_0 P) (.node (o22_0 P) .nil .nil) (.node (o30_pre P) .nil .nil)))))
noncomputable def sa (w : World) (os : OsState) : SharedT := ⟨sat w.params, 32, {}, #[], {}, 282, os⟩
noncomputable def o3_3 (P : Params) : Obj := ⟨(.type "dict"), none, (.dict (List.toArray [en P "__name__" 165 (vS "__main__" 164), en P "__doc__" 166 .none, en P "__package__" 167 .none, en P "__loader__" 168 (.builtin "__main__.__loader__#opaque"), en P "__spec__" 169 .none, en P "__annotations__" 170 (.ref 6), en P "__builtins__" 171 (.ref 4), en P "__file__" 173 (vS "/claim/cut.py" 172), en P "__cached__" 174 .none, en P "_sre" 275 (.ref 12), en P "_twin_re_1" 316 (.ref 36), en P "CRLF" 318 (vS "\x0d\n" 317), en P "NL" 320 (vS "\n" 319)]) 13), List.toArray []⟩
noncomputable def o32_3 (P : Params) : Obj := ⟨(.type "list"), none, (.seq (List.toArray [(.int 14 285), (.int 8 286), (.int 1 287), (.int 3 288), (.int 3 289), (.int 1 290), (.int 1 291), (.int 61 292), (.int 0 293), (.int 16 294), (.int 61 295), (.int 24 296), (.int 16 297), (.int 2 298), (.int 2 299), (.int 13 300), (.int 11 301), (.int 9 302), (.int 0 303), (.int 67043328 304), (.int 126 305), (.int 126 306), (.int 0 307), (.int 0 308), (.int 0 309), (.int 0 310), (.int 0 311), (.int 1 312), (.int 1 313)]) 0), List.toArray []⟩
noncomputable def o34_3 (P : Params) : Obj := ⟨(.type "tuple"), none, (.seq (List.toArray [.none]) 0), List.toArray []⟩
noncomputable def o35_3 (P : Params) : Obj := ⟨(.type "tuple"), none, (.seq (List.toArray [(.int 14 0), (.int 8 0), (.int 1 0), (.int 3 0), (.int 3 0), (.int 1 0), (.int 1 0), (.int 61 0), (.int 0 0), (.int 16 0), (.int 61 0), (.int 24 0), (.int 16 0), (.int 2 0), (.int 2 0), (.int 13 0), (.int 11 0), (.int 9 0), (.int 0 0), (.int 67043328 0), (.int 126 0), (.int 126 0), (.int 0 0), (.int 0 0), (.int 0 0), (.int 0 0), (.int 0 0), (.int 1 0), (.int 1 0)]) 0), List.toArray []⟩
noncomputable def o36_3 (P : Params) : Obj := ⟨(.type "re.Pattern"), none, (.fields (List.toArray [(vS "=[a-fA-F0-9]{2}" 283), (.int 256 315), (.int 0 0), .none, .none, (.ref 35), (.int 0 0)])), List.toArray []⟩
noncomputable def s3t (P : Params) : BT := (.node (o0_0 P) (.node (o1_0 P) (.node (o3_3 P) (.node (o7_0 P) (.node (o7_0 P) (.node (o31_pre P) .nil .nil) .nil) (.node (o23_0 P) .nil .nil)) (.node (o11_0 P) (.node (o19_0 P) (.node (o35_3 P) .nil .nil) .nil) (.node (o27_0 P) .nil .nil))) (.node (o5_0 P) (.node (o9_0 P) (.node (o17_0 P) (.node (o6_0 P) .nil .nil) .nil) (.node (o25_0 P) .nil .nil)) (.node (o13_0 P) (.node (o21_0 P) .nil .nil) (.node (o8_0 P) .nil .nil)))) (.node (o2_0 P) (.node (o4_0 P) (.node (o8_0 P) (.node (o16_0 P) (.node (o32_3 P) .nil .nil) .nil) (.node (o24_0 P) .nil .nil)) (.node (o12_0 P) (.node (o20_0 P) (.node (o36_3 P) .nil .nil) .nil) (.node (o7_0 P) .nil .nil))) (.node (o6_0 P) (.node (o10_0 P) (.node (o18_0 P) (.node (o34_3 P) .nil .nil) .nil) (.node (o26_0 P) .nil .nil)) (.node (o14_0 P) (.node (o22_0 P) .nil .nil) (.node (o30_pre P) .nil .nil)))))
noncomputable def s3 (w : World) (os : OsState) : SharedT := ⟨s3t w.params, 37, {}, #[], {}, 321, os⟩
noncomputable def o37_4 (P : Params) : Obj := ⟨(.type "range"), none, (.fields (List.toArray [(.int 0 322), (.int 256 321), (.int 1 323)])), List.toArray []⟩
noncomputable def s4zt (P : Params) : BT := (.node (o0_0 P) (.node (o1_0 P) (.node (o3_3 P) (.node (o7_0 P) (.node (o7_0 P) (.node (o31_pre P) .nil .nil) .nil) (.node (o23_0 P) (.node (⟨.type "list", none, .seq (#[]) 0, List.toArray []⟩) .nil .nil) .nil)) (.node (o11_0 P) (.node (o19_0 P) (.node (o35_3 P) .nil .nil) .nil) (.node (o27_0 P) .nil .nil))) (.node (o5_0 P) (.node (o9_0 P) (.node (o17_0 P) (.node (o6_0 P) .nil .nil) .nil) (.node (o25_0 P) .nil .nil)) (.node (o13_0 P) (.node (o21_0 P) (.node (o37_4 P) .nil .nil) .nil) (.node (o8_0 P) .nil .nil)))) (.node (o2_0 P) (.node (o4_0 P) (.node (o8_0 P) (.node (o16_0 P) (.node (o32_3 P) .nil .nil) .nil) (.node (o24_0 P) (.node (⟨.type "dict", none, .dict (List.toArray []) 0, List.toArray []⟩) .nil .nil) .nil)) (.node (o12_0 P) (.node (o20_0 P) (.node (o36_3 P) .nil .nil) .nil) (.node (o7_0 P) .nil .nil))) (.node (o6_0 P) (.node (o10_0 P) (.node (o18_0 P) (.node (o34_3 P) .nil .nil) .nil) (.node (o26_0 P) .nil .nil)) (.node (o14_0 P) (.node (o22_0 P) (.node (⟨.type "range_iterator", none, .fields (List.toArray [.int 0 0, .int (256 - 0) 0, .int 1 0]), List.toArray []⟩) .nil .nil) .nil) (.node (o30_pre P) .nil .nil)))))
noncomputable def s4z (w : World) (os : OsState) : SharedT := ⟨s4zt w.params, 41, {}, #[], {}, 324, os⟩
noncomputable def s4t (P : Params)  (k : Nat) : BT := (.node (o0_0 P) (.node (o1_0 P) (.node (o3_3 P) (.node (o7_0 P) (.node (o7_0 P) (.node (o31_pre P) .nil .nil) .nil) (.node (o23_0 P) (.node (⟨.type "list", none, .seq (qPre k) k, List.toArray []⟩) .nil .nil) .nil)) (.node (o11_0 P) (.node (o19_0 P) (.node (o35_3 P) .nil .nil) .nil) (.node (o27_0 P) .nil .nil))) (.node (o5_0 P) (.node (o9_0 P) (.node (o17_0 P) (.node (o6_0 P) .nil .nil) .nil) (.node (o25_0 P) .nil .nil)) (.node (o13_0 P) (.node (o21_0 P) (.node (o37_4 P) .nil .nil) .nil) (.node (o8_0 P) .nil .nil)))) (.node (o2_0 P) (.node (o4_0 P) (.node (o8_0 P) (.node (o16_0 P) (.node (o32_3 P) .nil .nil) .nil) (.node (o24_0 P) (.node (⟨.type "dict", none, .dict (List.toArray [en P "c" 325 (.int (Int.ofNat (k - 1)) (320 + 4 * k))]) 1, List.toArray []⟩) .nil .nil) .nil)) (.node (o12_0 P) (.node (o20_0 P) (.node (o36_3 P) .nil .nil) .nil) (.node (o7_0 P) .nil .nil))) (.node (o6_0 P) (.node (o10_0 P) (.node (o18_0 P) (.node (o34_3 P) .nil .nil) .nil) (.node (o26_0 P) .nil .nil)) (.node (o14_0 P) (.node (o22_0 P) (.node (⟨.type "range_iterator", none, .fields (List.toArray [.int (Int.ofNat k) 0, .int (256 - (Int.ofNat k)) 0, .int 1 0]), List.toArray []⟩) .nil .nil) .nil) (.node (o30_pre P) .nil .nil)))))
noncomputable def s4 (w : World)  (k : Nat) (os : OsState) : SharedT := ⟨s4t w.params k, 41, {}, #[], {}, (324 + 4 * k), os⟩
noncomputable def o3_4 (P : Params) : Obj := ⟨(.type "dict"), none, (.dict (List.toArray [en P "__name__" 165 (vS "__main__" 164), en P "__doc__" 166 .none, en P "__package__" 167 .none, en P "__loader__" 168 (.builtin "__main__.__loader__#opaque"), en P "__spec__" 169 .none, en P "__annotations__" 170 (.ref 6), en P "__builtins__" 171 (.ref 4), en P "__file__" 173 (vS "/claim/cut.py" 172), en P "__cached__" 174 .none, en P "_sre" 275 (.ref 12), en P "_twin_re_1" 316 (.ref 36), en P "CRLF" 318 (vS "\x0d\n" 317), en P "NL" 320 (vS "\n" 319), en P "_QUOPRI_MAP" 1348 (.ref 39)]) 14), List.toArray []⟩
noncomputable def o38_4 (P : Params) : Obj := ⟨(.type "range_iterator"), none, (.fields (List.toArray [(.int 256 0), (.int 0 0), (.int 1 0)])), List.toArray []⟩
noncomputable def o40_4 (P : Params) : Obj := ⟨(.type "dict"), none, (.dict (List.toArray []) 2), List.toArray []⟩
noncomputable def o42_4 (P : Params) : Obj := ⟨(.type "StopIteration"), none, (.fields (List.toArray [(.ref 41), .none, .none, .none, (.bool false), .none])), List.toArray []⟩
noncomputable def s4et (P : Params) : BT := (.node (o0_0 P) (.node (o1_0 P) (.node (o3_4 P) (.node (o7_0 P) (.node (o7_0 P) (.node (o31_pre P) .nil .nil) .nil) (.node (o23_0 P) (.node (⟨.type "list", none, .seq (fl qItem) 256, List.toArray []⟩) .nil .nil) .nil)) (.node (o11_0 P) (.node (o19_0 P) (.node (o35_3 P) .nil .nil) .nil) (.node (o27_0 P) .nil .nil))) (.node (o5_0 P) (.node (o9_0 P) (.node (o17_0 P) (.node (o6_0 P) .nil .nil) .nil) (.node (o25_0 P) (.node (o7_0 P) .nil .nil) .nil)) (.node (o13_0 P) (.node (o21_0 P) (.node (o37_4 P) .nil .nil) .nil) (.node (o8_0 P) .nil .nil)))) (.node (o2_0 P) (.node (o4_0 P) (.node (o8_0 P) (.node (o16_0 P) (.node (o32_3 P) .nil .nil) .nil) (.node (o24_0 P) (.node (o40_4 P) .nil .nil) .nil)) (.node (o12_0 P) (.node (o20_0 P) (.node (o36_3 P) .nil .nil) .nil) (.node (o7_0 P) .nil .nil))) (.node (o6_0 P) (.node (o10_0 P) (.node (o18_0 P) (.node (o34_3 P) .nil .nil) .nil) (.node (o26_0 P) (.node (o42_4 P) .nil .nil) .nil)) (.node (o14_0 P) (.node (o22_0 P) (.node (o38_4 P) .nil .nil) .nil) (.node (o30_pre P) .nil .nil)))))
noncomputable def s4e (w : World) (os : OsState) : SharedT := ⟨s4et w.params, 43, {}, #[], {}, 1349, os⟩
noncomputable def o3_11 (P : Params) : Obj := ⟨(.type "dict"), none, (.dict (List.toArray [en P "__name__" 165 (vS "cpy313.email.quoprimime" 1359), en P "__doc__" 166 .none, en P "__package__" 167 .none, en P "__loader__" 168 (.builtin "__main__.__loader__#opaque"), en P "__spec__" 169 .none, en P "__annotations__" 170 (.ref 6), en P "__builtins__" 171 (.ref 4), en P "__file__" 173 (vS "/claim/cut.py" 172), en P "__cached__" 174 .none, en P "_sre" 275 (.ref 12), en P "_twin_re_1" 316 (.ref 36), en P "CRLF" 318 (vS "\x0d\n" 317), en P "NL" 320 (vS "\n" 319), en P "_QUOPRI_MAP" 1348 (.ref 39), en P "_QUOPRI_HEADER_MAP" 1349 (.ref 44), en P "_QUOPRI_BODY_MAP" 1350 (.ref 46), en P "ascii_lowercase" 1352 (vS "abcdefghijklmnopqrstuvwxyz" 1351), en P "ascii_uppercase" 1354 (vS "ABCDEFGHIJKLMNOPQRSTUVWXYZ" 1353), en P "ascii_letters" 1356 (vS "abcdefghijklmnopqrstuvwxyzABCDEFGHIJKLMNOPQRSTUVWXYZ" 1355), en P "digits" 1358 (vS "0123456789" 1357)]) 20), List.toArray []⟩
noncomputable def o43_11 (P : Params) : Obj := ⟨(.type "slice"), none, (.fields (List.toArray [.none, .none, .none])), List.toArray []⟩
noncomputable def s11t (P : Params) : BT := (.node (o0_0 P) (.node (o1_0 P) (.node (o3_11 P) (.node (o7_0 P) (.node (o7_0 P) (.node (o31_pre P) .nil .nil) .nil) (.node (o23_0 P) (.node (⟨.type "list", none, .seq (fl qItem) 256, List.toArray []⟩) .nil .nil) .nil)) (.node (o11_0 P) (.node (o19_0 P) (.node (o35_3 P) .nil .nil) .nil) (.node (o27_0 P) (.node (o43_11 P) .nil .nil) .nil))) (.node (o5_0 P) (.node (o9_0 P) (.node (o17_0 P) (.node (o6_0 P) .nil .nil) .nil) (.node (o25_0 P) (.node (o7_0 P) .nil .nil) .nil)) (.node (o13_0 P) (.node (o21_0 P) (.node (o37_4 P) .nil .nil) .nil) (.node (o8_0 P) (.node (o43_11 P) .nil .nil) .nil)))) (.node (o2_0 P) (.node (o4_0 P) (.node (o8_0 P) (.node (o16_0 P) (.node (o32_3 P) .nil .nil) .nil) (.node (o24_0 P) (.node (o40_4 P) .nil .nil) .nil)) (.node (o12_0 P) (.node (o20_0 P) (.node (o36_3 P) .nil .nil) .nil) (.node (o7_0 P) (.node (⟨.type "list", none, .seq (fl qItem) 0, List.toArray []⟩) .nil .nil) .nil))) (.node (o6_0 P) (.node (o10_0 P) (.node (o18_0 P) (.node (o34_3 P) .nil .nil) .nil) (.node (o26_0 P) (.node (o42_4 P) .nil .nil) .nil)) (.node (o14_0 P) (.node (o22_0 P) (.node (o38_4 P) .nil .nil) .nil) (.node (o30_pre P) (.node (⟨.type "list", none, .seq (fl qItem) 0, List.toArray []⟩) .nil .nil) .nil)))))
noncomputable def s11 (w : World) (os : OsState) : SharedT := ⟨s11t w.params, 47, {}, #[], {}, 1361, os⟩
noncomputable def m12 (P : Params) (cv : Value) : Obj := ⟨(.type "dict"), none, (.dict (List.toArray [en P "__name__" 165 (vS "cpy313.email.quoprimime" 1359), en P "__doc__" 166 .none, en P "__package__" 167 .none, en P "__loader__" 168 (.builtin "__main__.__loader__#opaque"), en P "__spec__" 169 .none, en P "__annotations__" 170 (.ref 6), en P "__builtins__" 171 (.ref 4), en P "__file__" 173 (vS "/claim/cut.py" 172), en P "__cached__" 174 .none, en P "_sre" 275 (.ref 12), en P "_twin_re_1" 316 (.ref 36), en P "CRLF" 318 (vS "\x0d\n" 317), en P "NL" 320 (vS "\n" 319), en P "_QUOPRI_MAP" 1348 (.ref 39), en P "_QUOPRI_HEADER_MAP" 1349 (.ref 44), en P "_QUOPRI_BODY_MAP" 1350 (.ref 46), en P "ascii_lowercase" 1352 (vS "abcdefghijklmnopqrstuvwxyz" 1351), en P "ascii_uppercase" 1354 (vS "ABCDEFGHIJKLMNOPQRSTUVWXYZ" 1353), en P "ascii_letters" 1356 (vS "abcdefghijklmnopqrstuvwxyzABCDEFGHIJKLMNOPQRSTUVWXYZ" 1355), en P "digits" 1358 (vS "0123456789" 1357), en P "c" 1369 cv]) 21), List.toArray []⟩
noncomputable def by12 : Array UInt8 := #[45, 33, 42, 43, 47, 97, 98, 99, 100, 101, 102, 103, 104, 105, 106, 107, 108, 109, 110, 111, 112, 113, 114, 115, 116, 117, 118, 119, 120, 121, 122, 65, 66, 67, 68, 69, 70, 71, 72, 73, 74, 75, 76, 77, 78, 79, 80, 81, 82, 83, 84, 85, 86, 87, 88, 89, 90, 48, 49, 50, 51, 52, 53, 54, 55, 56, 57]
noncomputable def by14 : Array UInt8 := #[32, 33, 34, 35, 36, 37, 38, 39, 40, 41, 42, 43, 44, 45, 46, 47, 48, 49, 50, 51, 52, 53, 54, 55, 56, 57, 58, 59, 60, 62, 63, 64, 65, 66, 67, 68, 69, 70, 71, 72, 73, 74, 75, 76, 77, 78, 79, 80, 81, 82, 83, 84, 85, 86, 87, 88, 89, 90, 91, 92, 93, 94, 95, 96, 97, 98, 99, 100, 101, 102, 103, 104, 105, 106, 107, 108, 109, 110, 111, 112, 113, 114, 115, 116, 117, 118, 119, 120, 121, 122, 123, 124, 125, 126, 9]
noncomputable def s12zt (P : Params) : BT := (.node (o0_0 P) (.node (o1_0 P) (.node (o3_11 P) (.node (o7_0 P) (.node (o7_0 P) (.node (o31_pre P) .nil .nil) (.node (⟨.type "bytes_iterator", none, .fields (List.toArray [.bytes by12 1367, .int 0 0]), List.toArray []⟩) .nil .nil)) (.node (o23_0 P) (.node (⟨.type "list", none, .seq (fl qItem) 256, List.toArray []⟩) .nil .nil) .nil)) (.node (o11_0 P) (.node (o19_0 P) (.node (o35_3 P) .nil .nil) .nil) (.node (o27_0 P) (.node (o43_11 P) .nil .nil) .nil))) (.node (o5_0 P) (.node (o9_0 P) (.node (o17_0 P) (.node (o6_0 P) .nil .nil) .nil) (.node (o25_0 P) (.node (o7_0 P) .nil .nil) .nil)) (.node (o13_0 P) (.node (o21_0 P) (.node (o37_4 P) .nil .nil) .nil) (.node (o8_0 P) (.node (o43_11 P) .nil .nil) .nil)))) (.node (o2_0 P) (.node (o4_0 P) (.node (o8_0 P) (.node (o16_0 P) (.node (o32_3 P) .nil .nil) .nil) (.node (o24_0 P) (.node (o40_4 P) .nil .nil) .nil)) (.node (o12_0 P) (.node (o20_0 P) (.node (o36_3 P) .nil .nil) .nil) (.node (o7_0 P) (.node (⟨.type "list", none, .seq (fl qItem) 0, List.toArray []⟩) .nil .nil) .nil))) (.node (o6_0 P) (.node (o10_0 P) (.node (o18_0 P) (.node (o34_3 P) .nil .nil) .nil) (.node (o26_0 P) (.node (o42_4 P) .nil .nil) .nil)) (.node (o14_0 P) (.node (o22_0 P) (.node (o38_4 P) .nil .nil) .nil) (.node (o30_pre P) (.node (⟨.type "list", none, .seq (fl qItem) 0, List.toArray []⟩) .nil .nil) .nil)))))
noncomputable def s12z (w : World) (os : OsState) : SharedT := ⟨s12zt w.params, 48, {}, #[], {}, 1368, os⟩
noncomputable def s12t (P : Params) (k : Nat) (f : Nat → Value) (cv : Value) : BT := (.node (o0_0 P) (.node (o1_0 P) (.node (m12 P cv) (.node (o7_0 P) (.node (o7_0 P) (.node (o31_pre P) .nil .nil) (.node (⟨.type "bytes_iterator", none, .fields (List.toArray [.bytes by12 1367, .int (Int.ofNat k) 0]), List.toArray []⟩) .nil .nil)) (.node (o23_0 P) (.node (⟨.type "list", none, .seq (fl qItem) 256, List.toArray []⟩) .nil .nil) .nil)) (.node (o11_0 P) (.node (o19_0 P) (.node (o35_3 P) .nil .nil) .nil) (.node (o27_0 P) (.node (o43_11 P) .nil .nil) .nil))) (.node (o5_0 P) (.node (o9_0 P) (.node (o17_0 P) (.node (o6_0 P) .nil .nil) .nil) (.node (o25_0 P) (.node (o7_0 P) .nil .nil) .nil)) (.node (o13_0 P) (.node (o21_0 P) (.node (o37_4 P) .nil .nil) .nil) (.node (o8_0 P) (.node (o43_11 P) .nil .nil) .nil)))) (.node (o2_0 P) (.node (o4_0 P) (.node (o8_0 P) (.node (o16_0 P) (.node (o32_3 P) .nil .nil) .nil) (.node (o24_0 P) (.node (o40_4 P) .nil .nil) .nil)) (.node (o12_0 P) (.node (o20_0 P) (.node (o36_3 P) .nil .nil) .nil) (.node (o7_0 P) (.node (⟨.type "list", none, .seq (fl f) 0, List.toArray []⟩) .nil .nil) .nil))) (.node (o6_0 P) (.node (o10_0 P) (.node (o18_0 P) (.node (o34_3 P) .nil .nil) .nil) (.node (o26_0 P) (.node (o42_4 P) .nil .nil) .nil)) (.node (o14_0 P) (.node (o22_0 P) (.node (o38_4 P) .nil .nil) .nil) (.node (o30_pre P) (.node (⟨.type "list", none, .seq (fl qItem) 0, List.toArray []⟩) .nil .nil) .nil)))))
noncomputable def s12 (w : World) (k : Nat) (f : Nat → Value) (cv : Value) (os : OsState) : SharedT := ⟨s12t w.params k f cv, 48, {}, #[], {}, (1368 + 3 * k), os⟩
noncomputable def ch (c t : Nat) : Value := .str ⟨#[c]⟩ t
noncomputable def f12 : Nat → Value := (ufn (ufn (ufn (ufn (ufn (ufn (ufn (ufn (ufn (ufn (ufn (ufn (ufn (ufn (ufn (ufn (ufn (ufn (ufn (ufn (ufn (ufn (ufn (ufn (ufn (ufn (ufn (ufn (ufn (ufn (ufn (ufn (ufn (ufn (ufn (ufn (ufn (ufn (ufn (ufn (ufn (ufn (ufn (ufn (ufn (ufn (ufn (ufn (ufn (ufn (ufn (ufn (ufn (ufn (ufn (ufn (ufn (ufn (ufn (ufn (ufn (ufn (ufn (ufn (ufn (ufn (ufn qItem 45 (ch 45 1370)) 33 (ch 33 1373)) 42 (ch 42 1376)) 43 (ch 43 1379)) 47 (ch 47 1382)) 97 (ch 97 1385)) 98 (ch 98 1388)) 99 (ch 99 1391)) 100 (ch 100 1394)) 101 (ch 101 1397)) 102 (ch 102 1400)) 103 (ch 103 1403)) 104 (ch 104 1406)) 105 (ch 105 1409)) 106 (ch 106 1412)) 107 (ch 107 1415)) 108 (ch 108 1418)) 109 (ch 109 1421)) 110 (ch 110 1424)) 111 (ch 111 1427)) 112 (ch 112 1430)) 113 (ch 113 1433)) 114 (ch 114 1436)) 115 (ch 115 1439)) 116 (ch 116 1442)) 117 (ch 117 1445)) 118 (ch 118 1448)) 119 (ch 119 1451)) 120 (ch 120 1454)) 121 (ch 121 1457)) 122 (ch 122 1460)) 65 (ch 65 1463)) 66 (ch 66 1466)) 67 (ch 67 1469)) 68 (ch 68 1472)) 69 (ch 69 1475)) 70 (ch 70 1478)) 71 (ch 71 1481)) 72 (ch 72 1484)) 73 (ch 73 1487)) 74 (ch 74 1490)) 75 (ch 75 1493)) 76 (ch 76 1496)) 77 (ch 77 1499)) 78 (ch 78 1502)) 79 (ch 79 1505)) 80 (ch 80 1508)) 81 (ch 81 1511)) 82 (ch 82 1514)) 83 (ch 83 1517)) 84 (ch 84 1520)) 85 (ch 85 1523)) 86 (ch 86 1526)) 87 (ch 87 1529)) 88 (ch 88 1532)) 89 (ch 89 1535)) 90 (ch 90 1538)) 48 (ch 48 1541)) 49 (ch 49 1544)) 50 (ch 50 1547)) 51 (ch 51 1550)) 52 (ch 52 1553)) 53 (ch 53 1556)) 54 (ch 54 1559)) 55 (ch 55 1562)) 56 (ch 56 1565)) 57 (ch 57 1568))
noncomputable def f13 : Nat → Value := ufn f12 32 (ch 95 1569)
noncomputable def o3_12 (P : Params) : Obj := ⟨(.type "dict"), none, (.dict (List.toArray [en P "__name__" 165 (vS "cpy313.email.quoprimime" 1359), en P "__doc__" 166 .none, en P "__package__" 167 .none, en P "__loader__" 168 (.builtin "__main__.__loader__#opaque"), en P "__spec__" 169 .none, en P "__annotations__" 170 (.ref 6), en P "__builtins__" 171 (.ref 4), en P "__file__" 173 (vS "/claim/cut.py" 172), en P "__cached__" 174 .none, en P "_sre" 275 (.ref 12), en P "_twin_re_1" 316 (.ref 36), en P "CRLF" 318 (vS "\x0d\n" 317), en P "NL" 320 (vS "\n" 319), en P "_QUOPRI_MAP" 1348 (.ref 39), en P "_QUOPRI_HEADER_MAP" 1349 (.ref 44), en P "_QUOPRI_BODY_MAP" 1350 (.ref 46), en P "ascii_lowercase" 1352 (vS "abcdefghijklmnopqrstuvwxyz" 1351), en P "ascii_uppercase" 1354 (vS "ABCDEFGHIJKLMNOPQRSTUVWXYZ" 1353), en P "ascii_letters" 1356 (vS "abcdefghijklmnopqrstuvwxyzABCDEFGHIJKLMNOPQRSTUVWXYZ" 1355), en P "digits" 1358 (vS "0123456789" 1357), en P "c" 1369 (.int 57 1566)]) 21), List.toArray []⟩
noncomputable def o47_12 (P : Params) : Obj := ⟨(.type "bytes_iterator"), none, (.fields (List.toArray [.none, (.int 67 0)])), List.toArray []⟩
noncomputable def o49_12 (P : Params) : Obj := ⟨(.type "StopIteration"), none, (.fields (List.toArray [(.ref 48), .none, .none, .none, (.bool false), .none])), List.toArray []⟩
noncomputable def s12et (P : Params) : BT := (.node (o0_0 P) (.node (o1_0 P) (.node (o3_12 P) (.node (o7_0 P) (.node (o7_0 P) (.node (o31_pre P) .nil .nil) (.node (o47_12 P) .nil .nil)) (.node (o23_0 P) (.node (⟨.type "list", none, .seq (fl qItem) 256, List.toArray []⟩) .nil .nil) .nil)) (.node (o11_0 P) (.node (o19_0 P) (.node (o35_3 P) .nil .nil) .nil) (.node (o27_0 P) (.node (o43_11 P) .nil .nil) .nil))) (.node (o5_0 P) (.node (o9_0 P) (.node (o17_0 P) (.node (o6_0 P) .nil .nil) (.node (o49_12 P) .nil .nil)) (.node (o25_0 P) (.node (o7_0 P) .nil .nil) .nil)) (.node (o13_0 P) (.node (o21_0 P) (.node (o37_4 P) .nil .nil) .nil) (.node (o8_0 P) (.node (o43_11 P) .nil .nil) .nil)))) (.node (o2_0 P) (.node (o4_0 P) (.node (o8_0 P) (.node (o16_0 P) (.node (o32_3 P) .nil .nil) (.node (o7_0 P) .nil .nil)) (.node (o24_0 P) (.node (o40_4 P) .nil .nil) .nil)) (.node (o12_0 P) (.node (o20_0 P) (.node (o36_3 P) .nil .nil) .nil) (.node (o7_0 P) (.node (⟨.type "list", none, .seq (fl f12) 0, List.toArray []⟩) .nil .nil) .nil))) (.node (o6_0 P) (.node (o10_0 P) (.node (o18_0 P) (.node (o34_3 P) .nil .nil) .nil) (.node (o26_0 P) (.node (o42_4 P) .nil .nil) .nil)) (.node (o14_0 P) (.node (o22_0 P) (.node (o38_4 P) .nil .nil) .nil) (.node (o30_pre P) (.node (⟨.type "list", none, .seq (fl qItem) 0, List.toArray []⟩) .nil .nil) .nil)))))
noncomputable def s12e (w : World) (os : OsState) : SharedT := ⟨s12et w.params, 50, {}, #[], {}, 1569, os⟩
noncomputable def s13t (P : Params) : BT := (.node (o0_0 P) (.node (o1_0 P) (.node (o3_12 P) (.node (o7_0 P) (.node (o7_0 P) (.node (o31_pre P) .nil .nil) (.node (o47_12 P) .nil .nil)) (.node (o23_0 P) (.node (⟨.type "list", none, .seq (fl qItem) 256, List.toArray []⟩) .nil .nil) .nil)) (.node (o11_0 P) (.node (o19_0 P) (.node (o35_3 P) .nil .nil) .nil) (.node (o27_0 P) (.node (o43_11 P) .nil .nil) .nil))) (.node (o5_0 P) (.node (o9_0 P) (.node (o17_0 P) (.node (o6_0 P) .nil .nil) (.node (o49_12 P) .nil .nil)) (.node (o25_0 P) (.node (o7_0 P) .nil .nil) .nil)) (.node (o13_0 P) (.node (o21_0 P) (.node (o37_4 P) .nil .nil) .nil) (.node (o8_0 P) (.node (o43_11 P) .nil .nil) .nil)))) (.node (o2_0 P) (.node (o4_0 P) (.node (o8_0 P) (.node (o16_0 P) (.node (o32_3 P) .nil .nil) (.node (o7_0 P) .nil .nil)) (.node (o24_0 P) (.node (o40_4 P) .nil .nil) .nil)) (.node (o12_0 P) (.node (o20_0 P) (.node (o36_3 P) .nil .nil) .nil) (.node (o7_0 P) (.node (⟨.type "list", none, .seq (fl f13) 0, List.toArray []⟩) .nil .nil) .nil))) (.node (o6_0 P) (.node (o10_0 P) (.node (o18_0 P) (.node (o34_3 P) .nil .nil) .nil) (.node (o26_0 P) (.node (o42_4 P) .nil .nil) .nil)) (.node (o14_0 P) (.node (o22_0 P) (.node (o38_4 P) .nil .nil) .nil) (.node (o30_pre P) (.node (⟨.type "list", none, .seq (fl qItem) 0, List.toArray []⟩) .nil .nil) .nil)))))
noncomputable def s13 (w : World) (os : OsState) : SharedT := ⟨s13t w.params, 50, {}, #[], {}, 1572, os⟩
noncomputable def s14t (P : Params) (k : Nat) (f : Nat → Value) (cv : Value) : BT := (.node (o0_0 P) (.node (o1_0 P) (.node (m12 P cv) (.node (o7_0 P) (.node (o7_0 P) (.node (o31_pre P) .nil .nil) (.node (o47_12 P) .nil .nil)) (.node (o23_0 P) (.node (⟨.type "list", none, .seq (fl qItem) 256, List.toArray []⟩) .nil .nil) .nil)) (.node (o11_0 P) (.node (o19_0 P) (.node (o35_3 P) .nil .nil) .nil) (.node (o27_0 P) (.node (o43_11 P) .nil .nil) .nil))) (.node (o5_0 P) (.node (o9_0 P) (.node (o17_0 P) (.node (o6_0 P) .nil .nil) (.node (o49_12 P) .nil .nil)) (.node (o25_0 P) (.node (o7_0 P) .nil .nil) .nil)) (.node (o13_0 P) (.node (o21_0 P) (.node (o37_4 P) .nil .nil) .nil) (.node (o8_0 P) (.node (o43_11 P) .nil .nil) .nil)))) (.node (o2_0 P) (.node (o4_0 P) (.node (o8_0 P) (.node (o16_0 P) (.node (o32_3 P) .nil .nil) (.node (o7_0 P) .nil .nil)) (.node (o24_0 P) (.node (o40_4 P) .nil .nil) .nil)) (.node (o12_0 P) (.node (o20_0 P) (.node (o36_3 P) .nil .nil) .nil) (.node (o7_0 P) (.node (⟨.type "list", none, .seq (fl f13) 0, List.toArray []⟩) .nil .nil) .nil))) (.node (o6_0 P) (.node (o10_0 P) (.node (o18_0 P) (.node (o34_3 P) .nil .nil) (.node (⟨.type "bytes_iterator", none, .fields (List.toArray [.bytes by14 1572, .int (Int.ofNat k) 0]), List.toArray []⟩) .nil .nil)) (.node (o26_0 P) (.node (o42_4 P) .nil .nil) .nil)) (.node (o14_0 P) (.node (o22_0 P) (.node (o38_4 P) .nil .nil) .nil) (.node (o30_pre P) (.node (⟨.type "list", none, .seq (fl f) 0, List.toArray []⟩) .nil .nil) .nil)))))
noncomputable def s14 (w : World) (k : Nat) (f : Nat → Value) (cv : Value) (os : OsState) : SharedT := ⟨s14t w.params k f cv, 51, {}, #[], {}, (1573 + 3 * k), os⟩
noncomputable def f14 : Nat → Value := (ufn (ufn (ufn (ufn (ufn (ufn (ufn (ufn (ufn (ufn (ufn (ufn (ufn (ufn (ufn (ufn (ufn (ufn (ufn (ufn (ufn (ufn (ufn (ufn (ufn (ufn (ufn (ufn (ufn (ufn (ufn (ufn (ufn (ufn (ufn (ufn (ufn (ufn (ufn (ufn (ufn (ufn (ufn (ufn (ufn (ufn (ufn (ufn (ufn (ufn (ufn (ufn (ufn (ufn (ufn (ufn (ufn (ufn (ufn (ufn (ufn (ufn (ufn (ufn (ufn (ufn (ufn (ufn (ufn (ufn (ufn (ufn (ufn (ufn (ufn (ufn (ufn (ufn (ufn (ufn (ufn (ufn (ufn (ufn (ufn (ufn (ufn (ufn (ufn (ufn (ufn (ufn (ufn (ufn (ufn qItem 32 (ch 32 1575)) 33 (ch 33 1578)) 34 (ch 34 1581)) 35 (ch 35 1584)) 36 (ch 36 1587)) 37 (ch 37 1590)) 38 (ch 38 1593)) 39 (ch 39 1596)) 40 (ch 40 1599)) 41 (ch 41 1602)) 42 (ch 42 1605)) 43 (ch 43 1608)) 44 (ch 44 1611)) 45 (ch 45 1614)) 46 (ch 46 1617)) 47 (ch 47 1620)) 48 (ch 48 1623)) 49 (ch 49 1626)) 50 (ch 50 1629)) 51 (ch 51 1632)) 52 (ch 52 1635)) 53 (ch 53 1638)) 54 (ch 54 1641)) 55 (ch 55 1644)) 56 (ch 56 1647)) 57 (ch 57 1650)) 58 (ch 58 1653)) 59 (ch 59 1656)) 60 (ch 60 1659)) 62 (ch 62 1662)) 63 (ch 63 1665)) 64 (ch 64 1668)) 65 (ch 65 1671)) 66 (ch 66 1674)) 67 (ch 67 1677)) 68 (ch 68 1680)) 69 (ch 69 1683)) 70 (ch 70 1686)) 71 (ch 71 1689)) 72 (ch 72 1692)) 73 (ch 73 1695)) 74 (ch 74 1698)) 75 (ch 75 1701)) 76 (ch 76 1704)) 77 (ch 77 1707)) 78 (ch 78 1710)) 79 (ch 79 1713)) 80 (ch 80 1716)) 81 (ch 81 1719)) 82 (ch 82 1722)) 83 (ch 83 1725)) 84 (ch 84 1728)) 85 (ch 85 1731)) 86 (ch 86 1734)) 87 (ch 87 1737)) 88 (ch 88 1740)) 89 (ch 89 1743)) 90 (ch 90 1746)) 91 (ch 91 1749)) 92 (ch 92 1752)) 93 (ch 93 1755)) 94 (ch 94 1758)) 95 (ch 95 1761)) 96 (ch 96 1764)) 97 (ch 97 1767)) 98 (ch 98 1770)) 99 (ch 99 1773)) 100 (ch 100 1776)) 101 (ch 101 1779)) 102 (ch 102 1782)) 103 (ch 103 1785)) 104 (ch 104 1788)) 105 (ch 105 1791)) 106 (ch 106 1794)) 107 (ch 107 1797)) 108 (ch 108 1800)) 109 (ch 109 1803)) 110 (ch 110 1806)) 111 (ch 111 1809)) 112 (ch 112 1812)) 113 (ch 113 1815)) 114 (ch 114 1818)) 115 (ch 115 1821)) 116 (ch 116 1824)) 117 (ch 117 1827)) 118 (ch 118 1830)) 119 (ch 119 1833)) 120 (ch 120 1836)) 121 (ch 121 1839)) 122 (ch 122 1842)) 123 (ch 123 1845)) 124 (ch 124 1848)) 125 (ch 125 1851)) 126 (ch 126 1854)) 9 (ch 9 1857))
noncomputable def o3_14 (P : Params) : Obj := ⟨(.type "dict"), none, (.dict (List.toArray [en P "__name__" 165 (vS "cpy313.email.quoprimime" 1359), en P "__doc__" 166 .none, en P "__package__" 167 .none, en P "__loader__" 168 (.builtin "__main__.__loader__#opaque"), en P "__spec__" 169 .none, en P "__annotations__" 170 (.ref 6), en P "__builtins__" 171 (.ref 4), en P "__file__" 173 (vS "/claim/cut.py" 172), en P "__cached__" 174 .none, en P "_sre" 275 (.ref 12), en P "_twin_re_1" 316 (.ref 36), en P "CRLF" 318 (vS "\x0d\n" 317), en P "NL" 320 (vS "\n" 319), en P "_QUOPRI_MAP" 1348 (.ref 39), en P "_QUOPRI_HEADER_MAP" 1349 (.ref 44), en P "_QUOPRI_BODY_MAP" 1350 (.ref 46), en P "ascii_lowercase" 1352 (vS "abcdefghijklmnopqrstuvwxyz" 1351), en P "ascii_uppercase" 1354 (vS "ABCDEFGHIJKLMNOPQRSTUVWXYZ" 1353), en P "ascii_letters" 1356 (vS "abcdefghijklmnopqrstuvwxyzABCDEFGHIJKLMNOPQRSTUVWXYZ" 1355), en P "digits" 1358 (vS "0123456789" 1357), en P "c" 1369 (.int 9 1855)]) 21), List.toArray []⟩
noncomputable def o50_14 (P : Params) : Obj := ⟨(.type "bytes_iterator"), none, (.fields (List.toArray [.none, (.int 95 0)])), List.toArray []⟩
noncomputable def o52_14 (P : Params) : Obj := ⟨(.type "StopIteration"), none, (.fields (List.toArray [(.ref 51), .none, .none, .none, (.bool false), .none])), List.toArray []⟩
noncomputable def s14et (P : Params) : BT := (.node (o0_0 P) (.node (o1_0 P) (.node (o3_14 P) (.node (o7_0 P) (.node (o7_0 P) (.node (o31_pre P) .nil .nil) (.node (o47_12 P) .nil .nil)) (.node (o23_0 P) (.node (⟨.type "list", none, .seq (fl qItem) 256, List.toArray []⟩) .nil .nil) .nil)) (.node (o11_0 P) (.node (o19_0 P) (.node (o35_3 P) .nil .nil) (.node (o7_0 P) .nil .nil)) (.node (o27_0 P) (.node (o43_11 P) .nil .nil) .nil))) (.node (o5_0 P) (.node (o9_0 P) (.node (o17_0 P) (.node (o6_0 P) .nil .nil) (.node (o49_12 P) .nil .nil)) (.node (o25_0 P) (.node (o7_0 P) .nil .nil) .nil)) (.node (o13_0 P) (.node (o21_0 P) (.node (o37_4 P) .nil .nil) .nil) (.node (o8_0 P) (.node (o43_11 P) .nil .nil) .nil)))) (.node (o2_0 P) (.node (o4_0 P) (.node (o8_0 P) (.node (o16_0 P) (.node (o32_3 P) .nil .nil) (.node (o7_0 P) .nil .nil)) (.node (o24_0 P) (.node (o40_4 P) .nil .nil) .nil)) (.node (o12_0 P) (.node (o20_0 P) (.node (o36_3 P) .nil .nil) (.node (o52_14 P) .nil .nil)) (.node (o7_0 P) (.node (⟨.type "list", none, .seq (fl f13) 0, List.toArray []⟩) .nil .nil) .nil))) (.node (o6_0 P) (.node (o10_0 P) (.node (o18_0 P) (.node (o34_3 P) .nil .nil) (.node (o50_14 P) .nil .nil)) (.node (o26_0 P) (.node (o42_4 P) .nil .nil) .nil)) (.node (o14_0 P) (.node (o22_0 P) (.node (o38_4 P) .nil .nil) .nil) (.node (o30_pre P) (.node (⟨.type "list", none, .seq (fl f14) 0, List.toArray []⟩) .nil .nil) .nil)))))
noncomputable def s14e (w : World) (os : OsState) : SharedT := ⟨s14et w.params, 53, {}, #[], {}, 1858, os⟩
noncomputable def o3_17 (P : Params) : Obj := ⟨(.type "dict"), none, (.dict (List.toArray [en P "__name__" 165 (vS "cpy313.email.quoprimime" 1359), en P "__doc__" 166 .none, en P "__package__" 167 .none, en P "__loader__" 168 (.builtin "__main__.__loader__#opaque"), en P "__spec__" 169 .none, en P "__annotations__" 170 (.ref 6), en P "__builtins__" 171 (.ref 4), en P "__file__" 173 (vS "/claim/cut.py" 172), en P "__cached__" 174 .none, en P "_sre" 275 (.ref 12), en P "_twin_re_1" 316 (.ref 36), en P "CRLF" 318 (vS "\x0d\n" 317), en P "NL" 320 (vS "\n" 319), en P "_QUOPRI_MAP" 1348 (.ref 39), en P "_QUOPRI_HEADER_MAP" 1349 (.ref 44), en P "_QUOPRI_BODY_MAP" 1350 (.ref 46), en P "ascii_lowercase" 1352 (vS "abcdefghijklmnopqrstuvwxyz" 1351), en P "ascii_uppercase" 1354 (vS "ABCDEFGHIJKLMNOPQRSTUVWXYZ" 1353), en P "ascii_letters" 1356 (vS "abcdefghijklmnopqrstuvwxyzABCDEFGHIJKLMNOPQRSTUVWXYZ" 1355), en P "digits" 1358 (vS "0123456789" 1357), en P "c" 1369 (.int 9 1855), en P "unquote" 1864 (.ref 59), en P "quote" 1871 (.ref 66), en P "_QUOPRI_BODY_ENCODE_MAP" 1872 (.ref 68)]) 24), List.toArray []⟩
noncomputable def o29_17 (P : Params) : Obj := ⟨.none, none, (.fields (List.toArray [(.int 18 0), (.int 0 0), (.ref 58), (.int 20 0), (.int 0 0), (.ref 65)])), List.toArray []⟩
noncomputable def o55_17 (P : Params) : Obj := ⟨(.type "tuple"), none, (.seq (List.toArray [(vS "s" 1861)]) 0), List.toArray []⟩
noncomputable def o57_17 (P : Params) : Obj := ⟨.none, none, (.func ⟨.ofString "unquote", .ofString "unquote", paramsOf (S 15), .stmts (bodyOf (S 15)), scopeOf (S 15), 0, [], .none, .none, .none, .none, none, .none, .none, 0⟩), List.toArray []⟩
noncomputable def o58_17 (P : Params) : Obj := ⟨(.type "code"), none, (.fields (List.toArray [(vS "unquote" 1858), (vS "unquote" 1859), (vS "/claim/cut.py" 1860), (.int 18 0), (.int 1 0), (.int 0 0), (.int 0 0), (.int 3 0), (.ref 53), (.bool true), (.int 276 0), (.ref 54), .none, (.ref 55), (.ref 56), (.ref 57), (.int 1862 0), (.int 18 0), (vS "/claim/cut.py" 1863)])), List.toArray []⟩
noncomputable def o59_17 (P : Params) : Obj := ⟨(.type "function"), none, (.func ⟨.ofString "unquote", .ofString "unquote", paramsOf (S 15), .stmts (bodyOf (S 15)), scopeOf (S 15), 3, [], .none, .none, .none, (vS "cpy313.email.quoprimime" 1359), none, (.ref 58), .none, 0⟩), List.toArray []⟩
noncomputable def o62_17 (P : Params) : Obj := ⟨(.type "tuple"), none, (.seq (List.toArray [(vS "c" 1868)]) 0), List.toArray []⟩
noncomputable def o64_17 (P : Params) : Obj := ⟨.none, none, (.func ⟨.ofString "quote", .ofString "quote", paramsOf (S 16), .stmts (bodyOf (S 16)), scopeOf (S 16), 0, [], .none, .none, .none, .none, none, .none, .none, 0⟩), List.toArray []⟩
noncomputable def o65_17 (P : Params) : Obj := ⟨(.type "code"), none, (.fields (List.toArray [(vS "quote" 1865), (vS "quote" 1866), (vS "/claim/cut.py" 1867), (.int 20 0), (.int 1 0), (.int 0 0), (.int 0 0), (.int 3 0), (.ref 60), (.bool true), (.int 276 0), (.ref 61), .none, (.ref 62), (.ref 63), (.ref 64), (.int 1869 0), (.int 20 0), (vS "/claim/cut.py" 1870)])), List.toArray []⟩
noncomputable def o66_17 (P : Params) : Obj := ⟨(.type "function"), none, (.func ⟨.ofString "quote", .ofString "quote", paramsOf (S 16), .stmts (bodyOf (S 16)), scopeOf (S 16), 3, [], .none, .none, .none, (vS "cpy313.email.quoprimime" 1359), none, (.ref 65), .none, 0⟩), List.toArray []⟩
noncomputable def s17t (P : Params) : BT := (.node (o0_0 P) (.node (o1_0 P) (.node (o3_17 P) (.node (o7_0 P) (.node (o7_0 P) (.node (o31_pre P) (.node (o7_0 P) .nil .nil) .nil) (.node (o47_12 P) .nil .nil)) (.node (o23_0 P) (.node (⟨.type "list", none, .seq (fl qItem) 256, List.toArray []⟩) .nil .nil) (.node (o55_17 P) .nil .nil))) (.node (o11_0 P) (.node (o19_0 P) (.node (o35_3 P) (.node (o43_11 P) .nil .nil) .nil) (.node (o7_0 P) .nil .nil)) (.node (o27_0 P) (.node (o43_11 P) .nil .nil) (.node (o59_17 P) .nil .nil)))) (.node (o5_0 P) (.node (o9_0 P) (.node (o17_0 P) (.node (o6_0 P) (.node (o65_17 P) .nil .nil) .nil) (.node (o49_12 P) .nil .nil)) (.node (o25_0 P) (.node (o7_0 P) .nil .nil) (.node (o57_17 P) .nil .nil))) (.node (o13_0 P) (.node (o21_0 P) (.node (o37_4 P) .nil .nil) (.node (o7_0 P) .nil .nil)) (.node (o29_17 P) (.node (o43_11 P) .nil .nil) (.node (o8_0 P) .nil .nil))))) (.node (o2_0 P) (.node (o4_0 P) (.node (o8_0 P) (.node (o16_0 P) (.node (o32_3 P) (.node (o64_17 P) .nil .nil) .nil) (.node (o7_0 P) .nil .nil)) (.node (o24_0 P) (.node (o40_4 P) .nil .nil) (.node (o7_0 P) .nil .nil))) (.node (o12_0 P) (.node (o20_0 P) (.node (o36_3 P) (.node (⟨.type "list", none, .seq (fl f14) 0, List.toArray []⟩) .nil .nil) .nil) (.node (o52_14 P) .nil .nil)) (.node (o7_0 P) (.node (⟨.type "list", none, .seq (fl f13) 0, List.toArray []⟩) .nil .nil) (.node (o7_0 P) .nil .nil)))) (.node (o6_0 P) (.node (o10_0 P) (.node (o18_0 P) (.node (o34_3 P) (.node (o66_17 P) .nil .nil) .nil) (.node (o50_14 P) .nil .nil)) (.node (o26_0 P) (.node (o42_4 P) .nil .nil) (.node (o58_17 P) .nil .nil))) (.node (o14_0 P) (.node (o22_0 P) (.node (o38_4 P) .nil .nil) (.node (o8_0 P) .nil .nil)) (.node (o30_pre P) (.node (⟨.type "list", none, .seq (fl f14) 0, List.toArray []⟩) .nil .nil) (.node (o62_17 P) .nil .nil))))))
noncomputable def s17 (w : World) (os : OsState) : SharedT := ⟨s17t w.params, 69, {}, #[], {}, 1873, os⟩
noncomputable def f18 : Nat → Value := ufn (ufn f14 13 (ch 13 1876)) 10 (ch 10 1879)
noncomputable def o3_18 (P : Params) : Obj := ⟨(.type "dict"), none, (.dict (List.toArray [en P "__name__" 165 (vS "cpy313.email.quoprimime" 1359), en P "__doc__" 166 .none, en P "__package__" 167 .none, en P "__loader__" 168 (.builtin "__main__.__loader__#opaque"), en P "__spec__" 169 .none, en P "__annotations__" 170 (.ref 6), en P "__builtins__" 171 (.ref 4), en P "__file__" 173 (vS "/claim/cut.py" 172), en P "__cached__" 174 .none, en P "_sre" 275 (.ref 12), en P "_twin_re_1" 316 (.ref 36), en P "CRLF" 318 (vS "\x0d\n" 317), en P "NL" 320 (vS "\n" 319), en P "_QUOPRI_MAP" 1348 (.ref 39), en P "_QUOPRI_HEADER_MAP" 1349 (.ref 44), en P "_QUOPRI_BODY_MAP" 1350 (.ref 46), en P "ascii_lowercase" 1352 (vS "abcdefghijklmnopqrstuvwxyz" 1351), en P "ascii_uppercase" 1354 (vS "ABCDEFGHIJKLMNOPQRSTUVWXYZ" 1353), en P "ascii_letters" 1356 (vS "abcdefghijklmnopqrstuvwxyzABCDEFGHIJKLMNOPQRSTUVWXYZ" 1355), en P "digits" 1358 (vS "0123456789" 1357), en P "c" 1369 (.int 10 1877), en P "unquote" 1864 (.ref 59), en P "quote" 1871 (.ref 66), en P "_QUOPRI_BODY_ENCODE_MAP" 1872 (.ref 68)]) 24), List.toArray []⟩
noncomputable def o69_18 (P : Params) : Obj := ⟨(.type "bytes_iterator"), none, (.fields (List.toArray [.none, (.int 2 0)])), List.toArray []⟩
noncomputable def o71_18 (P : Params) : Obj := ⟨(.type "StopIteration"), none, (.fields (List.toArray [(.ref 70), .none, .none, .none, (.bool false), .none])), List.toArray []⟩
noncomputable def s18t (P : Params) : BT := (.node (o0_0 P) (.node (o1_0 P) (.node (o3_18 P) (.node (o7_0 P) (.node (o7_0 P) (.node (o31_pre P) (.node (o7_0 P) .nil .nil) .nil) (.node (o47_12 P) .nil .nil)) (.node (o23_0 P) (.node (⟨.type "list", none, .seq (fl qItem) 256, List.toArray []⟩) (.node (o71_18 P) .nil .nil) .nil) (.node (o55_17 P) .nil .nil))) (.node (o11_0 P) (.node (o19_0 P) (.node (o35_3 P) (.node (o43_11 P) .nil .nil) .nil) (.node (o7_0 P) .nil .nil)) (.node (o27_0 P) (.node (o43_11 P) .nil .nil) (.node (o59_17 P) .nil .nil)))) (.node (o5_0 P) (.node (o9_0 P) (.node (o17_0 P) (.node (o6_0 P) (.node (o65_17 P) .nil .nil) .nil) (.node (o49_12 P) .nil .nil)) (.node (o25_0 P) (.node (o7_0 P) .nil .nil) (.node (o57_17 P) .nil .nil))) (.node (o13_0 P) (.node (o21_0 P) (.node (o37_4 P) (.node (o69_18 P) .nil .nil) .nil) (.node (o7_0 P) .nil .nil)) (.node (o29_17 P) (.node (o43_11 P) .nil .nil) (.node (o8_0 P) .nil .nil))))) (.node (o2_0 P) (.node (o4_0 P) (.node (o8_0 P) (.node (o16_0 P) (.node (o32_3 P) (.node (o64_17 P) .nil .nil) .nil) (.node (o7_0 P) .nil .nil)) (.node (o24_0 P) (.node (o40_4 P) .nil .nil) (.node (o7_0 P) .nil .nil))) (.node (o12_0 P) (.node (o20_0 P) (.node (o36_3 P) (.node (⟨.type "list", none, .seq (fl f18) 0, List.toArray []⟩) .nil .nil) .nil) (.node (o52_14 P) .nil .nil)) (.node (o7_0 P) (.node (⟨.type "list", none, .seq (fl f13) 0, List.toArray []⟩) .nil .nil) (.node (o7_0 P) .nil .nil)))) (.node (o6_0 P) (.node (o10_0 P) (.node (o18_0 P) (.node (o34_3 P) (.node (o66_17 P) .nil .nil) .nil) (.node (o50_14 P) .nil .nil)) (.node (o26_0 P) (.node (o42_4 P) .nil .nil) (.node (o58_17 P) .nil .nil))) (.node (o14_0 P) (.node (o22_0 P) (.node (o38_4 P) (.node (o7_0 P) .nil .nil) .nil) (.node (o8_0 P) .nil .nil)) (.node (o30_pre P) (.node (⟨.type "list", none, .seq (fl f14) 0, List.toArray []⟩) .nil .nil) (.node (o62_17 P) .nil .nil))))))
noncomputable def s18 (w : World) (os : OsState) : SharedT := ⟨s18t w.params, 72, {}, #[], {}, 1880, os⟩
structure Ls where
  q : Array Value
  h : Array Value
  b : Array Value
  e : Array Value
noncomputable def s18vt (P : Params) (L : Ls) : BT := (.node (o0_0 P) (.node (o1_0 P) (.node (o3_18 P) (.node (o7_0 P) (.node (o7_0 P) (.node (o31_pre P) (.node (o7_0 P) .nil .nil) .nil) (.node (o47_12 P) .nil .nil)) (.node (o23_0 P) (.node (⟨.type "list", none, .seq (L.q) 256, List.toArray []⟩) (.node (o71_18 P) .nil .nil) .nil) (.node (o55_17 P) .nil .nil))) (.node (o11_0 P) (.node (o19_0 P) (.node (o35_3 P) (.node (o43_11 P) .nil .nil) .nil) (.node (o7_0 P) .nil .nil)) (.node (o27_0 P) (.node (o43_11 P) .nil .nil) (.node (o59_17 P) .nil .nil)))) (.node (o5_0 P) (.node (o9_0 P) (.node (o17_0 P) (.node (o6_0 P) (.node (o65_17 P) .nil .nil) .nil) (.node (o49_12 P) .nil .nil)) (.node (o25_0 P) (.node (o7_0 P) .nil .nil) (.node (o57_17 P) .nil .nil))) (.node (o13_0 P) (.node (o21_0 P) (.node (o37_4 P) (.node (o69_18 P) .nil .nil) .nil) (.node (o7_0 P) .nil .nil)) (.node (o29_17 P) (.node (o43_11 P) .nil .nil) (.node (o8_0 P) .nil .nil))))) (.node (o2_0 P) (.node (o4_0 P) (.node (o8_0 P) (.node (o16_0 P) (.node (o32_3 P) (.node (o64_17 P) .nil .nil) .nil) (.node (o7_0 P) .nil .nil)) (.node (o24_0 P) (.node (o40_4 P) .nil .nil) (.node (o7_0 P) .nil .nil))) (.node (o12_0 P) (.node (o20_0 P) (.node (o36_3 P) (.node (⟨.type "list", none, .seq (L.e) 0, List.toArray []⟩) .nil .nil) .nil) (.node (o52_14 P) .nil .nil)) (.node (o7_0 P) (.node (⟨.type "list", none, .seq (L.h) 0, List.toArray []⟩) .nil .nil) (.node (o7_0 P) .nil .nil)))) (.node (o6_0 P) (.node (o10_0 P) (.node (o18_0 P) (.node (o34_3 P) (.node (o66_17 P) .nil .nil) .nil) (.node (o50_14 P) .nil .nil)) (.node (o26_0 P) (.node (o42_4 P) .nil .nil) (.node (o58_17 P) .nil .nil))) (.node (o14_0 P) (.node (o22_0 P) (.node (o38_4 P) (.node (o7_0 P) .nil .nil) .nil) (.node (o8_0 P) .nil .nil)) (.node (o30_pre P) (.node (⟨.type "list", none, .seq (L.b) 0, List.toArray []⟩) .nil .nil) (.node (o62_17 P) .nil .nil))))))
noncomputable def s18v (w : World) (L : Ls) (os : OsState) : SharedT := ⟨s18vt w.params L, 72, {}, #[], {}, 1880, os⟩
noncomputable def o3_35 (P : Params) : Obj := ⟨(.type "dict"), none, (.dict (List.toArray [en P "__name__" 165 (vS "law_wo0029_01" 1940), en P "__doc__" 166 .none, en P "__package__" 167 .none, en P "__loader__" 168 (.builtin "__main__.__loader__#opaque"), en P "__spec__" 169 .none, en P "__annotations__" 170 (.ref 6), en P "__builtins__" 171 (.ref 4), en P "__file__" 173 (vS "/claim/cut.py" 172), en P "__cached__" 174 .none, en P "_sre" 275 (.ref 12), en P "_twin_re_1" 316 (.ref 36), en P "CRLF" 318 (vS "\x0d\n" 317), en P "NL" 320 (vS "\n" 319), en P "_QUOPRI_MAP" 1348 (.ref 39), en P "_QUOPRI_HEADER_MAP" 1349 (.ref 44), en P "_QUOPRI_BODY_MAP" 1350 (.ref 46), en P "ascii_lowercase" 1352 (vS "abcdefghijklmnopqrstuvwxyz" 1351), en P "ascii_uppercase" 1354 (vS "ABCDEFGHIJKLMNOPQRSTUVWXYZ" 1353), en P "ascii_letters" 1356 (vS "abcdefghijklmnopqrstuvwxyzABCDEFGHIJKLMNOPQRSTUVWXYZ" 1355), en P "digits" 1358 (vS "0123456789" 1357), en P "unquote" 1864 (.ref 59), en P "quote" 1871 (.ref 66), en P "_QUOPRI_BODY_ENCODE_MAP" 1872 (.ref 68), en P "body_encode" 1899 (.ref 79), en P "_unquote_match" 1907 (.ref 86), en P "header_decode" 1914 (.ref 93), en P "TICK" 1918 (vS "'" 1917), en P "decode_rfc2231" 1926 (.ref 100), en P "parse_keqv_list" 1939 (.ref 107), en P "_law_cell" 1949 (.ref 114), en P "_law_signs" 1955 (.ref 119), en P "_law_parts" 1965 (.ref 126), en P "_law_pair" 1972 (.ref 133), en P "_law_pieces" 1978 (.ref 138), en P "_law_letter" 1987 (.ref 145), en P "law" 1993 (.ref 150)]) 38), List.toArray []⟩
noncomputable def o29_35 (P : Params) : Obj := ⟨.none, none, (.fields (List.toArray [(.int 18 0), (.int 0 0), (.ref 58), (.int 20 0), (.int 0 0), (.ref 65), (.int 26 0), (.int 0 0), (.ref 78), (.int 64 0), (.int 0 0), (.ref 85), (.int 67 0), (.int 0 0), (.ref 92), (.int 72 0), (.int 0 0), (.ref 99), (.int 78 0), (.int 0 0), (.ref 106), (.int 87 0), (.int 0 0), (.ref 113), (.int 91 0), (.int 0 0), (.ref 118), (.int 98 0), (.int 0 0), (.ref 125), (.int 109 0), (.int 0 0), (.ref 132), (.int 114 0), (.int 0 0), (.ref 137), (.int 118 0), (.int 0 0), (.ref 144), (.int 125 0), (.int 0 0), (.ref 149)])), List.toArray []⟩
noncomputable def o72_35 (P : Params) : Obj := ⟨(.type "tuple"), none, (.seq (List.toArray [(.int 76 1880), (vS "\n" 319)]) 0), List.toArray []⟩
noncomputable def o75_35 (P : Params) : Obj := ⟨(.type "tuple"), none, (.seq (List.toArray [(vS "body" 1884), (vS "maxlinelen" 1885), (vS "eol" 1886), (vS "soft_break" 1887), (vS "maxlinelen1" 1888), (vS "encoded_body" 1889), (vS "append" 1890), (vS "line" 1891), (vS "start" 1892), (vS "laststart" 1893), (vS "stop" 1894), (vS "room" 1895), (vS "q" 1896)]) 0), List.toArray []⟩
noncomputable def o77_35 (P : Params) : Obj := ⟨.none, none, (.func ⟨.ofString "body_encode", .ofString "body_encode", paramsOf (S 20), .stmts (bodyOf (S 20)), scopeOf (S 20), 0, [], .none, .none, .none, .none, none, .none, .none, 0⟩), List.toArray []⟩
noncomputable def o78_35 (P : Params) : Obj := ⟨(.type "code"), none, (.fields (List.toArray [(vS "body_encode" 1881), (vS "body_encode" 1882), (vS "/claim/cut.py" 1883), (.int 26 0), (.int 3 0), (.int 0 0), (.int 0 0), (.int 3 0), (.ref 73), (.bool true), (.int 276 0), (.ref 74), .none, (.ref 75), (.ref 76), (.ref 77), (.int 1897 0), (.int 26 0), (vS "/claim/cut.py" 1898)])), List.toArray []⟩
noncomputable def o79_35 (P : Params) : Obj := ⟨(.type "function"), none, (.func ⟨.ofString "body_encode", .ofString "body_encode", paramsOf (S 20), .stmts (bodyOf (S 20)), scopeOf (S 20), 3, [], (.ref 72), .none, .none, (vS "cpy313.email.quoprimime" 1359), none, (.ref 78), .none, 0⟩), List.toArray []⟩
noncomputable def o82_35 (P : Params) : Obj := ⟨(.type "tuple"), none, (.seq (List.toArray [(vS "match" 1903), (vS "s" 1904)]) 0), List.toArray []⟩
noncomputable def o84_35 (P : Params) : Obj := ⟨.none, none, (.func ⟨.ofString "_unquote_match", .ofString "_unquote_match", paramsOf (S 21), .stmts (bodyOf (S 21)), scopeOf (S 21), 0, [], .none, .none, .none, .none, none, .none, .none, 0⟩), List.toArray []⟩
noncomputable def o85_35 (P : Params) : Obj := ⟨(.type "code"), none, (.fields (List.toArray [(vS "_unquote_match" 1900), (vS "_unquote_match" 1901), (vS "/claim/cut.py" 1902), (.int 64 0), (.int 1 0), (.int 0 0), (.int 0 0), (.int 3 0), (.ref 80), (.bool true), (.int 276 0), (.ref 81), .none, (.ref 82), (.ref 83), (.ref 84), (.int 1905 0), (.int 64 0), (vS "/claim/cut.py" 1906)])), List.toArray []⟩
noncomputable def o86_35 (P : Params) : Obj := ⟨(.type "function"), none, (.func ⟨.ofString "_unquote_match", .ofString "_unquote_match", paramsOf (S 21), .stmts (bodyOf (S 21)), scopeOf (S 21), 3, [], .none, .none, .none, (vS "cpy313.email.quoprimime" 1359), none, (.ref 85), .none, 0⟩), List.toArray []⟩
noncomputable def o89_35 (P : Params) : Obj := ⟨(.type "tuple"), none, (.seq (List.toArray [(vS "s" 1911)]) 0), List.toArray []⟩
noncomputable def o91_35 (P : Params) : Obj := ⟨.none, none, (.func ⟨.ofString "header_decode", .ofString "header_decode", paramsOf (S 22), .stmts (bodyOf (S 22)), scopeOf (S 22), 0, [], .none, .none, .none, .none, none, .none, .none, 0⟩), List.toArray []⟩
noncomputable def o92_35 (P : Params) : Obj := ⟨(.type "code"), none, (.fields (List.toArray [(vS "header_decode" 1908), (vS "header_decode" 1909), (vS "/claim/cut.py" 1910), (.int 67 0), (.int 1 0), (.int 0 0), (.int 0 0), (.int 3 0), (.ref 87), (.bool true), (.int 276 0), (.ref 88), .none, (.ref 89), (.ref 90), (.ref 91), (.int 1912 0), (.int 67 0), (vS "/claim/cut.py" 1913)])), List.toArray []⟩
noncomputable def o93_35 (P : Params) : Obj := ⟨(.type "function"), none, (.func ⟨.ofString "header_decode", .ofString "header_decode", paramsOf (S 22), .stmts (bodyOf (S 22)), scopeOf (S 22), 3, [], .none, .none, .none, (vS "cpy313.email.quoprimime" 1359), none, (.ref 92), .none, 0⟩), List.toArray []⟩
noncomputable def o96_35 (P : Params) : Obj := ⟨(.type "tuple"), none, (.seq (List.toArray [(vS "s" 1922), (vS "parts" 1923)]) 0), List.toArray []⟩
noncomputable def o98_35 (P : Params) : Obj := ⟨.none, none, (.func ⟨.ofString "decode_rfc2231", .ofString "decode_rfc2231", paramsOf (S 25), .stmts (bodyOf (S 25)), scopeOf (S 25), 0, [], .none, .none, .none, .none, none, .none, .none, 0⟩), List.toArray []⟩
noncomputable def o99_35 (P : Params) : Obj := ⟨(.type "code"), none, (.fields (List.toArray [(vS "decode_rfc2231" 1919), (vS "decode_rfc2231" 1920), (vS "/claim/cut.py" 1921), (.int 72 0), (.int 1 0), (.int 0 0), (.int 0 0), (.int 3 0), (.ref 94), (.bool true), (.int 276 0), (.ref 95), .none, (.ref 96), (.ref 97), (.ref 98), (.int 1924 0), (.int 72 0), (vS "/claim/cut.py" 1925)])), List.toArray []⟩
noncomputable def o100_35 (P : Params) : Obj := ⟨(.type "function"), none, (.func ⟨.ofString "decode_rfc2231", .ofString "decode_rfc2231", paramsOf (S 25), .stmts (bodyOf (S 25)), scopeOf (S 25), 3, [], .none, .none, .none, (vS "cpy313.email.utils" 1915), none, (.ref 99), .none, 0⟩), List.toArray []⟩
noncomputable def o103_35 (P : Params) : Obj := ⟨(.type "tuple"), none, (.seq (List.toArray [(vS "l" 1932), (vS "parsed" 1933), (vS "elt" 1934), (vS "k" 1935), (vS "v" 1936)]) 0), List.toArray []⟩
noncomputable def o105_35 (P : Params) : Obj := ⟨.none, none, (.func ⟨.ofString "parse_keqv_list", .ofString "parse_keqv_list", paramsOf (S 27), .stmts (bodyOf (S 27)), scopeOf (S 27), 0, [], .none, .none, .none, .none, none, .none, .none, 0⟩), List.toArray []⟩
noncomputable def o106_35 (P : Params) : Obj := ⟨(.type "code"), none, (.fields (List.toArray [(vS "parse_keqv_list" 1929), (vS "parse_keqv_list" 1930), (vS "/claim/cut.py" 1931), (.int 78 0), (.int 1 0), (.int 0 0), (.int 0 0), (.int 3 0), (.ref 101), (.bool true), (.int 276 0), (.ref 102), .none, (.ref 103), (.ref 104), (.ref 105), (.int 1937 0), (.int 78 0), (vS "/claim/cut.py" 1938)])), List.toArray []⟩
noncomputable def o107_35 (P : Params) : Obj := ⟨(.type "function"), none, (.func ⟨.ofString "parse_keqv_list", .ofString "parse_keqv_list", paramsOf (S 27), .stmts (bodyOf (S 27)), scopeOf (S 27), 3, [], .none, .none, .none, (vS "cpy313.urllib.request" 1927), none, (.ref 106), .none, 0⟩), List.toArray []⟩
noncomputable def o110_35 (P : Params) : Obj := ⟨(.type "tuple"), none, (.seq (List.toArray [(vS "script" 1945), (vS "place" 1946)]) 0), List.toArray []⟩
noncomputable def o112_35 (P : Params) : Obj := ⟨.none, none, (.func ⟨.ofString "_law_cell", .ofString "_law_cell", paramsOf (S 29), .stmts (bodyOf (S 29)), scopeOf (S 29), 0, [], .none, .none, .none, .none, none, .none, .none, 0⟩), List.toArray []⟩
noncomputable def o113_35 (P : Params) : Obj := ⟨(.type "code"), none, (.fields (List.toArray [(vS "_law_cell" 1942), (vS "_law_cell" 1943), (vS "/claim/cut.py" 1944), (.int 87 0), (.int 2 0), (.int 0 0), (.int 0 0), (.int 3 0), (.ref 108), (.bool true), (.int 276 0), (.ref 109), .none, (.ref 110), (.ref 111), (.ref 112), (.int 1947 0), (.int 87 0), (vS "/claim/cut.py" 1948)])), List.toArray []⟩
noncomputable def o114_35 (P : Params) : Obj := ⟨(.type "function"), none, (.func ⟨.ofString "_law_cell", .ofString "_law_cell", paramsOf (S 29), .stmts (bodyOf (S 29)), scopeOf (S 29), 3, [], .none, .none, .none, (vS "law_wo0029_01" 1940), none, (.ref 113), .none, 0⟩), List.toArray []⟩
noncomputable def o117_35 (P : Params) : Obj := ⟨.none, none, (.func ⟨.ofString "_law_signs", .ofString "_law_signs", paramsOf (S 30), .stmts (bodyOf (S 30)), scopeOf (S 30), 0, [], .none, .none, .none, .none, none, .none, .none, 0⟩), List.toArray []⟩
noncomputable def o118_35 (P : Params) : Obj := ⟨(.type "code"), none, (.fields (List.toArray [(vS "_law_signs" 1950), (vS "_law_signs" 1951), (vS "/claim/cut.py" 1952), (.int 91 0), (.int 1 0), (.int 0 0), (.int 0 0), (.int 3 0), (.ref 115), (.bool true), (.int 276 0), (.ref 116), .none, .none, .none, (.ref 117), (.int 1953 0), (.int 91 0), (vS "/claim/cut.py" 1954)])), List.toArray []⟩
noncomputable def o119_35 (P : Params) : Obj := ⟨(.type "function"), none, (.func ⟨.ofString "_law_signs", .ofString "_law_signs", paramsOf (S 30), .stmts (bodyOf (S 30)), scopeOf (S 30), 3, [], .none, .none, .none, (vS "law_wo0029_01" 1940), none, (.ref 118), .none, 0⟩), List.toArray []⟩
noncomputable def o122_35 (P : Params) : Obj := ⟨(.type "tuple"), none, (.seq (List.toArray [(vS "text" 1959), (vS "size" 1960), (vS "parts" 1961), (vS "told" 1962)]) 0), List.toArray []⟩
noncomputable def o124_35 (P : Params) : Obj := ⟨.none, none, (.func ⟨.ofString "_law_parts", .ofString "_law_parts", paramsOf (S 31), .stmts (bodyOf (S 31)), scopeOf (S 31), 0, [], .none, .none, .none, .none, none, .none, .none, 0⟩), List.toArray []⟩
noncomputable def o125_35 (P : Params) : Obj := ⟨(.type "code"), none, (.fields (List.toArray [(vS "_law_parts" 1956), (vS "_law_parts" 1957), (vS "/claim/cut.py" 1958), (.int 98 0), (.int 2 0), (.int 0 0), (.int 0 0), (.int 3 0), (.ref 120), (.bool true), (.int 276 0), (.ref 121), .none, (.ref 122), (.ref 123), (.ref 124), (.int 1963 0), (.int 98 0), (vS "/claim/cut.py" 1964)])), List.toArray []⟩
noncomputable def o126_35 (P : Params) : Obj := ⟨(.type "function"), none, (.func ⟨.ofString "_law_parts", .ofString "_law_parts", paramsOf (S 31), .stmts (bodyOf (S 31)), scopeOf (S 31), 3, [], .none, .none, .none, (vS "law_wo0029_01" 1940), none, (.ref 125), .none, 0⟩), List.toArray []⟩
noncomputable def o129_35 (P : Params) : Obj := ⟨(.type "tuple"), none, (.seq (List.toArray [(vS "line" 1969)]) 0), List.toArray []⟩
noncomputable def o131_35 (P : Params) : Obj := ⟨.none, none, (.func ⟨.ofString "_law_pair", .ofString "_law_pair", paramsOf (S 32), .stmts (bodyOf (S 32)), scopeOf (S 32), 0, [], .none, .none, .none, .none, none, .none, .none, 0⟩), List.toArray []⟩
noncomputable def o132_35 (P : Params) : Obj := ⟨(.type "code"), none, (.fields (List.toArray [(vS "_law_pair" 1966), (vS "_law_pair" 1967), (vS "/claim/cut.py" 1968), (.int 109 0), (.int 1 0), (.int 0 0), (.int 0 0), (.int 3 0), (.ref 127), (.bool true), (.int 276 0), (.ref 128), .none, (.ref 129), (.ref 130), (.ref 131), (.int 1970 0), (.int 109 0), (vS "/claim/cut.py" 1971)])), List.toArray []⟩
noncomputable def o133_35 (P : Params) : Obj := ⟨(.type "function"), none, (.func ⟨.ofString "_law_pair", .ofString "_law_pair", paramsOf (S 32), .stmts (bodyOf (S 32)), scopeOf (S 32), 3, [], .none, .none, .none, (vS "law_wo0029_01" 1940), none, (.ref 132), .none, 0⟩), List.toArray []⟩
noncomputable def o136_35 (P : Params) : Obj := ⟨.none, none, (.func ⟨.ofString "_law_pieces", .ofString "_law_pieces", paramsOf (S 33), .stmts (bodyOf (S 33)), scopeOf (S 33), 0, [], .none, .none, .none, .none, none, .none, .none, 0⟩), List.toArray []⟩
noncomputable def o137_35 (P : Params) : Obj := ⟨(.type "code"), none, (.fields (List.toArray [(vS "_law_pieces" 1973), (vS "_law_pieces" 1974), (vS "/claim/cut.py" 1975), (.int 114 0), (.int 2 0), (.int 0 0), (.int 0 0), (.int 3 0), (.ref 134), (.bool true), (.int 276 0), (.ref 135), .none, .none, .none, (.ref 136), (.int 1976 0), (.int 114 0), (vS "/claim/cut.py" 1977)])), List.toArray []⟩
noncomputable def o138_35 (P : Params) : Obj := ⟨(.type "function"), none, (.func ⟨.ofString "_law_pieces", .ofString "_law_pieces", paramsOf (S 33), .stmts (bodyOf (S 33)), scopeOf (S 33), 3, [], .none, .none, .none, (vS "law_wo0029_01" 1940), none, (.ref 137), .none, 0⟩), List.toArray []⟩
noncomputable def o141_35 (P : Params) : Obj := ⟨(.type "tuple"), none, (.seq (List.toArray [(vS "pieces" 1982), (vS "soft" 1983), (vS "due" 1984)]) 0), List.toArray []⟩
noncomputable def o143_35 (P : Params) : Obj := ⟨.none, none, (.func ⟨.ofString "_law_letter", .ofString "_law_letter", paramsOf (S 34), .stmts (bodyOf (S 34)), scopeOf (S 34), 0, [], .none, .none, .none, .none, none, .none, .none, 0⟩), List.toArray []⟩
noncomputable def o144_35 (P : Params) : Obj := ⟨(.type "code"), none, (.fields (List.toArray [(vS "_law_letter" 1979), (vS "_law_letter" 1980), (vS "/claim/cut.py" 1981), (.int 118 0), (.int 2 0), (.int 0 0), (.int 0 0), (.int 3 0), (.ref 139), (.bool true), (.int 276 0), (.ref 140), .none, (.ref 141), (.ref 142), (.ref 143), (.int 1985 0), (.int 118 0), (vS "/claim/cut.py" 1986)])), List.toArray []⟩
noncomputable def o145_35 (P : Params) : Obj := ⟨(.type "function"), none, (.func ⟨.ofString "_law_letter", .ofString "_law_letter", paramsOf (S 34), .stmts (bodyOf (S 34)), scopeOf (S 34), 3, [], .none, .none, .none, (vS "law_wo0029_01" 1940), none, (.ref 144), .none, 0⟩), List.toArray []⟩
noncomputable def o148_35 (P : Params) : Obj := ⟨.none, none, (.func ⟨.ofString "law", .ofString "law", paramsOf (S 35), .stmts (bodyOf (S 35)), scopeOf (S 35), 0, [], .none, .none, .none, .none, none, .none, .none, 0⟩), List.toArray []⟩
noncomputable def o149_35 (P : Params) : Obj := ⟨(.type "code"), none, (.fields (List.toArray [(vS "law" 1988), (vS "law" 1989), (vS "/claim/cut.py" 1990), (.int 125 0), (.int 1 0), (.int 0 0), (.int 0 0), (.int 3 0), (.ref 146), (.bool true), (.int 276 0), (.ref 147), .none, .none, .none, (.ref 148), (.int 1991 0), (.int 125 0), (vS "/claim/cut.py" 1992)])), List.toArray []⟩
noncomputable def o150_35 (P : Params) : Obj := ⟨(.type "function"), none, (.func ⟨.ofString "law", .ofString "law", paramsOf (S 35), .stmts (bodyOf (S 35)), scopeOf (S 35), 3, [], .none, .none, .none, (vS "law_wo0029_01" 1940), none, (.ref 149), .none, 0⟩), List.toArray []⟩
noncomputable def szt (P : Params) (L : Ls) : BT := (.node (o0_0 P) (.node (o1_0 P) (.node (o3_35 P) (.node (o7_0 P) (.node (o7_0 P) (.node (o31_pre P) (.node (o7_0 P) (.node (o7_0 P) .nil .nil) .nil) (.node (o8_0 P) .nil .nil)) (.node (o47_12 P) (.node (o79_35 P) (.node (o143_35 P) .nil .nil) .nil) (.node (o7_0 P) .nil .nil))) (.node (o23_0 P) (.node (⟨.type "list", none, .seq (L.q) 256, List.toArray []⟩) (.node (o71_18 P) (.node (o8_0 P) .nil .nil) .nil) (.node (o103_35 P) .nil .nil)) (.node (o55_17 P) (.node (o7_0 P) .nil .nil) (.node (o119_35 P) .nil .nil)))) (.node (o11_0 P) (.node (o19_0 P) (.node (o35_3 P) (.node (o43_11 P) (.node (o131_35 P) .nil .nil) .nil) (.node (o99_35 P) .nil .nil)) (.node (o7_0 P) (.node (o7_0 P) (.node (o8_0 P) .nil .nil) .nil) (.node (o7_0 P) .nil .nil))) (.node (o27_0 P) (.node (o43_11 P) (.node (o75_35 P) (.node (o7_0 P) .nil .nil) .nil) (.node (o107_35 P) .nil .nil)) (.node (o59_17 P) (.node (o91_35 P) .nil .nil) (.node (o7_0 P) .nil .nil))))) (.node (o5_0 P) (.node (o9_0 P) (.node (o17_0 P) (.node (o6_0 P) (.node (o65_17 P) (.node (o129_35 P) .nil .nil) .nil) (.node (o7_0 P) .nil .nil)) (.node (o49_12 P) (.node (o8_0 P) (.node (o145_35 P) .nil .nil) .nil) (.node (o113_35 P) .nil .nil))) (.node (o25_0 P) (.node (o7_0 P) (.node (o7_0 P) (.node (o137_35 P) .nil .nil) .nil) (.node (o105_35 P) .nil .nil)) (.node (o57_17 P) (.node (o89_35 P) .nil .nil) (.node (o8_0 P) .nil .nil)))) (.node (o13_0 P) (.node (o21_0 P) (.node (o37_4 P) (.node (o69_18 P) (.node (o133_35 P) .nil .nil) .nil) (.node (o7_0 P) .nil .nil)) (.node (o7_0 P) (.node (o85_35 P) (.node (o149_35 P) .nil .nil) .nil) (.node (o117_35 P) .nil .nil))) (.node (o29_35 P) (.node (o43_11 P) (.node (o77_35 P) (.node (o141_35 P) .nil .nil) .nil) (.node (o8_0 P) .nil .nil)) (.node (o8_0 P) (.node (o93_35 P) .nil .nil) (.node (o125_35 P) .nil .nil)))))) (.node (o2_0 P) (.node (o4_0 P) (.node (o8_0 P) (.node (o16_0 P) (.node (o32_3 P) (.node (o64_17 P) (.node (o8_0 P) .nil .nil) .nil) (.node (o96_35 P) .nil .nil)) (.node (o7_0 P) (.node (o7_0 P) (.node (o144_35 P) .nil .nil) .nil) (.node (o112_35 P) .nil .nil))) (.node (o24_0 P) (.node (o40_4 P) (.node (o72_35 P) (.node (o136_35 P) .nil .nil) .nil) (.node (o7_0 P) .nil .nil)) (.node (o7_0 P) (.node (o8_0 P) .nil .nil) (.node (o7_0 P) .nil .nil)))) (.node (o12_0 P) (.node (o20_0 P) (.node (o36_3 P) (.node (⟨.type "list", none, .seq (L.e) 0, List.toArray []⟩) (.node (o132_35 P) .nil .nil) .nil) (.node (o100_35 P) .nil .nil)) (.node (o52_14 P) (.node (o84_35 P) (.node (o148_35 P) .nil .nil) .nil) (.node (o8_0 P) .nil .nil))) (.node (o7_0 P) (.node (⟨.type "list", none, .seq (L.h) 0, List.toArray []⟩) (.node (o7_0 P) (.node (o8_0 P) .nil .nil) .nil) (.node (o7_0 P) .nil .nil)) (.node (o7_0 P) (.node (o92_35 P) .nil .nil) (.node (o124_35 P) .nil .nil))))) (.node (o6_0 P) (.node (o10_0 P) (.node (o18_0 P) (.node (o34_3 P) (.node (o66_17 P) (.node (o7_0 P) .nil .nil) .nil) (.node (o98_35 P) .nil .nil)) (.node (o50_14 P) (.node (o82_35 P) (.node (o7_0 P) .nil .nil) .nil) (.node (o114_35 P) .nil .nil))) (.node (o26_0 P) (.node (o42_4 P) (.node (o8_0 P) (.node (o138_35 P) .nil .nil) .nil) (.node (o106_35 P) .nil .nil)) (.node (o58_17 P) (.node (o7_0 P) .nil .nil) (.node (o122_35 P) .nil .nil)))) (.node (o14_0 P) (.node (o22_0 P) (.node (o38_4 P) (.node (o7_0 P) (.node (o7_0 P) .nil .nil) .nil) (.node (o8_0 P) .nil .nil)) (.node (o8_0 P) (.node (o86_35 P) (.node (o150_35 P) .nil .nil) .nil) (.node (o118_35 P) .nil .nil))) (.node (o30_pre P) (.node (⟨.type "list", none, .seq (L.b) 0, List.toArray []⟩) (.node (o78_35 P) (.node (o7_0 P) .nil .nil) .nil) (.node (o110_35 P) .nil .nil)) (.node (o62_17 P) (.node (o7_0 P) .nil .nil) (.node (o126_35 P) .nil .nil)))))))
noncomputable def sz (w : World) (L : Ls) (os : OsState) : SharedT := ⟨szt w.params L, 151, {}, #[], {}, 1994, os⟩
end Mine
end
section
open PySem PySem.W PyProof.Rows
set_option autoImplicit false
set_option linter.unusedVariables false
set_option maxRecDepth 1000000
namespace Mine
theorem z_pre : ∀ (w : World) (os : OsState), topGo treeTable pw w 28 annE 12 (s0 w os).abs (topStub pw) = some ((sa w os).abs, ⟨denote treeTable codE, codE, ⟨0, 0, 0, 0⟩, Bq⟩) := fun w os => by kernel_rfl
theorem z_block : ∀ (w : World) (os : OsState), segRun treeTable pw w 28 annE 1 1 (sa w os).abs (blockOf bodyE envE codE ⟨0, 0, 0, 0⟩ Bq) = some (.next, (sa w os).abs, codE, ⟨0, 0, 0, 0⟩) := fun w os => by kernel_rfl
theorem z1 : ∀ (w : World) (os : OsState), Run w 97 (sa w os) (piecesOf (sts 1 4) envE codE ⟨0, 0, 0, 0⟩ Bq) = some (.next, s3 w os, codE, ⟨4, 0, 4, 2⟩) := fun w os => by kernel_rfl
end Mine
end
section
open PySem PySem.W PyProof.Rows
set_option autoImplicit false
set_option linter.unusedVariables false
set_option maxRecDepth 1000000
namespace Mine
noncomputable def fr4_false_false (w : World) (os : OsState) : PySem.Frame := frOf (Go ((w.withFollow "comprehension-iter-twice" false).withFollow "special-get-raises" false) 52 (s3 ((w.withFollow "comprehension-iter-twice" false).withFollow "special-get-raises" false) os) (piecesOf (sts 4 5) envE codE ⟨4, 0, 4, 2⟩ Bq))
noncomputable def fr4_false_true (w : World) (os : OsState) : PySem.Frame := frOf (Go ((w.withFollow "comprehension-iter-twice" false).withFollow "special-get-raises" true) 52 (s3 ((w.withFollow "comprehension-iter-twice" false).withFollow "special-get-raises" true) os) (piecesOf (sts 4 5) envE codE ⟨4, 0, 4, 2⟩ Bq))
noncomputable def fr4_true_false (w : World) (os : OsState) : PySem.Frame := frOf (Go ((w.withFollow "comprehension-iter-twice" true).withFollow "special-get-raises" false) 42 (s3 ((w.withFollow "comprehension-iter-twice" true).withFollow "special-get-raises" false) os) (piecesOf (sts 4 5) envE codE ⟨4, 0, 4, 2⟩ Bq))
noncomputable def fr4_true_true (w : World) (os : OsState) : PySem.Frame := frOf (Go ((w.withFollow "comprehension-iter-twice" true).withFollow "special-get-raises" true) 42 (s3 ((w.withFollow "comprehension-iter-twice" true).withFollow "special-get-raises" true) os) (piecesOf (sts 4 5) envE codE ⟨4, 0, 4, 2⟩ Bq))
theorem z4x : ∀ (w : World) (os : OsState), (Go ((w.withFollow "comprehension-iter-twice" false).withFollow "special-get-raises" false) 52 (s3 ((w.withFollow "comprehension-iter-twice" false).withFollow "special-get-raises" false) os) (piecesOf (sts 4 5) envE codE ⟨4, 0, 4, 2⟩ Bq) = some (s4z ((w.withFollow "comprehension-iter-twice" false).withFollow "special-get-raises" false) os, Th C4 ⟨5, 36, 5, 46⟩ (fr4_false_false w os))) ∧ (Run ((w.withFollow "comprehension-iter-twice" false).withFollow "special-get-raises" false) 28 (s4 ((w.withFollow "comprehension-iter-twice" false).withFollow "special-get-raises" false) 256 os) (Th C4 ⟨5, 15, 5, 26⟩ (fr4_false_false w os)) = some (.next, s4e ((w.withFollow "comprehension-iter-twice" false).withFollow "special-get-raises" false) os, codE, ⟨5, 0, 5, 11⟩)) ∧ (Go ((w.withFollow "comprehension-iter-twice" false).withFollow "special-get-raises" true) 52 (s3 ((w.withFollow "comprehension-iter-twice" false).withFollow "special-get-raises" true) os) (piecesOf (sts 4 5) envE codE ⟨4, 0, 4, 2⟩ Bq) = some (s4z ((w.withFollow "comprehension-iter-twice" false).withFollow "special-get-raises" true) os, Th C4 ⟨5, 36, 5, 46⟩ (fr4_false_true w os))) ∧ (Run ((w.withFollow "comprehension-iter-twice" false).withFollow "special-get-raises" true) 28 (s4 ((w.withFollow "comprehension-iter-twice" false).withFollow "special-get-raises" true) 256 os) (Th C4 ⟨5, 15, 5, 26⟩ (fr4_false_true w os)) = some (.next, s4e ((w.withFollow "comprehension-iter-twice" false).withFollow "special-get-raises" true) os, codE, ⟨5, 0, 5, 11⟩)) ∧ (Go ((w.withFollow "comprehension-iter-twice" true).withFollow "special-get-raises" false) 42 (s3 ((w.withFollow "comprehension-iter-twice" true).withFollow "special-get-raises" false) os) (piecesOf (sts 4 5) envE codE ⟨4, 0, 4, 2⟩ Bq) = some (s4z ((w.withFollow "comprehension-iter-twice" true).withFollow "special-get-raises" false) os, Th C4 ⟨5, 36, 5, 46⟩ (fr4_true_false w os))) ∧ (Run ((w.withFollow "comprehension-iter-twice" true).withFollow "special-get-raises" false) 28 (s4 ((w.withFollow "comprehension-iter-twice" true).withFollow "special-get-raises" false) 256 os) (Th C4 ⟨5, 15, 5, 26⟩ (fr4_true_false w os)) = some (.next, s4e ((w.withFollow "comprehension-iter-twice" true).withFollow "special-get-raises" false) os, codE, ⟨5, 0, 5, 11⟩)) ∧ (Go ((w.withFollow "comprehension-iter-twice" true).withFollow "special-get-raises" true) 42 (s3 ((w.withFollow "comprehension-iter-twice" true).withFollow "special-get-raises" true) os) (piecesOf (sts 4 5) envE codE ⟨4, 0, 4, 2⟩ Bq) = some (s4z ((w.withFollow "comprehension-iter-twice" true).withFollow "special-get-raises" true) os, Th C4 ⟨5, 36, 5, 46⟩ (fr4_true_true w os))) ∧ (Run ((w.withFollow "comprehension-iter-twice" true).withFollow "special-get-raises" true) 28 (s4 ((w.withFollow "comprehension-iter-twice" true).withFollow "special-get-raises" true) 256 os) (Th C4 ⟨5, 15, 5, 26⟩ (fr4_true_true w os)) = some (.next, s4e ((w.withFollow "comprehension-iter-twice" true).withFollow "special-get-raises" true) os, codE, ⟨5, 0, 5, 11⟩)) := fun w os => ⟨by kernel_rfl, by kernel_rfl, by kernel_rfl, by kernel_rfl, by kernel_rfl, by kernel_rfl, by kernel_rfl, by kernel_rfl⟩
theorem z4a_false_false : ∀ (w : World) (os : OsState), Go ((w.withFollow "comprehension-iter-twice" false).withFollow "special-get-raises" false) 52 (s3 ((w.withFollow "comprehension-iter-twice" false).withFollow "special-get-raises" false) os) (piecesOf (sts 4 5) envE codE ⟨4, 0, 4, 2⟩ Bq) = some (s4z ((w.withFollow "comprehension-iter-twice" false).withFollow "special-get-raises" false) os, Th C4 ⟨5, 36, 5, 46⟩ (fr4_false_false w os)) := fun w os => (z4x w os).1
theorem z4d_false_false : ∀ (w : World) (os : OsState), Run ((w.withFollow "comprehension-iter-twice" false).withFollow "special-get-raises" false) 28 (s4 ((w.withFollow "comprehension-iter-twice" false).withFollow "special-get-raises" false) 256 os) (Th C4 ⟨5, 15, 5, 26⟩ (fr4_false_false w os)) = some (.next, s4e ((w.withFollow "comprehension-iter-twice" false).withFollow "special-get-raises" false) os, codE, ⟨5, 0, 5, 11⟩) := fun w os => (z4x w os).2.1
theorem z4a_false_true : ∀ (w : World) (os : OsState), Go ((w.withFollow "comprehension-iter-twice" false).withFollow "special-get-raises" true) 52 (s3 ((w.withFollow "comprehension-iter-twice" false).withFollow "special-get-raises" true) os) (piecesOf (sts 4 5) envE codE ⟨4, 0, 4, 2⟩ Bq) = some (s4z ((w.withFollow "comprehension-iter-twice" false).withFollow "special-get-raises" true) os, Th C4 ⟨5, 36, 5, 46⟩ (fr4_false_true w os)) := fun w os => (z4x w os).2.2.1
theorem z4d_false_true : ∀ (w : World) (os : OsState), Run ((w.withFollow "comprehension-iter-twice" false).withFollow "special-get-raises" true) 28 (s4 ((w.withFollow "comprehension-iter-twice" false).withFollow "special-get-raises" true) 256 os) (Th C4 ⟨5, 15, 5, 26⟩ (fr4_false_true w os)) = some (.next, s4e ((w.withFollow "comprehension-iter-twice" false).withFollow "special-get-raises" true) os, codE, ⟨5, 0, 5, 11⟩) := fun w os => (z4x w os).2.2.2.1
theorem z4a_true_false : ∀ (w : World) (os : OsState), Go ((w.withFollow "comprehension-iter-twice" true).withFollow "special-get-raises" false) 42 (s3 ((w.withFollow "comprehension-iter-twice" true).withFollow "special-get-raises" false) os) (piecesOf (sts 4 5) envE codE ⟨4, 0, 4, 2⟩ Bq) = some (s4z ((w.withFollow "comprehension-iter-twice" true).withFollow "special-get-raises" false) os, Th C4 ⟨5, 36, 5, 46⟩ (fr4_true_false w os)) := fun w os => (z4x w os).2.2.2.2.1
theorem z4d_true_false : ∀ (w : World) (os : OsState), Run ((w.withFollow "comprehension-iter-twice" true).withFollow "special-get-raises" false) 28 (s4 ((w.withFollow "comprehension-iter-twice" true).withFollow "special-get-raises" false) 256 os) (Th C4 ⟨5, 15, 5, 26⟩ (fr4_true_false w os)) = some (.next, s4e ((w.withFollow "comprehension-iter-twice" true).withFollow "special-get-raises" false) os, codE, ⟨5, 0, 5, 11⟩) := fun w os => (z4x w os).2.2.2.2.2.1
theorem z4a_true_true : ∀ (w : World) (os : OsState), Go ((w.withFollow "comprehension-iter-twice" true).withFollow "special-get-raises" true) 42 (s3 ((w.withFollow "comprehension-iter-twice" true).withFollow "special-get-raises" true) os) (piecesOf (sts 4 5) envE codE ⟨4, 0, 4, 2⟩ Bq) = some (s4z ((w.withFollow "comprehension-iter-twice" true).withFollow "special-get-raises" true) os, Th C4 ⟨5, 36, 5, 46⟩ (fr4_true_true w os)) := fun w os => (z4x w os).2.2.2.2.2.2.1
theorem z4d_true_true : ∀ (w : World) (os : OsState), Run ((w.withFollow "comprehension-iter-twice" true).withFollow "special-get-raises" true) 28 (s4 ((w.withFollow "comprehension-iter-twice" true).withFollow "special-get-raises" true) 256 os) (Th C4 ⟨5, 15, 5, 26⟩ (fr4_true_true w os)) = some (.next, s4e ((w.withFollow "comprehension-iter-twice" true).withFollow "special-get-raises" true) os, codE, ⟨5, 0, 5, 11⟩) := fun w os => (z4x w os).2.2.2.2.2.2.2
theorem z4b : ∀ (w : World) (os : OsState) (fr : PySem.Frame), Go w 37 (s4z w os) (Th C4 ⟨5, 36, 5, 46⟩ fr) = some (s4 w 1 os, Th C4 ⟨5, 15, 5, 26⟩ fr) := fun w os fr => by kernel_rfl
end Mine
end
section
open PySem PySem.W PyProof.Rows
set_option autoImplicit false
set_option linter.unusedVariables false
set_option maxRecDepth 1000000
namespace Mine
theorem z4c0 : ∀ (w : World) (os : OsState) (fr : PySem.Frame), Go w 2331 (s4 w 1 os) (Th C4 ⟨5, 15, 5, 26⟩ fr) = some (s4 w 64 os, Th C4 ⟨5, 15, 5, 26⟩ fr) := fun w os fr => by kernel_rfl
theorem z4c1 : ∀ (w : World) (os : OsState) (fr : PySem.Frame), Go w 2368 (s4 w 64 os) (Th C4 ⟨5, 15, 5, 26⟩ fr) = some (s4 w 128 os, Th C4 ⟨5, 15, 5, 26⟩ fr) := fun w os fr => by kernel_rfl
end Mine
end
section
open PySem PySem.W PyProof.Rows
set_option autoImplicit false
set_option linter.unusedVariables false
set_option maxRecDepth 1000000
namespace Mine
theorem z4c2 : ∀ (w : World) (os : OsState) (fr : PySem.Frame), Go w 2368 (s4 w 128 os) (Th C4 ⟨5, 15, 5, 26⟩ fr) = some (s4 w 192 os, Th C4 ⟨5, 15, 5, 26⟩ fr) := fun w os fr => by kernel_rfl
theorem z4c3 : ∀ (w : World) (os : OsState) (fr : PySem.Frame), Go w 2368 (s4 w 192 os) (Th C4 ⟨5, 15, 5, 26⟩ fr) = some (s4 w 256 os, Th C4 ⟨5, 15, 5, 26⟩ fr) := fun w os fr => by kernel_rfl
end Mine
end
section
open PySem PySem.W PyProof.Rows
set_option autoImplicit false
set_option linter.unusedVariables false
set_option maxRecDepth 1000000
namespace Mine
theorem z5 : ∀ (w : World) (os : OsState), Run w 109 (s4e w os) (piecesOf (sts 5 12) envE codE ⟨5, 0, 5, 11⟩ Bq) = some (.next, s11 w os, codE, ⟨12, 0, 12, 8⟩) := fun w os => by kernel_rfl
end Mine
end
section
open PySem PySem.W PyProof.Rows
set_option autoImplicit false
set_option linter.unusedVariables false
set_option maxRecDepth 1000000
namespace Mine
noncomputable def fr12_false (w : World) (os : OsState) : PySem.Frame := frOf (Go (w.withFollow "special-get-raises" false) 44 (s11 (w.withFollow "special-get-raises" false) os) (piecesOf (sts 12 13) envE codE ⟨12, 0, 12, 8⟩ Bq))
noncomputable def fr12_true (w : World) (os : OsState) : PySem.Frame := frOf (Go (w.withFollow "special-get-raises" true) 44 (s11 (w.withFollow "special-get-raises" true) os) (piecesOf (sts 12 13) envE codE ⟨12, 0, 12, 8⟩ Bq))
theorem z12x : ∀ (w : World) (os : OsState), (Go (w.withFollow "special-get-raises" false) 44 (s11 (w.withFollow "special-get-raises" false) os) (piecesOf (sts 12 13) envE codE ⟨12, 0, 12, 8⟩ Bq) = some (s12z (w.withFollow "special-get-raises" false) os, Th (forOf 12 47) ⟨13, 9, 13, 74⟩ (fr12_false w os))) ∧ (Go (w.withFollow "special-get-raises" true) 44 (s11 (w.withFollow "special-get-raises" true) os) (piecesOf (sts 12 13) envE codE ⟨12, 0, 12, 8⟩ Bq) = some (s12z (w.withFollow "special-get-raises" true) os, Th (forOf 12 47) ⟨13, 9, 13, 74⟩ (fr12_true w os))) ∧ (Run (w.withFollow "special-get-raises" false) 18 (s12 (w.withFollow "special-get-raises" false) 67 f12 (.int 57 1566) os) (Th (forOf 12 47) ⟨14, 4, 14, 25⟩ (fr12_false w os)) = some (.next, s12e (w.withFollow "special-get-raises" false) os, codE, ⟨13, 9, 13, 74⟩)) ∧ (Run (w.withFollow "special-get-raises" true) 18 (s12 (w.withFollow "special-get-raises" true) 67 f12 (.int 57 1566) os) (Th (forOf 12 47) ⟨14, 4, 14, 25⟩ (fr12_true w os)) = some (.next, s12e (w.withFollow "special-get-raises" true) os, codE, ⟨13, 9, 13, 74⟩)) := fun w os => ⟨by kernel_rfl, by kernel_rfl, by kernel_rfl, by kernel_rfl⟩
theorem z12a_false : ∀ (w : World) (os : OsState), Go (w.withFollow "special-get-raises" false) 44 (s11 (w.withFollow "special-get-raises" false) os) (piecesOf (sts 12 13) envE codE ⟨12, 0, 12, 8⟩ Bq) = some (s12z (w.withFollow "special-get-raises" false) os, Th (forOf 12 47) ⟨13, 9, 13, 74⟩ (fr12_false w os)) := fun w os => (z12x w os).1
theorem z12a_true : ∀ (w : World) (os : OsState), Go (w.withFollow "special-get-raises" true) 44 (s11 (w.withFollow "special-get-raises" true) os) (piecesOf (sts 12 13) envE codE ⟨12, 0, 12, 8⟩ Bq) = some (s12z (w.withFollow "special-get-raises" true) os, Th (forOf 12 47) ⟨13, 9, 13, 74⟩ (fr12_true w os)) := fun w os => (z12x w os).2.1
theorem z12d_false : ∀ (w : World) (os : OsState), Run (w.withFollow "special-get-raises" false) 18 (s12 (w.withFollow "special-get-raises" false) 67 f12 (.int 57 1566) os) (Th (forOf 12 47) ⟨14, 4, 14, 25⟩ (fr12_false w os)) = some (.next, s12e (w.withFollow "special-get-raises" false) os, codE, ⟨13, 9, 13, 74⟩) := fun w os => (z12x w os).2.2.1
theorem z12d_true : ∀ (w : World) (os : OsState), Run (w.withFollow "special-get-raises" true) 18 (s12 (w.withFollow "special-get-raises" true) 67 f12 (.int 57 1566) os) (Th (forOf 12 47) ⟨14, 4, 14, 25⟩ (fr12_true w os)) = some (.next, s12e (w.withFollow "special-get-raises" true) os, codE, ⟨13, 9, 13, 74⟩) := fun w os => (z12x w os).2.2.2
theorem z12b : ∀ (w : World) (os : OsState) (fr : PySem.Frame), Go w 45 (s12z w os) (Th (forOf 12 47) ⟨13, 9, 13, 74⟩ fr) = some (s12 w 1 (ufn qItem 45 (ch 45 1370)) (.int 45 1368) os, Th (forOf 12 47) ⟨14, 4, 14, 25⟩ fr) := fun w os fr => by kernel_rfl
theorem z12c0 : ∀ (w : World) (os : OsState) (fr : PySem.Frame) (f : Nat → Value) (cv : Value), Go w 1485 (s12 w 1 f cv os) (Th (forOf 12 47) ⟨14, 4, 14, 25⟩ fr) = some (s12 w 34 (ufn (ufn (ufn (ufn (ufn (ufn (ufn (ufn (ufn (ufn (ufn (ufn (ufn (ufn (ufn (ufn (ufn (ufn (ufn (ufn (ufn (ufn (ufn (ufn (ufn (ufn (ufn (ufn (ufn (ufn (ufn (ufn (ufn f 33 (ch 33 1373)) 42 (ch 42 1376)) 43 (ch 43 1379)) 47 (ch 47 1382)) 97 (ch 97 1385)) 98 (ch 98 1388)) 99 (ch 99 1391)) 100 (ch 100 1394)) 101 (ch 101 1397)) 102 (ch 102 1400)) 103 (ch 103 1403)) 104 (ch 104 1406)) 105 (ch 105 1409)) 106 (ch 106 1412)) 107 (ch 107 1415)) 108 (ch 108 1418)) 109 (ch 109 1421)) 110 (ch 110 1424)) 111 (ch 111 1427)) 112 (ch 112 1430)) 113 (ch 113 1433)) 114 (ch 114 1436)) 115 (ch 115 1439)) 116 (ch 116 1442)) 117 (ch 117 1445)) 118 (ch 118 1448)) 119 (ch 119 1451)) 120 (ch 120 1454)) 121 (ch 121 1457)) 122 (ch 122 1460)) 65 (ch 65 1463)) 66 (ch 66 1466)) 67 (ch 67 1469)) (.int 67 1467) os, Th (forOf 12 47) ⟨14, 4, 14, 25⟩ fr) := fun w os fr f cv => by kernel_rfl
theorem z12c1 : ∀ (w : World) (os : OsState) (fr : PySem.Frame) (f : Nat → Value) (cv : Value), Go w 1485 (s12 w 34 f cv os) (Th (forOf 12 47) ⟨14, 4, 14, 25⟩ fr) = some (s12 w 67 (ufn (ufn (ufn (ufn (ufn (ufn (ufn (ufn (ufn (ufn (ufn (ufn (ufn (ufn (ufn (ufn (ufn (ufn (ufn (ufn (ufn (ufn (ufn (ufn (ufn (ufn (ufn (ufn (ufn (ufn (ufn (ufn (ufn f 68 (ch 68 1472)) 69 (ch 69 1475)) 70 (ch 70 1478)) 71 (ch 71 1481)) 72 (ch 72 1484)) 73 (ch 73 1487)) 74 (ch 74 1490)) 75 (ch 75 1493)) 76 (ch 76 1496)) 77 (ch 77 1499)) 78 (ch 78 1502)) 79 (ch 79 1505)) 80 (ch 80 1508)) 81 (ch 81 1511)) 82 (ch 82 1514)) 83 (ch 83 1517)) 84 (ch 84 1520)) 85 (ch 85 1523)) 86 (ch 86 1526)) 87 (ch 87 1529)) 88 (ch 88 1532)) 89 (ch 89 1535)) 90 (ch 90 1538)) 48 (ch 48 1541)) 49 (ch 49 1544)) 50 (ch 50 1547)) 51 (ch 51 1550)) 52 (ch 52 1553)) 53 (ch 53 1556)) 54 (ch 54 1559)) 55 (ch 55 1562)) 56 (ch 56 1565)) 57 (ch 57 1568)) (.int 57 1566) os, Th (forOf 12 47) ⟨14, 4, 14, 25⟩ fr) := fun w os fr f cv => by kernel_rfl
theorem z13 : ∀ (w : World) (os : OsState), Run w 25 (s12e w os) (piecesOf (sts 13 14) envE codE ⟨13, 9, 13, 74⟩ Bq) = some (.next, s13 w os, codE, ⟨15, 0, 15, 28⟩) := fun w os => by kernel_rfl
end Mine
end
section
open PySem PySem.W PyProof.Rows
set_option autoImplicit false
set_option linter.unusedVariables false
set_option maxRecDepth 1000000
namespace Mine
noncomputable def fr14_false (w : World) (os : OsState) : PySem.Frame := frOf (Go (w.withFollow "special-get-raises" false) 10 (s13 (w.withFollow "special-get-raises" false) os) (piecesOf (sts 14 15) envE codE ⟨15, 0, 15, 28⟩ Bq))
noncomputable def fr14_true (w : World) (os : OsState) : PySem.Frame := frOf (Go (w.withFollow "special-get-raises" true) 10 (s13 (w.withFollow "special-get-raises" true) os) (piecesOf (sts 14 15) envE codE ⟨15, 0, 15, 28⟩ Bq))
theorem z14x : ∀ (w : World) (os : OsState), (Go (w.withFollow "special-get-raises" false) 10 (s13 (w.withFollow "special-get-raises" false) os) (piecesOf (sts 14 15) envE codE ⟨15, 0, 15, 28⟩ Bq) = some (s14 (w.withFollow "special-get-raises" false) 0 qItem (.int 57 1566) os, Th (forOf 14 50) ⟨16, 9, 16, 110⟩ (fr14_false w os))) ∧ (Go (w.withFollow "special-get-raises" true) 10 (s13 (w.withFollow "special-get-raises" true) os) (piecesOf (sts 14 15) envE codE ⟨15, 0, 15, 28⟩ Bq) = some (s14 (w.withFollow "special-get-raises" true) 0 qItem (.int 57 1566) os, Th (forOf 14 50) ⟨16, 9, 16, 110⟩ (fr14_true w os))) ∧ (Run (w.withFollow "special-get-raises" false) 18 (s14 (w.withFollow "special-get-raises" false) 95 f14 (.int 9 1855) os) (Th (forOf 14 50) ⟨17, 4, 17, 23⟩ (fr14_false w os)) = some (.next, s14e (w.withFollow "special-get-raises" false) os, codE, ⟨16, 9, 16, 110⟩)) ∧ (Run (w.withFollow "special-get-raises" true) 18 (s14 (w.withFollow "special-get-raises" true) 95 f14 (.int 9 1855) os) (Th (forOf 14 50) ⟨17, 4, 17, 23⟩ (fr14_true w os)) = some (.next, s14e (w.withFollow "special-get-raises" true) os, codE, ⟨16, 9, 16, 110⟩)) := fun w os => ⟨by kernel_rfl, by kernel_rfl, by kernel_rfl, by kernel_rfl⟩
theorem z14a_false : ∀ (w : World) (os : OsState), Go (w.withFollow "special-get-raises" false) 10 (s13 (w.withFollow "special-get-raises" false) os) (piecesOf (sts 14 15) envE codE ⟨15, 0, 15, 28⟩ Bq) = some (s14 (w.withFollow "special-get-raises" false) 0 qItem (.int 57 1566) os, Th (forOf 14 50) ⟨16, 9, 16, 110⟩ (fr14_false w os)) := fun w os => (z14x w os).1
theorem z14a_true : ∀ (w : World) (os : OsState), Go (w.withFollow "special-get-raises" true) 10 (s13 (w.withFollow "special-get-raises" true) os) (piecesOf (sts 14 15) envE codE ⟨15, 0, 15, 28⟩ Bq) = some (s14 (w.withFollow "special-get-raises" true) 0 qItem (.int 57 1566) os, Th (forOf 14 50) ⟨16, 9, 16, 110⟩ (fr14_true w os)) := fun w os => (z14x w os).2.1
theorem z14d_false : ∀ (w : World) (os : OsState), Run (w.withFollow "special-get-raises" false) 18 (s14 (w.withFollow "special-get-raises" false) 95 f14 (.int 9 1855) os) (Th (forOf 14 50) ⟨17, 4, 17, 23⟩ (fr14_false w os)) = some (.next, s14e (w.withFollow "special-get-raises" false) os, codE, ⟨16, 9, 16, 110⟩) := fun w os => (z14x w os).2.2.1
theorem z14d_true : ∀ (w : World) (os : OsState), Run (w.withFollow "special-get-raises" true) 18 (s14 (w.withFollow "special-get-raises" true) 95 f14 (.int 9 1855) os) (Th (forOf 14 50) ⟨17, 4, 17, 23⟩ (fr14_true w os)) = some (.next, s14e (w.withFollow "special-get-raises" true) os, codE, ⟨16, 9, 16, 110⟩) := fun w os => (z14x w os).2.2.2
theorem z14c0 : ∀ (w : World) (os : OsState) (fr : PySem.Frame) (f : Nat → Value) (cv : Value) (pos : Pos), Go w 2160 (s14 w 0 f cv os) (Th (forOf 14 50) pos fr) = some (s14 w 48 (ufn (ufn (ufn (ufn (ufn (ufn (ufn (ufn (ufn (ufn (ufn (ufn (ufn (ufn (ufn (ufn (ufn (ufn (ufn (ufn (ufn (ufn (ufn (ufn (ufn (ufn (ufn (ufn (ufn (ufn (ufn (ufn (ufn (ufn (ufn (ufn (ufn (ufn (ufn (ufn (ufn (ufn (ufn (ufn (ufn (ufn (ufn (ufn f 32 (ch 32 1575)) 33 (ch 33 1578)) 34 (ch 34 1581)) 35 (ch 35 1584)) 36 (ch 36 1587)) 37 (ch 37 1590)) 38 (ch 38 1593)) 39 (ch 39 1596)) 40 (ch 40 1599)) 41 (ch 41 1602)) 42 (ch 42 1605)) 43 (ch 43 1608)) 44 (ch 44 1611)) 45 (ch 45 1614)) 46 (ch 46 1617)) 47 (ch 47 1620)) 48 (ch 48 1623)) 49 (ch 49 1626)) 50 (ch 50 1629)) 51 (ch 51 1632)) 52 (ch 52 1635)) 53 (ch 53 1638)) 54 (ch 54 1641)) 55 (ch 55 1644)) 56 (ch 56 1647)) 57 (ch 57 1650)) 58 (ch 58 1653)) 59 (ch 59 1656)) 60 (ch 60 1659)) 62 (ch 62 1662)) 63 (ch 63 1665)) 64 (ch 64 1668)) 65 (ch 65 1671)) 66 (ch 66 1674)) 67 (ch 67 1677)) 68 (ch 68 1680)) 69 (ch 69 1683)) 70 (ch 70 1686)) 71 (ch 71 1689)) 72 (ch 72 1692)) 73 (ch 73 1695)) 74 (ch 74 1698)) 75 (ch 75 1701)) 76 (ch 76 1704)) 77 (ch 77 1707)) 78 (ch 78 1710)) 79 (ch 79 1713)) 80 (ch 80 1716)) (.int 80 1714) os, Th (forOf 14 50) ⟨17, 4, 17, 23⟩ fr) := fun w os fr f cv pos => by kernel_rfl
theorem z14c1 : ∀ (w : World) (os : OsState) (fr : PySem.Frame) (f : Nat → Value) (cv : Value), Go w 2115 (s14 w 48 f cv os) (Th (forOf 14 50) ⟨17, 4, 17, 23⟩ fr) = some (s14 w 95 (ufn (ufn (ufn (ufn (ufn (ufn (ufn (ufn (ufn (ufn (ufn (ufn (ufn (ufn (ufn (ufn (ufn (ufn (ufn (ufn (ufn (ufn (ufn (ufn (ufn (ufn (ufn (ufn (ufn (ufn (ufn (ufn (ufn (ufn (ufn (ufn (ufn (ufn (ufn (ufn (ufn (ufn (ufn (ufn (ufn (ufn (ufn f 81 (ch 81 1719)) 82 (ch 82 1722)) 83 (ch 83 1725)) 84 (ch 84 1728)) 85 (ch 85 1731)) 86 (ch 86 1734)) 87 (ch 87 1737)) 88 (ch 88 1740)) 89 (ch 89 1743)) 90 (ch 90 1746)) 91 (ch 91 1749)) 92 (ch 92 1752)) 93 (ch 93 1755)) 94 (ch 94 1758)) 95 (ch 95 1761)) 96 (ch 96 1764)) 97 (ch 97 1767)) 98 (ch 98 1770)) 99 (ch 99 1773)) 100 (ch 100 1776)) 101 (ch 101 1779)) 102 (ch 102 1782)) 103 (ch 103 1785)) 104 (ch 104 1788)) 105 (ch 105 1791)) 106 (ch 106 1794)) 107 (ch 107 1797)) 108 (ch 108 1800)) 109 (ch 109 1803)) 110 (ch 110 1806)) 111 (ch 111 1809)) 112 (ch 112 1812)) 113 (ch 113 1815)) 114 (ch 114 1818)) 115 (ch 115 1821)) 116 (ch 116 1824)) 117 (ch 117 1827)) 118 (ch 118 1830)) 119 (ch 119 1833)) 120 (ch 120 1836)) 121 (ch 121 1839)) 122 (ch 122 1842)) 123 (ch 123 1845)) 124 (ch 124 1848)) 125 (ch 125 1851)) 126 (ch 126 1854)) 9 (ch 9 1857)) (.int 9 1855) os, Th (forOf 14 50) ⟨17, 4, 17, 23⟩ fr) := fun w os fr f cv => by kernel_rfl
end Mine
end
section
open PySem PySem.W PyProof.Rows
set_option autoImplicit false
set_option linter.unusedVariables false
set_option maxRecDepth 1000000
namespace Mine
theorem z15 : ∀ (w : World) (os : OsState), Run w 86 (s14e w os) (piecesOf (sts 15 18) envE codE ⟨16, 9, 16, 110⟩ Bq) = some (.next, s17 w os, codE, ⟨22, 0, 22, 23⟩) := fun w os => by kernel_rfl
theorem z18x : ∀ (w : World) (os : OsState), (Run (w.withFollow "special-get-raises" false) 118 (s17 (w.withFollow "special-get-raises" false) os) (piecesOf (sts 18 19) envE codE ⟨22, 0, 22, 23⟩ Bq) = some (.next, s18 (w.withFollow "special-get-raises" false) os, codE, ⟨23, 9, 23, 16⟩)) ∧ (Run (w.withFollow "special-get-raises" true) 118 (s17 (w.withFollow "special-get-raises" true) os) (piecesOf (sts 18 19) envE codE ⟨22, 0, 22, 23⟩ Bq) = some (.next, s18 (w.withFollow "special-get-raises" true) os, codE, ⟨23, 9, 23, 16⟩)) := fun w os => ⟨by kernel_rfl, by kernel_rfl⟩
theorem z18_false : ∀ (w : World) (os : OsState), Run (w.withFollow "special-get-raises" false) 118 (s17 (w.withFollow "special-get-raises" false) os) (piecesOf (sts 18 19) envE codE ⟨22, 0, 22, 23⟩ Bq) = some (.next, s18 (w.withFollow "special-get-raises" false) os, codE, ⟨23, 9, 23, 16⟩) := fun w os => (z18x w os).1
theorem z18_true : ∀ (w : World) (os : OsState), Run (w.withFollow "special-get-raises" true) 118 (s17 (w.withFollow "special-get-raises" true) os) (piecesOf (sts 18 19) envE codE ⟨22, 0, 22, 23⟩ Bq) = some (.next, s18 (w.withFollow "special-get-raises" true) os, codE, ⟨23, 9, 23, 16⟩) := fun w os => (z18x w os).2
theorem z19 : ∀ (w : World) (os : OsState) (L : Ls), Run w 410 (s18v w L os) (piecesOf (sts 19 36) envE codE ⟨23, 9, 23, 16⟩ Bq) = some (.next, sz w L os, codE, ⟨125, 0, 179, 39⟩) := fun w os L => by kernel_rfl
theorem z_fin : ∀ (w : World) (L : Ls) (os : OsState), topRun treeTable pw w 28 annE 2 (sz w L os).abs ⟨doneF .next, codE, ⟨125, 0, 179, 39⟩, Bq⟩ = some (sz w L os).abs := fun w L os => by kernel_rfl
end Mine
end
section
open PySem PySem.W PyProof.Rows
set_option autoImplicit false
set_option linter.unusedVariables false
set_option maxRecDepth 1000000
namespace Mine
noncomputable abbrev qo : Program := opening pw
noncomputable abbrev os0 : OsState := (start qo).1.os
noncomputable def sE (w : World) : SharedT := ⟨sEt w.params, 28, {}, #[], {}, 276, os0⟩
noncomputable def s00 : SharedT := ⟨.nil, 0, {}, #[], {}, 1, os0⟩
theorem s00_is : s00.abs = (start qo).1 := by kernel_rfl
theorem zo_run : ∀ w : World, (impGoT treeTable qo w 798 s00 (start qo).2).map (fun r => (r.1, r.2.atExitBegin)) = some (sE w, some []) := fun w => by kernel_rfl
noncomputable def H0 (P : Params) : Heap := absHeap (s0t P) 28 {}
noncomputable def HE (P : Params) : Heap := absHeap (sEt P) 28 {}
theorem zo_fence : ∀ w : World, (fun os => (fenceModules? pw ⟨HE w.params, #[], {}, 276, os⟩).map (fun s => (s.heap, s.gens, s.drawn, s.toks))) = fun _ => some (H0 w.params, #[], {}, 276) := fun w => by kernel_rfl
theorem zo_ends (w : World) : importEnds treeTable qo w (798 + 1) (start qo).1 (start qo).2 = some ⟨HE w.params, #[], {}, 276, os0⟩ := by
  obtain ⟨⟨s', t'⟩, hr, he⟩ := Option.map_eq_some_iff.mp (zo_run w)
  obtain ⟨h1, h2⟩ := Prod.mk.injEq .. ▸ he
  have g := impGo_of hr
  rw [s00_is] at g
  refine imp_go g ?_
  have h1 : s' = sE w := h1
  have h2 : t'.atExitBegin = some [] := h2
  unfold importEnds
  rw [h2, h1]
  rfl
theorem opens : ∀ w : World, (fencedOpening treeTable pw w 40000).map (fun s => (s.heap, s.gens, s.drawn, s.toks)) = some (H0 w.params, #[], {}, 276) :=
  open_cut zo_ends (by decide) zo_fence
end Mine
end
section
open PySem PySem.W PyProof.Rows
set_option autoImplicit false
set_option linter.unusedVariables false
set_option maxRecDepth 1000000
namespace Mine
noncomputable abbrev SRun (w : World) (N : Nat) (s : SharedT) (t : Thread) := segRun treeTable pw w 28 annE 1 N s.abs t
theorem go_run {w : World} {n N : Nat} {s s' : SharedT} {t t' : Thread} {f : Flow} {r : SharedT} {c : Code} {q : Pos} (h : Go w n s t = some (s', t')) (k : SRun w N s' t' = some (f, r.abs, c, q)) : SRun w (n + N) s t = some (f, r.abs, c, q) := seg_go (segGo_of h) k
theorem run_run {w : World} {N : Nat} {s r : SharedT} {t : Thread} {f : Flow} {c : Code} {q : Pos} (h : Run w N s t = some (f, r, c, q)) : SRun w N s t = some (f, r.abs, c, q) := segRun_of h
theorem run_more {w : World} (k : Nat) : ∀ {N : Nat} {s : Shared} {t : Thread} {r : Flow × Shared × Code × Pos}, segRun treeTable pw w 28 annE 1 N s t = some r → segRun treeTable pw w 28 annE 1 (N + k) s t = some r
  | 0, s, t, r, h => by cases h
  | n + 1, s, t, r, h => by
    rw [show n + 1 + k = n + k + 1 by omega]
    unfold segRun at h ⊢
    cases he : endAt 1 t with
    | some f => rw [he] at h; exact h
    | none =>
      rw [he] at h
      cases hk : stepOk 28 annE t with
      | false => rw [hk] at h; cases h
      | true =>
        rw [hk] at h
        cases hs : step (denote treeTable) pw w s t with
        | halt o s' => rw [hs] at h; cases h
        | go s' t' => rw [hs] at h; exact run_more k h

noncomputable abbrev T4 : Thread := piecesOf (sts 4 5) envE codE ⟨4, 0, 4, 2⟩ Bq
noncomputable def st4 (w : World) : Prop := ∀ os : OsState, SRun w 9552 (s3 w os) T4 = some (.next, (s4e w os).abs, codE, ⟨5, 0, 5, 11⟩)
theorem st4_of {w : World} {n : Nat} {fr : OsState → PySem.Frame} (hn : n ≤ 52)
    (ha : ∀ os, Go w n (s3 w os) T4 = some (s4z w os, Th C4 ⟨5, 36, 5, 46⟩ (fr os)))
    (hd : ∀ os, Run w 28 (s4 w 256 os) (Th C4 ⟨5, 15, 5, 26⟩ (fr os)) = some (.next, s4e w os, codE, ⟨5, 0, 5, 11⟩)) : st4 w := fun os => by
  have := go_run (ha os) (go_run (z4b w os _) (go_run (z4c0 w os _) (go_run (z4c1 w os _) (go_run (z4c2 w os _) (go_run (z4c3 w os _) (run_run (hd os)))))))
  have h2 := run_more (52 - n) this
  rw [show n + (37 + (2331 + (2368 + (2368 + (2368 + 28))))) + (52 - n) = 9552 by omega] at h2
  exact h2
theorem z4 : ∀ w, st4 w := byRow2 "special-get-raises"
  (byRow2 "comprehension-iter-twice" (P := fun w => st4 (w.withFollow "special-get-raises" false))
    (fun w => st4_of (by decide) (fun os => z4a_false_false w os) (fun os => z4d_false_false w os)) (fun w => st4_of (by decide) (fun os => z4a_true_false w os) (fun os => z4d_true_false w os)))
  (byRow2 "comprehension-iter-twice" (P := fun w => st4 (w.withFollow "special-get-raises" true))
    (fun w => st4_of (by decide) (fun os => z4a_false_true w os) (fun os => z4d_false_true w os)) (fun w => st4_of (by decide) (fun os => z4a_true_true w os) (fun os => z4d_true_true w os)))
noncomputable def st12 (w : World) : Prop := ∀ os : OsState, SRun w 3077 (s11 w os) (piecesOf (sts 12 13) envE codE ⟨12, 0, 12, 8⟩ Bq) = some (.next, (s12e w os).abs, codE, ⟨13, 9, 13, 74⟩)
theorem st12_of {w : World} {fr : OsState → PySem.Frame}
    (ha : ∀ os, Go w 44 (s11 w os) (piecesOf (sts 12 13) envE codE ⟨12, 0, 12, 8⟩ Bq) = some (s12z w os, Th (forOf 12 47) ⟨13, 9, 13, 74⟩ (fr os)))
    (hd : ∀ os, Run w 18 (s12 w 67 f12 (.int 57 1566) os) (Th (forOf 12 47) ⟨14, 4, 14, 25⟩ (fr os)) = some (.next, s12e w os, codE, ⟨13, 9, 13, 74⟩)) : st12 w := fun os => by
  have h := go_run (ha os) (go_run (z12b w os _) (go_run (z12c0 w os _ _ _) (go_run (z12c1 w os _ _ _) (run_run (hd os)))))
  exact h
theorem z12 : ∀ w, st12 w := byRow2 "special-get-raises" (fun w => st12_of (fun os => z12a_false w os) (fun os => z12d_false w os)) (fun w => st12_of (fun os => z12a_true w os) (fun os => z12d_true w os))
noncomputable def st14 (w : World) : Prop := ∀ os : OsState, SRun w 4303 (s13 w os) (piecesOf (sts 14 15) envE codE ⟨15, 0, 15, 28⟩ Bq) = some (.next, (s14e w os).abs, codE, ⟨16, 9, 16, 110⟩)
theorem st14_of {w : World} {fr : OsState → PySem.Frame}
    (ha : ∀ os, Go w 10 (s13 w os) (piecesOf (sts 14 15) envE codE ⟨15, 0, 15, 28⟩ Bq) = some (s14 w 0 qItem (.int 57 1566) os, Th (forOf 14 50) ⟨16, 9, 16, 110⟩ (fr os)))
    (hd : ∀ os, Run w 18 (s14 w 95 f14 (.int 9 1855) os) (Th (forOf 14 50) ⟨17, 4, 17, 23⟩ (fr os)) = some (.next, s14e w os, codE, ⟨16, 9, 16, 110⟩)) : st14 w := fun os => by
  have h := go_run (ha os) (go_run (z14c0 w os _ _ _ _) (go_run (z14c1 w os _ _ _) (run_run (hd os))))
  exact h
theorem z14 : ∀ w, st14 w := byRow2 "special-get-raises" (fun w => st14_of (fun os => z14a_false w os) (fun os => z14d_false w os)) (fun w => st14_of (fun os => z14a_true w os) (fun os => z14d_true w os))
theorem z18 : ∀ w, ∀ os : OsState, SRun w 118 (s17 w os) (piecesOf (sts 18 19) envE codE ⟨22, 0, 22, 23⟩ Bq) = some (.next, (s18 w os).abs, codE, ⟨23, 9, 23, 16⟩) :=
  byRow2 "special-get-raises" (fun w os => run_run (z18_false w os)) (fun w os => run_run (z18_true w os))

noncomputable def lsE : Ls := ⟨fl qItem, fl f13, fl f14, fl f18⟩
theorem body_is : @Eq (List Stmt) bodyE (sts 1 4 ++ (sts 4 5 ++ (sts 5 12 ++ (sts 12 13 ++ (sts 13 14 ++ (sts 14 15 ++ (sts 15 18 ++ (sts 18 19 ++ (sts 19 36 ++ []))))))))) := by kernel_rfl
noncomputable abbrev sEnd (w : World) (os : OsState) : SharedT := sz w lsE os
theorem top_runs : ∀ (w : World) (os : OsState), ∃ M, M ≤ 40000 ∧ topRun treeTable pw w 28 annE M (s0 w os).abs (topStub pw) = some (sEnd w os).abs := fun w os => by
  have h := piece_nil (env := envE) (z_fin w lsE os)
  have h := piece_app (run_run (z19 w os lsE)) h
  have h := piece_app (z18 w os) h
  have h := piece_app (run_run (z15 w os)) h
  have h := piece_app (z14 w os) h
  have h := piece_app (run_run (z13 w os)) h
  have h := piece_app (z12 w os) h
  have h := piece_app (run_run (z5 w os)) h
  have h := piece_app (z4 w os) h
  have h := piece_app (run_run (z1 w os)) h
  rw [← body_is] at h
  have h := piece_block (z_block w os) h
  have h := go_top (z_pre w os) h
  exact ⟨_, by decide, h⟩
noncomputable def H1 (P : Params) : Heap := absHeap (szt P lsE) 151 {}
theorem run_all : ∀ (w : World) (os : OsState), topRun treeTable pw w 28 annE 40000 ⟨H0 w.params, #[], {}, 276, os⟩ (topStub pw) = some ⟨H1 w.params, #[], {}, 1994, os⟩ := fun w os => by
  obtain ⟨M, hM, h⟩ := top_runs w os
  have := topRun_mono (40000 - M) _ _ _ _ h
  rw [show M + (40000 - M) = 40000 by omega] at this
  exact this
theorem sized : ∀ w : World, ((H0 w.params).isNs mainGlobals && (#[] : Array GenState).size == 0, (H0 w.params).objs.size, (H0 w.params).nsMap mainGlobals "__annotations__") = (true, 28, annE) := fun w => by kernel_rfl
end Mine
end
section
open PySem PySem.W PyProof.Rows
set_option autoImplicit false
set_option linter.unusedVariables false
set_option maxRecDepth 1000000
namespace Mine
noncomputable def qv : Program := view pw [35]
noncomputable def looseN : List PySem.Str := (pw.boundNames.filter fun n => n != ("law" : PySem.Str)) 
noncomputable def looks1 (w : World) (os : OsState) : Prop := (staticsOk (importedModules pw.main.body) (H0 w.params) (H1 w.params) && namesBound pw (H1 w.params) && gensDone ⟨H1 w.params, #[], {}, 1994, os⟩ && laidKept (H0 w.params) (H1 w.params)) = true
theorem look1 : ∀ w os, looks1 w os := fun w os => by unfold looks1; kernel_rfl
theorem look2 : ∀ (w : World) (os : OsState), openSeen qv looseN (importedModules pw.main.body) (fun _ => true) true ⟨H1 w.params, #[], {}, 1994, os⟩ = openGood qv looseN := fun w os => by kernel_rfl
end Mine
end
section
open PySem PySem.W PyProof.Rows
set_option autoImplicit false
set_option linter.unusedVariables false
set_option maxRecDepth 1000000
namespace Mine
noncomputable abbrev bW (w : World) : Base := ⟨pw, w, H1 w.params, (H1 w.params).nsMap mainGlobals, (H1 w.params).nsMap builtinsNs⟩
theorem ground (w : World) : Ground qv looseN [] (fun _ _ => True) w ⟨H1 w.params, #[], {}, 1994, default⟩ ((H1 w.params).nsMap mainGlobals) ((H1 w.params).nsMap builtinsNs) (H1 w.params) :=
  (ground_of_open (s := ⟨H1 w.params, #[], {}, 1994, default⟩) (fun _ _ => trivial) (by rfl) (look2 w default)).1
theorem baseW (w : World) : BaseOk (bW w) := ⟨(ground w).T.g, (ground w).T.b, (ground w).T.nolimit⟩
theorem repAll_map {Mu : List Addr} {h : Heap} {α : Type} {f : α → Value} {g : α → PyData} : ∀ (l : List α), (∀ i ∈ l, Rep Mu h (f i) (g i)) → RepAll Mu h (l.map f) (l.map g)
  | [], _ => RepAll.nil
  | a :: r, H => RepAll.cons (H a List.mem_cons_self) (repAll_map r fun i hi => H i (List.mem_cons_of_mem _ hi))
noncomputable def encAt (c : Nat) : PySem.Str := if bodyPlain c || c == 13 || c == 10 then ⟨#[c]⟩ else quoted c
theorem enc_all : ((List.range 256).all fun i => Value.isStrOf (encAt i) (f18 i)) = true := by decide +kernel
theorem rep_q (w : World) : Rep [] (H1 w.params) (.ref 39) (.list (quoMap.map .str)) := by
  refine Rep.list (o := ⟨.type "list", none, .seq (fl qItem) 256, #[]⟩) (by simp) (by kernel_rfl) rfl rfl ?_
  show RepAll [] _ (((List.range 256).map qItem).toArray).toList _
  rw [List.toList_toArray]
  unfold quoMap
  rw [List.map_map]
  exact repAll_map _ fun i _ => Rep.str _ _
theorem rep_e (w : World) : Rep [] (H1 w.params) (.ref 68) (.list (encMap.map .str)) := by
  refine Rep.list (o := ⟨.type "list", none, .seq (fl f18) 0, #[]⟩) (by simp) (by kernel_rfl) rfl rfl ?_
  show RepAll [] _ (((List.range 256).map f18).toArray).toList _
  rw [List.toList_toArray]
  unfold encMap
  rw [List.map_map]
  refine repAll_map _ fun i hi => ?_
  have := List.all_eq_true.mp enc_all i hi
  obtain ⟨t, ht⟩ := Value.isStrOf_shape this
  rw [ht]
  exact Rep.str _ _
theorem fn_of {w : World} {x : PySem.Str} {k : Nat} {a c : Addr} {o oc : Obj} {pm doc : Value} {vs : Array Value} {t : Tok} (h1 : (H1 w.params).nsMap mainGlobals x = some (.ref a)) (h2 : (H1 w.params).get? a = some o)
    (h3 : o.data = .func (fdOf k x pm (.ref c) doc .none)) (h4 : (H1 w.params).get? c = some oc) (h5 : oc.data = .fields vs) (h6 : vs[1]? = some (.str x t)) : Fn (bW w) x k :=
  ⟨a, pm, .ref c, doc, h1, ⟨o, h2, h3⟩, c, oc, vs, t, rfl, h4, h5, h6⟩
theorem topW (w : World) : TopOk (bW w) where
  base := baseW w
  sys := ⟨o1_0 w.params, by kernel_rfl⟩
  f_unquote := fn_of (pm := vS "cpy313.email.quoprimime" 1359) (doc := .none) (t := 1859) (a := 59) (c := 58) (o := o59_17 w.params) (oc := o58_17 w.params) (by kernel_rfl) (by kernel_rfl) (by kernel_rfl) (by kernel_rfl) rfl (by kernel_rfl)
  f_quote := fn_of (pm := vS "cpy313.email.quoprimime" 1359) (doc := .none) (t := 1866) (a := 66) (c := 65) (o := o66_17 w.params) (oc := o65_17 w.params) (by kernel_rfl) (by kernel_rfl) (by kernel_rfl) (by kernel_rfl) rfl (by kernel_rfl)
  f_um := fn_of (pm := vS "cpy313.email.quoprimime" 1359) (doc := .none) (t := 1901) (a := 86) (c := 85) (o := o86_35 w.params) (oc := o85_35 w.params) (by kernel_rfl) (by kernel_rfl) (by kernel_rfl) (by kernel_rfl) rfl (by kernel_rfl)
  f_hd := fn_of (pm := vS "cpy313.email.quoprimime" 1359) (doc := .none) (t := 1909) (a := 93) (c := 92) (o := o93_35 w.params) (oc := o92_35 w.params) (by kernel_rfl) (by kernel_rfl) (by kernel_rfl) (by kernel_rfl) rfl (by kernel_rfl)
  f_dr := fn_of (pm := vS "cpy313.email.utils" 1915) (doc := .none) (t := 1920) (a := 100) (c := 99) (o := o100_35 w.params) (oc := o99_35 w.params) (by kernel_rfl) (by kernel_rfl) (by kernel_rfl) (by kernel_rfl) rfl (by kernel_rfl)
  f_pk := fn_of (pm := vS "cpy313.urllib.request" 1927) (doc := .none) (t := 1930) (a := 107) (c := 106) (o := o107_35 w.params) (oc := o106_35 w.params) (by kernel_rfl) (by kernel_rfl) (by kernel_rfl) (by kernel_rfl) rfl (by kernel_rfl)
  f_cell := fn_of (pm := vS "law_wo0029_01" 1940) (doc := .none) (t := 1943) (a := 114) (c := 113) (o := o114_35 w.params) (oc := o113_35 w.params) (by kernel_rfl) (by kernel_rfl) (by kernel_rfl) (by kernel_rfl) rfl (by kernel_rfl)
  f_signs := fn_of (pm := vS "law_wo0029_01" 1940) (doc := .none) (t := 1951) (a := 119) (c := 118) (o := o119_35 w.params) (oc := o118_35 w.params) (by kernel_rfl) (by kernel_rfl) (by kernel_rfl) (by kernel_rfl) rfl (by kernel_rfl)
  f_parts := fn_of (pm := vS "law_wo0029_01" 1940) (doc := .none) (t := 1957) (a := 126) (c := 125) (o := o126_35 w.params) (oc := o125_35 w.params) (by kernel_rfl) (by kernel_rfl) (by kernel_rfl) (by kernel_rfl) rfl (by kernel_rfl)
  f_pair := fn_of (pm := vS "law_wo0029_01" 1940) (doc := .none) (t := 1967) (a := 133) (c := 132) (o := o133_35 w.params) (oc := o132_35 w.params) (by kernel_rfl) (by kernel_rfl) (by kernel_rfl) (by kernel_rfl) rfl (by kernel_rfl)
  f_pieces := fn_of (pm := vS "law_wo0029_01" 1940) (doc := .none) (t := 1974) (a := 138) (c := 137) (o := o138_35 w.params) (oc := o137_35 w.params) (by kernel_rfl) (by kernel_rfl) (by kernel_rfl) (by kernel_rfl) rfl (by kernel_rfl)
  f_letter := fn_of (pm := vS "law_wo0029_01" 1940) (doc := .none) (t := 1980) (a := 145) (c := 144) (o := o145_35 w.params) (oc := o144_35 w.params) (by kernel_rfl) (by kernel_rfl) (by kernel_rfl) (by kernel_rfl) rfl (by kernel_rfl)
  f_law := fn_of (pm := vS "law_wo0029_01" 1940) (doc := .none) (t := 1989) (a := 150) (c := 149) (o := o150_35 w.params) (oc := o149_35 w.params) (by kernel_rfl) (by kernel_rfl) (by kernel_rfl) (by kernel_rfl) rfl (by kernel_rfl)
  f_be := ⟨1880, 319, 79, vS "cpy313.email.quoprimime" 1359, .ref 78, .none, 72, 0, by kernel_rfl, ⟨o79_35 w.params, by kernel_rfl, by kernel_rfl⟩, ⟨78, o78_35 w.params, _, 1882, rfl, by kernel_rfl, rfl, by kernel_rfl⟩, o72_35 w.params, by kernel_rfl, by kernel_rfl⟩
  g_crlf := ⟨317, by kernel_rfl⟩
  g_tick := ⟨1917, by kernel_rfl⟩
  g_qm := ⟨.ref 39, by kernel_rfl, rep_q w⟩
  g_em := ⟨.ref 68, by kernel_rfl, rep_e w⟩
  g_re := ⟨36, by kernel_rfl, 35, .ofString "=[a-fA-F0-9]{2}", 283, 315, by kernel_rfl, by kernel_rfl⟩
  c_um := fun a h => by
    have e : (H1 w.params).nsMap mainGlobals "_unquote_match" = some (.ref 86) := by kernel_rfl
    have h' : (H1 w.params).nsMap mainGlobals "_unquote_match" = some (.ref a) := h
    rw [e] at h'
    cases h'
    exact ⟨o86_35 w.params, by kernel_rfl, rfl⟩
  n_len := ⟨by kernel_rfl, by kernel_rfl⟩
  n_chr := ⟨by kernel_rfl, by kernel_rfl⟩
  n_ord := ⟨by kernel_rfl, by kernel_rfl⟩
  n_int := ⟨by kernel_rfl, by kernel_rfl⟩
  n_str := ⟨by kernel_rfl, by kernel_rfl⟩
  n_list := ⟨by kernel_rfl, by kernel_rfl⟩
  n_tuple := ⟨by kernel_rfl, by kernel_rfl⟩
  n_range := ⟨by kernel_rfl, by kernel_rfl⟩
  n_isi := ⟨by kernel_rfl, by kernel_rfl⟩
  n_sorted := ⟨by kernel_rfl, by kernel_rfl⟩
  n_max := ⟨by kernel_rfl, by kernel_rfl⟩
  n_ve := ⟨by kernel_rfl, by kernel_rfl⟩
end Mine
end
section
open PySem PySem.W PyProof.Rows
set_option autoImplicit false
set_option linter.unusedVariables false
set_option maxRecDepth 1000000
namespace Mine

noncomputable def insN (x : Nat) : List Nat → List Nat
  | [] => [x]
  | y :: r => bif Nat.ble x y then x :: y :: r else y :: insN x r
noncomputable def sortN : List Nat → List Nat
  | [] => []
  | x :: r => insN x (sortN r)
noncomputable def backN (N n a : Nat) : List Nat := sortN ((List.range (n + 1)).map fun j => (N * n - j * a) % N)
noncomputable def kd (bk : List Nat) (s : Nat) : Nat := (bk.filter fun x => Nat.ble x s).length
/-- the signs of a row from place s on: the other one, or not -/
noncomputable def bitsN (N n a s : Nat) : List Bool := (List.range n).map fun t => Nat.ble (N - a) ((s + a * t) % N)
noncomputable def onesN (N n a s : Nat) : Nat := ((bitsN N n a s).filter fun x => x).length
noncomputable def eqB : List Bool → List Bool → Bool
  | [], [] => true
  | x :: r, y :: q => (x == y) && eqB r q
  | _, _ => false
noncomputable def startN (N n a f i : Nat) : Nat := (f + a * (n * i)) % N
noncomputable def ekN (N n a f i : Nat) : Nat := kd (backN N n a) (startN N n a f i)
noncomputable def firstsN (e : Nat → Nat) (m : Nat) : List Nat := (List.range m).filter fun i => (List.range i).all fun j => !(Nat.beq (e j) (e i))
noncomputable def cntN (e : Nat → Nat) (m i : Nat) : Nat := ((List.range m).filter fun j => Nat.beq (e j) (e i)).length
noncomputable def gapN (N : Nat) (bk : List Nat) (k : Nat) : Nat := (bk ++ [N]).getD k 0 - bk.getD (k - 1) 0
noncomputable def waysN (e : Nat → Nat) (m : Nat) : List Nat := ((List.range m).map (· + 1)).filter fun c => (firstsN e m).any fun i => Nat.beq (cntN e m i) c
noncomputable def three : List Nat → Bool
  | [] => true
  | [_] => true
  | [_, _] => true
  | [x, y, z] => Nat.beq z (x + y)
  | _ => false
noncomputable def chkA (N n a : Nat) : Bool := (List.range N).all fun s =>
  ((List.range N).all fun s' => (eqB (bitsN N n a s) (bitsN N n a s')) == (Nat.beq (kd (backN N n a) s) (kd (backN N n a) s'))) &&
  ((Nat.beq (onesN N n a s) (a * n / N) || Nat.beq (onesN N n a s) (a * n / N + 1)) &&
  (Nat.ble 1 (kd (backN N n a) s) && Nat.ble (kd (backN N n a) s) (n + 1)))
noncomputable def chkB (N n a f : Nat) : Bool :=
  Nat.beq (firstsN (ekN N n a f) N).length (n + 1) &&
  ((firstsN (ekN N n a f) N).all (fun i => Nat.beq (cntN (ekN N n a f) N i) (gapN N (backN N n a) (ekN N n a f i))) &&
  (three (waysN (ekN N n a f) N) &&
  Nat.beq ((List.range N).filter fun i => Nat.beq (onesN N n a (startN N n a f i)) (a * n / N + 1)).length (a * n % N)))
noncomputable def chk (N n : Nat) : Bool := (List.range (N - 1)).all fun a => chkA N n (a + 1) && (List.range N).all fun f => chkB N n (a + 1) f
theorem chk_7_3 : chk 7 3 = true := by decide +kernel
theorem chk_7_4 : chk 7 4 = true := by decide +kernel
theorem chk_7_5 : chk 7 5 = true := by decide +kernel
theorem chk_7_6 : chk 7 6 = true := by decide +kernel
theorem chk_11_3 : chk 11 3 = true := by decide +kernel
theorem chk_11_4 : chk 11 4 = true := by decide +kernel
theorem chk_11_5 : chk 11 5 = true := by decide +kernel
theorem chk_11_6 : chk 11 6 = true := by decide +kernel
theorem chk_13_3 : chk 13 3 = true := by decide +kernel
theorem chk_13_4 : chk 13 4 = true := by decide +kernel
theorem chk_13_5 : chk 13 5 = true := by decide +kernel
theorem chk_13_6 : chk 13 6 = true := by decide +kernel
end Mine
end
section
open PySem PySem.W PyProof.Rows
set_option autoImplicit false
set_option linter.unusedVariables false
set_option maxRecDepth 100000
namespace Mine
theorem quote_fun {b : Base} (T : TopOk b) (x : Nat) (hx : x < 256) : ∃ f, b.mg "quote" = some f ∧ Fun b f [.str ⟨#[x]⟩] 0 (.d (.str (quoted x))) := by
  refine T.f_quote.fun T.base (names := ["c"]) (by decide +kernel) rfl (fun pm code doc vs hv => ?_) fun A L a pm code doc s₀ M0 ok => ?_
  · obtain ⟨v, rfl⟩ := one_of hv; kernel_rfl
  · obtain ⟨v, hv, rv⟩ := T.g_qm
    refine Ex.r (Ev.sub ok (Ev.of_base (Ev.g ok T.base hv) rv) (Ev.callB ok (Ev.bi ok T.base T.n_ord) (.one (Ev.v ok)) (Cal.ord x)) (Gop.list _ x (.str (quoted x)) ?_ (by omega)) (fun o i => ⟨_, rfl⟩))
    simp [quoMap, List.getElem?_range hx]

noncomputable def cellAt (script : List Int) (i : Nat) : Int := (script[i]?).getD ([3, 2, 0, 0, 2, 6175, 39].getD i 0)
theorem cell_fun {b : Base} (T : TopOk b) (script : List Int) (i : Nat) (hs : script.length < 2 ^ 62) (hi : i < 7) : ∃ f, b.mg "_law_cell" = some f ∧ Fun b f [.list (script.map .int), .int i] 0 (.d (.int (cellAt script i))) := by
  refine T.f_cell.fun T.base (names := ["script", "place"]) (by decide +kernel) rfl (fun pm code doc vs hv => ?_) fun A L a pm code doc s₀ M0 ok => ?_
  · obtain ⟨v, w, rfl⟩ := two_of hv; kernel_rfl
  · refine Ex.guard (Te.cmp ok (Ev.v ok) (Ev.callB ok (Ev.bi ok T.base T.n_len) (.one (Ev.v ok)) (Cal.lenL _ (by simpa using hs))) (Cop.lt _ _) rfl) (fun h => ?_) (fun h => ?_)
    · refine Ex.r (Ev.sub ok (Ev.v ok) (Ev.v ok) (Gop.list (script.map .int) i (.int (cellAt script i)) ?_ (by omega)) (fun o i => ⟨_, rfl⟩))
      have : i < script.length := by simpa using h
      simp [cellAt, this]
    · refine Ex.r (Ev.sub ok (Ev.listD (.cons Ev.i rfl (.cons Ev.i rfl (.cons Ev.i rfl (.cons Ev.i rfl (.cons Ev.i rfl (.cons Ev.i rfl (.cons Ev.i rfl .nil))))))) (by show 7 ≤ sizeLine; decide)) (Ev.v ok) (Gop.list _ i (.int (cellAt script i)) ?_ (by omega)) (fun o i => ⟨_, rfl⟩))
      have : script.length ≤ i := by simpa using h
      have e : script[i]? = none := by simp [this]
      unfold cellAt
      rw [e]
      match i, hi with
      | 0, _ => rfl
      | 1, _ => rfl
      | 2, _ => rfl
      | 3, _ => rfl
      | 4, _ => rfl
      | 5, _ => rfl
      | 6, _ => rfl
end Mine
end
section
open PySem PySem.W PyProof.Rows
set_option autoImplicit false
set_option linter.unusedVariables false
set_option maxRecDepth 100000
namespace Mine
noncomputable def tick : PySem.Str := ⟨#[39]⟩
noncomputable def decoded (s : PySem.Str) : LV := if (Txt.splitMax s tick 2).length ≤ 2 then .d (.tuple [.none, .none, .str s]) else .pl ((Txt.splitMax s tick 2).map .str)
theorem decode_fun {b : Base} (T : TopOk b) (s : PySem.Str) (hs : s.length + 2 ≤ sizeLine) (hp : (Txt.splitMax s tick 2).length < 2 ^ 62) : ∃ f, b.mg "decode_rfc2231" = some f ∧ Fun b f [.str s] 0 (decoded s) := by
  refine T.f_dr.fun T.base (names := ["s"]) (by decide +kernel) rfl (fun pm code doc vs hv => ?_) fun A L a pm code doc s₀ M0 ok => ?_
  · obtain ⟨v, rfl⟩ := one_of hv; kernel_rfl
  · obtain ⟨t, ht⟩ := T.g_tick
    refine Ex.a ok (Ev.m ok (Ev.v ok) (.two (Ev.of_base (Ev.g ok T.base ht) (Rep.str tick t)) Ev.i) PySem.F.slot_str_split PySem.F.type_str_split (Cal.splitMax s tick 2 (by decide) (by decide) hs)) ?_
    refine Ex.guard (Te.cmp ok (Ev.callB ok (Ev.bi ok T.base T.n_len) (.one (Ev.weak (Ev.v ok))) (Cal.lenL _ (by simpa using hp))) Ev.i (Cop.le _ _) rfl) (fun h => ?_) (fun h => ?_)
    · have h' : (Txt.splitMax s tick 2).length ≤ 2 := by have := h; simp at this; omega
      unfold decoded
      rw [if_pos h']
      exact Ex.r (Ev.tupleD (.cons Ev.no rfl (.cons Ev.no rfl (.cons (Ev.v ok) rfl .nil))) (by show 3 ≤ sizeLine; decide))
    · have h' : ¬ (Txt.splitMax s tick 2).length ≤ 2 := by have := h; simp at this; omega
      unfold decoded
      rw [if_neg h']
      exact Ex.r (Ev.v ok)

noncomputable def sp1 : PySem.Str := ⟨#[32]⟩
noncomputable def tab1 : PySem.Str := ⟨#[9]⟩
noncomputable def letterOf (due : PySem.Str) : PySem.Str :=
  if Txt.item due (-1) = sp1 then Txt.slice due none (some (-1)) ++ (⟨#[61, 50, 48]⟩ : PySem.Str)
  else if Txt.item due (-1) = tab1 then Txt.slice due none (some (-1)) ++ (⟨#[61, 48, 57]⟩ : PySem.Str) else due
theorem letter_fun {b : Base} (T : TopOk b) (ys : List PySem.Str) (soft : PySem.Str) (hj : JoinOk soft ys = true) (hl : (Txt.join soft ys).length + 3 ≤ sizeLine) (h0 : (Txt.charAt (Txt.join soft ys) (-1)).isSome = true) :
    ∃ f, b.mg "_law_letter" = some f ∧ Fun b f [.list (ys.map .str), .str soft] 0 (.d (.str (letterOf (Txt.join soft ys)))) := by
  refine T.f_letter.fun T.base (names := ["pieces", "soft"]) (by decide +kernel) rfl (fun pm code doc vs hv => ?_) fun A L a pm code doc s₀ M0 ok => ?_
  · obtain ⟨v, w, rfl⟩ := two_of hv; kernel_rfl
  · refine Ex.a ok (Ev.m ok (Ev.v ok) (.one (Ev.v ok)) PySem.F.slot_str_join PySem.F.type_str_join (Cal.join soft ys hj)) ?_
    generalize Txt.join soft ys = due at *
    have last : ∀ {Mu : List Addr} {ρ : Rho} {p₁ p₂ p₃ p₄ : Pos} {k : Nat}, ρ "due" = some (.d (.str due)) → Ev b ⟨A, callEnvC (fdOf 34 "_law_letter" pm code doc .none) L a⟩ Mu ρ (.Subscript (.Name "due" p₁) (.UnaryOp .USub (.Constant (.int 1) k p₂) p₃) p₄) (.d (.str (Txt.item due (-1)))) := fun h =>
      Ev.sub ok (Ev.v ok h) (Ev.neg Ev.i) (Gop.str due (-1) (by decide) h0) (fun o i => ⟨_, rfl⟩)
    have cut : ∀ {Mu : List Addr} {ρ : Rho} {p₁ p₂ p₃ p₄ p₅ : Pos} {k : Nat}, ρ "due" = some (.d (.str due)) → Ev b ⟨A, callEnvC (fdOf 34 "_law_letter" pm code doc .none) L a⟩ Mu ρ (.Subscript (.Name "due" p₁) (.Slice none (some (.UnaryOp .USub (.Constant (.int 1) k p₂) p₃)) none p₄) p₅) (.d (.str (Txt.slice due none (some (-1))))) := fun h =>
      Ev.sliceStr (lo := none) (hi := some (-1)) (Ev.v ok h) trivial (Ev.neg Ev.i) (by omega)
    have cl : (Txt.slice due none (some (-1))).length ≤ due.length := Txt.slice_le due _ _
    refine Ex.guard (Te.cmp ok (last (by kernel_rfl)) Ev.s (Cop.eqs _ _) rfl) (fun h => ?_) (fun h => ?_)
    · have h' : Txt.item due (-1) = sp1 := of_t h
      unfold letterOf
      rw [if_pos h']
      exact Ex.r (Ev.bin ok (cut (by kernel_rfl)) Ev.s (Bop.cat _ _ (by show _ + 3 ≤ sizeLine; omega)))
    · have h' : ¬ Txt.item due (-1) = sp1 := of_f h
      refine Ex.guard (Te.cmp ok (last (by kernel_rfl)) Ev.s (Cop.eqs _ _) rfl) (fun h2 => ?_) (fun h2 => ?_)
      · have h2' : Txt.item due (-1) = tab1 := of_t h2
        unfold letterOf
        rw [if_neg h', if_pos h2']
        exact Ex.r (Ev.bin ok (cut (by kernel_rfl)) Ev.s (Bop.cat _ _ (by show _ + 3 ≤ sizeLine; omega)))
      · have h2' : ¬ Txt.item due (-1) = tab1 := of_f h2
        unfold letterOf
        rw [if_neg h', if_neg h2']
        exact Ex.r (Ev.v ok)
end Mine
end
section
open PySem PySem.W PyProof.Rows
set_option autoImplicit false
set_option linter.unusedVariables false
set_option maxRecDepth 100000
namespace Mine

/-- the frame of a def of the text -/
noncomputable abbrev FE (k : Nat) (x : PySem.Str) (pm code doc : Value) (L a : Addr) : Env := callEnvC (fdOf k x pm code doc .none) L a

noncomputable def spareOf (text : PySem.Str) : Int := if Txt.contains ⟨#[32, 9]⟩ (Txt.item text (-1)) = true then 0 else 2
noncomputable def fullOf (text : PySem.Str) (wide : Int) : Int := ((text.length : Int) - spareOf text).fdiv wide
noncomputable def pieceAt (text : PySem.Str) (wide i : Int) : PySem.Str := Txt.slice text (some (wide * i)) (some (wide * i + wide))
noncomputable def piecesOf (text : PySem.Str) (wide : Int) : List PySem.Str :=
  (rangeI 0 (fullOf text wide)).map (pieceAt text wide) ++ [Txt.slice text (some (wide * fullOf text wide)) none]

theorem mulOk_small {i j : Int} (h1 : -(2 ^ 64) < i) (h2 : i < 2 ^ 64) : IntMulOk i j := IntMulOk.of_left (intBits_le_64 h1 h2)
theorem fdiv_le {a b : Int} (hb : 0 < b) : a.fdiv b ≤ a.natAbs ∧ -(a.natAbs : Int) - 1 ≤ a.fdiv b := by
  have e : a.fdiv b = a / b := Int.fdiv_eq_ediv_of_nonneg a (Int.le_of_lt hb)
  rw [e]
  have h1 := Int.ediv_mul_le a (Int.ne_of_gt hb)
  have h2 := Int.lt_ediv_add_one_mul_self a hb
  constructor
  · apply Int.ediv_le_of_le_mul hb
    have : (a.natAbs : Int) * 1 ≤ (a.natAbs : Int) * b := Int.mul_le_mul_of_nonneg_left (by omega) (by omega)
    omega
  · have := Int.le_ediv_of_mul_le (a := -(a.natAbs : Int) - 1) (b := a) hb (by
      have : (-(a.natAbs : Int) - 1) * b ≤ (-(a.natAbs : Int) - 1) * 1 := Int.mul_le_mul_of_nonpos_left (by omega) (by omega)
      omega)
    exact this
theorem pieces_fun {b : Base} (T : TopOk b) (text : PySem.Str) (wide : Int) (hw : 0 < wide) (hw2 : wide < 1000) (hl : text.length < 100000) (h0 : (Txt.charAt text (-1)).isSome = true) :
    ∃ f, b.mg "_law_pieces" = some f ∧ Fun b f [.str text, .int wide] 0 (.pl ((piecesOf text wide).map .str)) := by
  refine T.f_pieces.fun T.base (names := ["text", "wide"]) (by decide +kernel) rfl (fun pm code doc vs hv => ?_) fun A L a pm code doc s₀ M0 ok => ?_
  · obtain ⟨v, w, rfl⟩ := two_of hv; kernel_rfl
  · have hsp : spareOf text = 0 ∨ spareOf text = 2 := by unfold spareOf; split <;> simp
    have hfull := fdiv_le (a := (text.length : Int) - spareOf text) hw
    have hf2 : fullOf text wide < 2 ^ 40 := by unfold fullOf; omega
    have hf3 : -(2 ^ 40) < fullOf text wide := by unfold fullOf; omega
    have hlen : (rangeI 0 (fullOf text wide)).length ≤ 100002 := by rw [rangeI_len]; unfold fullOf; omega
    have hsz : 200000 ≤ sizeLine := by decide
    refine Ex.a ok (l := .d (.int (spareOf text))) (Ev.ifexp (t := Txt.contains ⟨#[32, 9]⟩ (Txt.item text (-1))) (Te.cmp ok (Ev.sub ok (Ev.v ok) (Ev.neg Ev.i) (Gop.str text (-1) (by decide) h0) (fun o i => ⟨_, rfl⟩)) Ev.s (Cop.inS _ _) rfl) (fun h => ?_) (fun h => ?_)) ?_
    · unfold spareOf; rw [if_pos h]; exact Ev.i
    · unfold spareOf; rw [if_neg (by rw [h]; decide)]; exact Ev.i
    refine Ex.a ok (l := .d (.int (fullOf text wide))) (Ev.bin ok (Ev.bin ok (Ev.callB ok (Ev.bi ok T.base T.n_len) (.one (Ev.v ok)) (Cal.lenS _ (by omega))) (Ev.v ok) (Bop.sub _ _)) (Ev.v ok) (Bop.fdiv _ _ (by omega) (PyProof.noPylong_small (by omega)))) ?_
    refine Ex.r ?_
    unfold piecesOf
    rw [List.map_append, List.map_map]
    refine Ev.addP ok ?_ ?_ (by simp; omega)
    · refine Ev.compI0 ok ["text", "wide"] (Src.r1 ok (by omega) (by omega) (Ev.bi ok T.base T.n_range) (.one (Ev.v ok))) (by omega) _ (fun _ _ => rfl) fun C i hi ok' => ?_
      obtain ⟨hi0, hi1⟩ := mem_rangeI hi
      refine Ev.sliceStr (lo := some (wide * i)) (hi := some (wide * i + wide)) (Ev.v ok') ?_ ?_ (by omega)
      · exact Ev.bin ok' (Ev.v ok') (Ev.v ok') (Bop.mul _ _ (mulOk_small (by omega) (by omega)))
      · exact Ev.bin ok' (Ev.bin ok' (Ev.v ok') (Ev.v ok') (Bop.mul _ _ (mulOk_small (by omega) (by omega)))) (Ev.v ok') (Bop.add _ _)
    · refine Ev.listP (.cons (Ev.sliceStr (lo := some (wide * fullOf text wide)) (hi := none) (Ev.v ok) ?_ trivial (by omega)) rfl .nil) (by show 1 ≤ sizeLine; omega)
      exact Ev.bin ok (Ev.v ok) (Ev.v ok) (Bop.mul _ _ (mulOk_small (by omega) (by omega)))
end Mine
end
section
open PySem PySem.W PyProof.Rows
set_option autoImplicit false
set_option linter.unusedVariables false
set_option maxRecDepth 100000
namespace Mine

noncomputable def banned (i : Int) : Bool := [PyData.int 39, .int 61, .int 95].any fun y => PyData.eqv y (.int i)
noncomputable def chars : List PySem.Str := ((rangeI 33 127).filter fun i => !banned i).map fun i => (⟨#[i.toNat]⟩ : PySem.Str)
noncomputable def signsT : PySem.Str := PySem.Str.ofString " \t_ " ++ Txt.join (PySem.Str.ofString "") chars
theorem chars_map : chars.map PyData.str = ((rangeI 33 127).filter fun i => !banned i).map fun i => PyData.str (⟨#[i.toNat]⟩ : PySem.Str) := by unfold chars; rw [List.map_map]; rfl
theorem chars_join : JoinOk (PySem.Str.ofString "") chars = true := by decide +kernel
theorem chars_len : (PySem.Str.ofString " \t_ ").length + (Txt.join (PySem.Str.ofString "") chars).length ≤ sizeLine := by decide +kernel
theorem range_len : (rangeI 33 127).length ≤ sizeLine := by decide +kernel
noncomputable def oneOf (n : Int) : PySem.Str := Txt.item signsT (n.fmod 95)
noncomputable def otherOf (n : Int) : PySem.Str :=
  if Txt.item signsT ((n.fdiv 95).fmod 95) = oneOf n then (if oneOf n = ⟨#[97]⟩ then ⟨#[98]⟩ else ⟨#[97]⟩) else Txt.item signsT ((n.fdiv 95).fmod 95)
theorem signs_at : ∀ i : Nat, i < 95 → (Txt.charAt signsT i).isSome = true := by decide +kernel
theorem signs_in (n : Int) : (Txt.charAt signsT (n.fmod 95)).isSome = true := by
  have h0 : 0 ≤ n.fmod 95 := Int.fmod_nonneg_of_pos n (by decide)
  have h1 : n.fmod 95 < 95 := Int.fmod_lt_of_pos n (by decide)
  have := signs_at (n.fmod 95).toNat (by omega)
  rwa [Int.toNat_of_nonneg h0] at this
theorem fits_mod (n : Int) : fitsSsize (n.fmod 95) = true := by
  have h0 : 0 ≤ n.fmod 95 := Int.fmod_nonneg_of_pos n (by decide)
  have h1 : n.fmod 95 < 95 := Int.fmod_lt_of_pos n (by decide)
  unfold fitsSsize
  simp only [Bool.and_eq_true, decide_eq_true_eq, Bool.not_eq_true', Bool.or_eq_false_iff, decide_eq_false_iff_not]
  omega
theorem signs_fun {b : Base} (T : TopOk b) (n : Int) : ∃ f, b.mg "_law_signs" = some f ∧ Fun b f [.int n] 0 (.d (.tuple [.str (oneOf n), .str (otherOf n)])) := by
  refine T.f_signs.fun T.base (names := ["number"]) (by decide +kernel) rfl (fun pm code doc vs hv => ?_) fun A L a pm code doc s₀ M0 ok => ?_
  · obtain ⟨v, rfl⟩ := one_of hv; kernel_rfl
  · refine Ex.a ok (Ev.bin ok Ev.s (Ev.m ok Ev.s (.one (Ev.weak ?_)) PySem.F.slot_str_join PySem.F.type_str_join (Cal.join _ chars chars_join)) (Bop.cat _ _ chars_len)) ?_
    · rw [chars_map]
      refine Ev.compI ok [] (Src.r2 ok (by decide) (by decide) (by decide) (by decide) (Ev.bi ok T.base T.n_range) (.two Ev.i Ev.i)) range_len (fun i => !banned i) _ fun C i hi ok' => ⟨?_, fun _ => ⟨rfl, ?_⟩⟩
      · exact .one (Te.cmp ok' (Ev.v ok') (Ev.listD (.cons Ev.i rfl (.cons Ev.i rfl (.cons Ev.i rfl .nil))) (by show 3 ≤ sizeLine; decide)) (Cop.notInL (.int i) [.int 39, .int 61, .int 95] (by decide) rfl (Nat.le_trans (Nat.min_le_left _ _) (by decide))) rfl)
      · obtain ⟨h0, h1⟩ := mem_rangeI hi
        exact Ev.callB ok' (Ev.bi ok' T.base T.n_chr) (.one (Ev.v ok')) (Cal.chr i (by omega) (by omega))
    rw [show PySem.Str.ofString " \t_ " ++ Txt.join (PySem.Str.ofString "") chars = signsT from rfl]
    have h95 : ∀ m : Int, m.fmod 95 = m.fmod 95 := fun _ => rfl
    refine Ex.a ok (l := .d (.str (oneOf n))) (Ev.sub ok (Ev.v ok) (Ev.bin ok (Ev.v ok) Ev.i (Bop.mod n 95 (by decide))) (Gop.str signsT (n.fmod 95) (fits_mod n) (signs_in n)) (fun o i => ⟨_, rfl⟩)) ?_
    refine Ex.a ok (Ev.sub ok (Ev.v ok) (Ev.bin ok (Ev.bin ok (Ev.v ok) Ev.i (Bop.fdiv n 95 (by decide) (PyProof.noPylong_small (by decide)))) Ev.i (Bop.mod (n.fdiv 95) 95 (by decide))) (Gop.str signsT ((n.fdiv 95).fmod 95) (fits_mod _) (signs_in _)) (fun o i => ⟨_, rfl⟩)) ?_
    refine Ex.ifThen (Te.cmp ok (Ev.v ok) (Ev.v ok) (Cop.eqs _ _) rfl) (fun h => ?_) (fun h => ?_)
    · have h' := eq_of_beq h
      refine Ex.a ok (l := .d (.str (otherOf n))) ?_ (Ex.nil ?_)
      · refine Ev.ifexp (Te.cmp ok (Ev.v ok) Ev.s (Cop.eqs _ _) rfl) (fun h2 => ?_) (fun h2 => ?_)
        · have h2' : oneOf n = ⟨#[97]⟩ := of_t h2
          unfold otherOf; rw [if_pos h', if_pos h2']; exact Ev.s
        · have h2' : ¬ oneOf n = ⟨#[97]⟩ := of_f h2
          unfold otherOf; rw [if_pos h', if_neg h2']; exact Ev.s
      · exact Ex.r (Ev.tupleD (.cons (Ev.v ok) rfl (.cons (Ev.v ok) rfl .nil)) (by show 2 ≤ sizeLine; decide))
    · have h' : ¬ Txt.item signsT ((n.fdiv 95).fmod 95) = oneOf n := fun q => by rw [q] at h; simp at h
      have e : otherOf n = Txt.item signsT ((n.fdiv 95).fmod 95) := by unfold otherOf; rw [if_neg h']
      rw [e]
      exact Ex.r (Ev.tupleD (.cons (Ev.v ok) rfl (.cons (Ev.v ok) rfl .nil)) (by show 2 ≤ sizeLine; decide))
end Mine
end
section
open PySem PySem.W PyProof.Rows
set_option autoImplicit false
set_option linter.unusedVariables false
set_option maxRecDepth 100000
namespace Mine

noncomputable def eqT : PySem.Str := ⟨#[61]⟩
noncomputable def dq : PySem.Str := ⟨#[34]⟩
structure KV (elt k v : PySem.Str) : Prop where
  sp : Txt.splitMax elt eqT 1 = [k, v]
  v0 : (Txt.charAt v 0).isSome = true
  vl : (Txt.charAt v (-1)).isSome = true
  len : elt.length + 2 ≤ sizeLine
  vlen : v.length ≤ sizeLine
noncomputable def unq (v : PySem.Str) : PySem.Str := if Txt.item v 0 = dq ∧ Txt.item v (-1) = dq then Txt.slice v (some 1) (some (-1)) else v
noncomputable def putKV (es : List (PySem.Str × PyData)) (p : PySem.Str × PySem.Str × PySem.Str) : List (PySem.Str × PyData) := putS es p.2.1 (.str (unq p.2.2))
noncomputable def parsedOf (ps : List (PySem.Str × PySem.Str × PySem.Str)) : List (PySem.Str × PyData) := ps.foldl putKV []
theorem putS_len (es : List (PySem.Str × PyData)) (k : PySem.Str) (d : PyData) : (putS es k d).length ≤ es.length + 1 := by
  unfold putS; split <;> simp
theorem parsed_len (ps : List (PySem.Str × PySem.Str × PySem.Str)) : ∀ es : List (PySem.Str × PyData), (ps.foldl putKV es).length ≤ es.length + ps.length := by
  induction ps with
  | nil => intro es; simp
  | cons p r ih => intro es; have := ih (putKV es p); have h2 := putS_len es p.2.1 (.str (unq p.2.2)); simp only [List.foldl_cons, List.length_cons]; unfold putKV at this ⊢; omega

theorem parse_fun {b : Base} (T : TopOk b) (ps : List (PySem.Str × PySem.Str × PySem.Str)) (hkv : ∀ p ∈ ps, KV p.1 p.2.1 p.2.2) (hn : ps.length ≤ 1000) :
    ∃ f, b.mg "parse_keqv_list" = some f ∧ Fun b f [.list ((ps.map (·.1)).map .str)] 0 (.k (parsedOf ps)) := by
  have hsz : 2000 ≤ sizeLine := by decide
  refine T.f_pk.fun T.base (names := ["l"]) (by decide +kernel) rfl (fun pm code doc vs hv => ?_) fun A L a pm code doc s₀ M0 ok => ?_
  · obtain ⟨v, rfl⟩ := one_of hv; kernel_rfl
  · refine Ex.newDict ok (.inl (by kernel_rfl)) T.sys fun d => ?_
    refine Ex.sx (Sx.for ok (Src.lS ok (Ev.v ok)) (.inl (by kernel_rfl)) (by intro _; rfl) (by intro _ _; rfl) (fun k ρ' mus' => ρ' "parsed" = some (.r (.ref d)) ∧ mus' = [(d, .dct (parsedOf (ps.take k)))]) ⟨by kernel_rfl, rfl⟩ (by rintro k ρ' mus' ⟨_, rfl⟩; rfl) ?_ ?_)
    · rintro G' I o k dd ρ' mus' hk ⟨hρ, rfl⟩
      rw [List.map_map, List.getElem?_map, Option.map_eq_some_iff] at hk
      obtain ⟨p, hp, rfl⟩ := hk
      have K := hkv p (List.mem_of_getElem? hp)
      refine Ex.le (Le.upd (Le.put Le.none hρ)) ?_
      simp only [Function.comp]
      refine Ex.assign2 ok (d₁ := .str p.2.1) (d₂ := .str p.2.2) (.inl ?_) rfl rfl (.inl (by kernel_rfl)) (.inl (by kernel_rfl)) (by rfl) (by rfl) ?_
      · have := Cal.splitMax (b := b) p.1 eqT 1 (by decide) (by decide) K.len
        rw [K.sp] at this
        exact Ev.weak (Ev.m ok (Ev.v ok) (.two Ev.s Ev.i) PySem.F.slot_str_split PySem.F.type_str_split this)
      have hstep : parsedOf (ps.take (k + 1)) = putS (parsedOf (ps.take k)) p.2.1 (.str (unq p.2.2)) := by
        unfold parsedOf
        rw [List.take_add_one, hp, List.foldl_append]; rfl
      have hlen : (parsedOf (ps.take k)).length ≤ sizeLine := by
        have := parsed_len (ps.take k) []
        have h2 : (ps.take k).length ≤ ps.length := by simp; omega
        unfold parsedOf; simp at this; omega
      refine Ex.ifThen (Te.and (.cons (Te.cmp ok (Ev.sub ok (Ev.v ok) Ev.i (Gop.str p.2.2 0 (by decide) K.v0) (fun o i => ⟨_, rfl⟩)) Ev.s (Cop.eqs _ _) rfl) fun _ => .cons (Te.cmp ok (Ev.sub ok (Ev.v ok) (Ev.neg Ev.i) (Gop.str p.2.2 (-1) (by decide) K.vl) (fun o i => ⟨_, rfl⟩)) Ev.s (Cop.eqs _ _) rfl) fun _ => .nil)) (fun h => ?_) (fun h => ?_)
      · simp only [Bool.and_true, Bool.and_eq_true] at h
        have h' : Txt.item p.2.2 0 = dq ∧ Txt.item p.2.2 (-1) = dq := ⟨of_t h.1, of_t h.2⟩
        have hu : unq p.2.2 = Txt.slice p.2.2 (some 1) (some (-1)) := if_pos h'
        refine Ex.a ok (Ev.sliceStr (lo := some 1) (hi := some (-1)) (Ev.v ok) Ev.i (Ev.neg Ev.i) K.vlen) (Ex.nil ?_)
        rw [← hu]
        refine Ex.setItem ok (l₁ := [(I, MV.obj o)]) (l₂ := []) (by kernel_rfl) (by decide) (by rfl) (Ev.v ok) (Ev.v ok) hlen (Ex.nil ⟨_, rfl, by kernel_rfl, ?_⟩)
        rw [hstep]; rfl
      · have h' : ¬ (Txt.item p.2.2 0 = dq ∧ Txt.item p.2.2 (-1) = dq) := fun ⟨q1, q2⟩ => by
          rw [q1, q2] at h
          exact absurd h (by decide +kernel)
        have hu : unq p.2.2 = p.2.2 := if_neg h'
        refine Ex.setItem ok (l₁ := [(I, MV.obj o)]) (l₂ := []) (by kernel_rfl) (by decide) (by rfl) (Ev.v ok) (Ev.v ok) hlen (Ex.nil ⟨_, rfl, by kernel_rfl, ?_⟩)
        rw [hstep, hu]; rfl
    · rintro ρ' mus' ⟨hρ, rfl⟩
      refine Ex.le (Le.put Le.none hρ) (Ex.freezeD (x := "parsed") (l₁ := []) (l₂ := []) (by kernel_rfl) (Ex.ret (l := .k (parsedOf ps)) (Ev.v ok ?_) rfl))
      rw [List.length_map, List.length_map, List.take_of_length_le (Nat.le_refl _)]; kernel_rfl
end Mine
end
section
open PySem PySem.Builtin.Str
set_option autoImplicit false
set_option linter.unusedVariables false
namespace Mine

noncomputable abbrev tl (x : PySem.Str) : List Nat := x.cps.toList
noncomputable abbrev ofL (l : List Nat) : PySem.Str := ⟨l.toArray⟩
theorem ofL_tl (x : PySem.Str) : ofL (tl x) = x := by cases x; simp [ofL, tl]
theorem tl_inj {x y : PySem.Str} (h : tl x = tl y) : x = y := by rw [← ofL_tl x, ← ofL_tl y, h]
theorem tl_len (x : PySem.Str) : (tl x).length = x.length := by simp [tl, PySem.Str.length]

/-- where a sign stands -/
noncomputable def posIn (c : Nat) : List Nat → Nat → List Nat
  | [], _ => []
  | a :: r, b => if a = c then b :: posIn c r (b + 1) else posIn c r (b + 1)
theorem posIn_cons (c a : Nat) (r : List Nat) (b : Nat) : posIn c (a :: r) b = if a = c then b :: posIn c r (b + 1) else posIn c r (b + 1) := rfl
theorem posIn_len (c : Nat) : ∀ (l : List Nat) (b : Nat), (posIn c l b).length = l.count c
  | [], _ => rfl
  | a :: r, b => by
    unfold posIn
    by_cases h : a = c
    · rw [if_pos h, h, List.length_cons, posIn_len c r, List.count_cons_self]
    · rw [if_neg h, posIn_len c r, List.count_cons_of_ne h]

theorem occ_run (x : PySem.Str) (c limit : Nat) : ∀ (n a : Nat) (st : Array Nat × Nat), a + n = x.length → st.2 ≤ a →
    (forIn (List.range' a (n + 1)) st (StrLaws.occBody x ⟨#[c]⟩ x.length limit)).run.fst.toList = st.1.toList ++ (posIn c ((tl x).drop a) a).take (limit - st.1.size)
  | 0, a, st, h, hs => by
    have e : (tl x).drop a = [] := List.drop_eq_nil_of_le (by rw [tl_len]; omega)
    rw [e]
    show (forIn [a] st (StrLaws.occBody x ⟨#[c]⟩ x.length limit)).run.fst.toList = _
    rw [List.forIn_cons]
    unfold StrLaws.occBody
    have hn : ¬ (((st.fst.size < limit ∧ st.snd ≤ a) ∧ a + (⟨#[c]⟩ : PySem.Str).length ≤ x.length) ∧ subAt x ⟨#[c]⟩ a = true) := fun q => by
      have := q.1.2
      simp [PySem.Str.length] at this h
      omega
    rw [if_neg hn]
    simp [posIn]
  | n + 1, a, st, h, hs => by
    rw [List.range'_succ, List.forIn_cons]
    have hlt : a < (tl x).length := by rw [tl_len]; omega
    have e : (tl x).drop a = (tl x)[a] :: (tl x).drop (a + 1) := (List.drop_eq_getElem_cons hlt)
    rw [e]
    have hiff := StrLaws.subAt_one x c a
    by_cases hc : (tl x)[a] = c
    · have hat : (tl x)[a]? = some c := by rw [List.getElem?_eq_getElem hlt, hc]
      obtain ⟨q1, q2⟩ := hiff.mpr hat
      unfold StrLaws.occBody
      by_cases hl : st.1.size < limit
      · rw [if_pos ⟨⟨⟨hl, hs⟩, q1⟩, q2⟩]
        show (forIn (List.range' (a + 1) (n + 1)) (st.1.push a, a + (⟨#[c]⟩ : PySem.Str).length) (StrLaws.occBody x ⟨#[c]⟩ x.length limit)).run.fst.toList = _
        rw [occ_run x c limit n (a + 1) _ (by omega) (by simp [PySem.Str.length])]
        rw [posIn_cons, if_pos hc]
        have e2 : limit - st.1.size = (limit - (st.1.push a).size) + 1 := by rw [Array.size_push]; omega
        rw [e2, List.take_succ_cons]
        show (st.1.push a).toList ++ _ = _
        rw [Array.toList_push]
        simp
      · rw [if_neg (fun q => hl q.1.1.1)]
        show (forIn (List.range' (a + 1) (n + 1)) (st.1, st.2) (StrLaws.occBody x ⟨#[c]⟩ x.length limit)).run.fst.toList = _
        rw [occ_run x c limit n (a + 1) _ (by omega) (by show st.2 ≤ a + 1; omega)]
        have e2 : limit - st.1.size = 0 := by omega
        simp [e2]
    · have hat : ¬ (tl x)[a]? = some c := by rw [List.getElem?_eq_getElem hlt]; simpa using hc
      unfold StrLaws.occBody
      rw [if_neg (fun q => hat (hiff.mp ⟨q.1.2, q.2⟩))]
      show (forIn (List.range' (a + 1) (n + 1)) (st.1, st.2) (StrLaws.occBody x ⟨#[c]⟩ x.length limit)).run.fst.toList = _
      rw [occ_run x c limit n (a + 1) _ (by omega) (by show st.2 ≤ a + 1; omega)]
      rw [posIn_cons, if_neg hc]
theorem occ_one (x : PySem.Str) (c limit : Nat) : occurrences x ⟨#[c]⟩ 0 x.length limit = (posIn c (tl x) 0).take limit := by
  rw [StrLaws.occ_eq]
  have := occ_run x c limit x.length 0 (#[], 0) (by omega) (Nat.le_refl _)
  simpa using this
theorem count_one (x : PySem.Str) (c : Nat) : Txt.count x ⟨#[c]⟩ = ((tl x).count c : Nat) := by
  unfold Txt.count
  rw [occ_one]
  congr 1
  rw [List.length_take, posIn_len]
  have := List.count_le_length (a := c) (l := tl x)
  rw [tl_len] at this
  omega

noncomputable def preH (p : List Nat) : List (List Nat) → List (List Nat)
  | [] => [p]
  | h :: t => (p ++ h) :: t
/-- cut at a sign, so many times at most -/
noncomputable def cutL (c : Nat) : List Nat → Nat → List (List Nat)
  | [], _ => [[]]
  | a :: r, 0 => [a :: r]
  | a :: r, k + 1 => if a = c then [] :: cutL c r k else preH [a] (cutL c r (k + 1))
theorem cutL_zero (c : Nat) (l : List Nat) : cutL c l 0 = [l] := by cases l <;> rfl
theorem cutL_ne (c : Nat) : ∀ (l : List Nat) (k : Nat), cutL c l k ≠ []
  | [], _ => by simp [cutL]
  | a :: r, 0 => by simp [cutL]
  | a :: r, k + 1 => by
    unfold cutL
    split
    · simp
    · cases cutL c r (k + 1) <;> simp [preH]
theorem preH_preH (p q : List Nat) {l : List (List Nat)} (h : l ≠ []) : preH p (preH q l) = preH (p ++ q) l := by
  cases l with
  | nil => exact absurd rfl h
  | cons a r => simp [preH]
theorem preH_nil {l : List (List Nat)} (h : l ≠ []) : preH [] l = l := by
  cases l with
  | nil => exact absurd rfl h
  | cons a r => rfl
theorem strSub_tl (x : PySem.Str) (a b : Nat) : tl (strSub x a b) = ((tl x).drop a).take (b - a) := StrLaws.strSub_toList x a b

theorem parts_run (x : PySem.Str) (c : Nat) : ∀ (l : List Nat) (a b k : Nat), (tl x).drop b = l → a ≤ b → b ≤ x.length →
    (StrLaws.partsFrom x 1 a ((posIn c l b).take k)).map tl = preH (((tl x).drop a).take (b - a)) (cutL c l k)
  | [], a, b, k, h, hab, hb => by
    simp only [posIn, List.take_nil, StrLaws.partsFrom, List.map_cons, List.map_nil, cutL, preH, List.append_nil]
    rw [strSub_tl]
    have : (tl x).length ≤ b := List.drop_eq_nil_iff.mp h
    rw [tl_len] at this
    rw [show b = x.length by omega]
  | y :: r, a, b, 0, h, hab, hb => by
    simp only [List.take_zero, StrLaws.partsFrom, List.map_cons, List.map_nil, cutL, preH]
    rw [strSub_tl]
    congr 1
    have e : (tl x).drop a = ((tl x).drop a).take (b - a) ++ y :: r := by
      conv => lhs; rw [← List.take_append_drop (b - a) ((tl x).drop a)]
      rw [List.drop_drop, show a + (b - a) = b by omega, h]
    rw [List.take_of_length_le (by rw [List.length_drop, tl_len]; omega)]
    exact e
  | y :: r, a, b, k + 1, h, hab, hb => by
    have hlt : b < (tl x).length := by
      have := congrArg List.length h
      rw [List.length_drop, List.length_cons] at this
      omega
    have hr : (tl x).drop (b + 1) = r := by
      have := List.drop_eq_getElem_cons hlt
      rw [h] at this
      exact (List.cons.inj this).2.symm
    have hy : (tl x)[b] = y := by
      have := List.drop_eq_getElem_cons hlt
      rw [h] at this
      exact (List.cons.inj this).1.symm
    have hb' : b + 1 ≤ x.length := by rw [tl_len] at hlt; omega
    unfold posIn cutL
    by_cases hc : y = c
    · rw [if_pos hc, if_pos hc, List.take_succ_cons]
      show tl (strSub x a b) :: (StrLaws.partsFrom x 1 (b + 1) ((posIn c r (b + 1)).take k)).map tl = _
      rw [parts_run x c r (b + 1) (b + 1) k hr (Nat.le_refl _) hb', strSub_tl, Nat.sub_self, List.take_zero, preH_nil (cutL_ne _ _ _)]
      simp [preH]
    · rw [if_neg hc, if_neg hc, parts_run x c r a (b + 1) (k + 1) hr (by omega) hb', preH_preH _ _ (cutL_ne _ _ _)]
      congr 1
      rw [show b + 1 - a = (b - a) + 1 by omega]
      have hx : b - a < ((tl x).drop a).length := by rw [List.length_drop]; omega
      rw [List.take_succ_eq_append_getElem hx]
      congr 1
      rw [List.getElem_drop]
      simp only [show a + (b - a) = b by omega, hy]
theorem parts_cut (x : PySem.Str) (c k : Nat) : (partsBetween x ((posIn c (tl x) 0).take k) 1).map tl = cutL c (tl x) k := by
  rw [StrLaws.partsBetween_eq, parts_run x c (tl x) 0 0 k rfl (Nat.le_refl _) (Nat.zero_le _)]
  exact preH_nil (cutL_ne _ _ _)
theorem cutL_free (c : Nat) : ∀ (l : List Nat) (k : Nat), posIn c l 0 = [] ∨ k = 0 → cutL c l k = [l]
  | l, 0, _ => cutL_zero c l
  | l, k + 1, h => by
    have h' : l.count c = 0 := by
      rcases h with h | h
      · rw [← posIn_len c l 0, h]; rfl
      · cases h
    clear h
    induction l with
    | nil => rfl
    | cons a r ih =>
      by_cases ha : a = c
      · rw [ha, List.count_cons_self] at h'; cases h'
      · rw [List.count_cons_of_ne ha] at h'
        unfold cutL
        rw [if_neg ha, ih h']
        rfl
theorem kind_one (x : PySem.Str) {c : Nat} (hc : c < 256) : decide (Builtin.Str.strKind x < Builtin.Str.strKind ⟨#[c]⟩) = false := by
  have e : Builtin.Str.strKind ⟨#[c]⟩ = 1 := by unfold Builtin.Str.strKind; rw [if_pos (by simpa using hc)]
  rw [e]
  apply decide_eq_false
  unfold Builtin.Str.strKind
  split
  · omega
  · split <;> omega
theorem empty_tl {x : PySem.Str} (h : x.length < 1) : tl x = [] := List.eq_nil_of_length_eq_zero (by rw [tl_len]; omega)
theorem splitMax_one (x : PySem.Str) {c : Nat} (hc : c < 256) (k : Nat) : (Txt.splitMax x ⟨#[c]⟩ k).map tl = cutL c (tl x) k := by
  unfold Txt.splitMax
  have hl : limitOf x (k : Int) = k := by unfold limitOf; rw [if_neg (by omega)]; rfl
  rw [kind_one x hc, Bool.or_false, hl, occ_one]
  by_cases h1 : x.length < (⟨#[c]⟩ : PySem.Str).length
  · rw [if_pos (decide_eq_true h1)]
    have := empty_tl (x := x) (by simpa [PySem.Str.length] using h1)
    simp [this, cutL]
  · rw [if_neg (by simpa using h1)]
    by_cases he : ((posIn c (tl x) 0).take k).isEmpty = true
    · rw [if_pos he]
      have : (posIn c (tl x) 0).take k = [] := List.isEmpty_iff.mp he
      rw [List.take_eq_nil_iff] at this
      rw [cutL_free c (tl x) k (this.elim .inr .inl)]
      rfl
    · rw [if_neg he]
      exact parts_cut x c k
theorem split_one (x : PySem.Str) {c : Nat} (hc : c < 256) : (Txt.split x ⟨#[c]⟩).map tl = cutL c (tl x) (x.length + 1) := by
  unfold Txt.split
  rw [kind_one x hc, Bool.or_false, occ_one]
  by_cases h1 : x.length < (⟨#[c]⟩ : PySem.Str).length
  · rw [if_pos (decide_eq_true h1)]
    have := empty_tl (x := x) (by simpa [PySem.Str.length] using h1)
    simp [this, cutL]
  · rw [if_neg (by simpa using h1)]
    by_cases he : ((posIn c (tl x) 0).take (x.length + 1)).isEmpty = true
    · rw [if_pos he]
      have : (posIn c (tl x) 0).take (x.length + 1) = [] := List.isEmpty_iff.mp he
      rw [List.take_eq_nil_iff] at this
      rw [cutL_free c (tl x) _ (this.elim .inr .inl)]
      rfl
    · rw [if_neg he]
      exact parts_cut x c _

/-! joined words -/
noncomputable def glueL (sep : List Nat) : List (List Nat) → List Nat
  | [] => []
  | [x] => x
  | x :: y :: r => x ++ sep ++ glueL sep (y :: r)
theorem join_tl (sep : PySem.Str) : ∀ (ws : List PySem.Str), tl (Txt.join sep ws) = glueL (tl sep) (ws.map tl) := by
  intro ws
  show tl (glued sep ws) = _
  rw [StrLaws.glued_eq_join]
  induction ws with
  | nil => rfl
  | cons x r ih =>
    cases r with
    | nil => rfl
    | cons y r =>
      show tl (x ++ sep ++ Str.join sep (y :: r)) = _
      have e : ∀ a b : PySem.Str, tl (a ++ b) = tl a ++ tl b := fun a b => by show (a.cps ++ b.cps).toList = _; simp
      rw [e, e, ih]; rfl
theorem tl_append (a b : PySem.Str) : tl (a ++ b) = tl a ++ tl b := by show (a.cps ++ b.cps).toList = _; simp
theorem cut_word {c : Nat} : ∀ (w r : List Nat) (k : Nat), c ∉ w → cutL c (w ++ r) (k + 1) = preH w (cutL c r (k + 1))
  | [], r, k, _ => (preH_nil (cutL_ne _ _ _)).symm
  | a :: w, r, k, h => by
    have h1 : ¬ a = c := fun e => h (e ▸ List.mem_cons_self)
    show (if a = c then [] :: cutL c (w ++ r) k else preH [a] (cutL c (w ++ r) (k + 1))) = _
    rw [if_neg h1, cut_word w r k (fun q => h (List.mem_cons_of_mem _ q)), preH_preH _ _ (cutL_ne _ _ _)]
    rfl
theorem cut_alone {c : Nat} (w : List Nat) (k : Nat) (h : c ∉ w) : cutL c w k = [w] := by
  cases k with
  | zero => exact cutL_zero c w
  | succ k =>
    have := cut_word w [] k h
    rw [List.append_nil] at this
    rw [this]; simp [cutL, preH]
theorem cut_sep {c : Nat} (w r : List Nat) (k : Nat) (h : c ∉ w) : cutL c (w ++ [c] ++ r) (k + 1) = w :: cutL c r k := by
  rw [List.append_assoc, cut_word w _ k h]
  show preH w (if c = c then [] :: cutL c r k else _) = _
  rw [if_pos rfl]; simp [preH]
theorem cut_glue {c : Nat} : ∀ (ws : List (List Nat)) (k : Nat), ws ≠ [] → (∀ w ∈ ws, c ∉ w) → cutL c (glueL [c] ws) k = if ws.length ≤ k + 1 then ws else ws.take k ++ [glueL [c] (ws.drop k)]
  | [], _, h, _ => absurd rfl h
  | [x], k, _, hf => by
    rw [if_pos (by simp)]
    exact cut_alone x k (hf x (by simp))
  | x :: y :: r, 0, _, hf => by
    rw [cutL_zero, if_neg (by simp)]
    simp
  | x :: y :: r, k + 1, _, hf => by
    show cutL c (x ++ [c] ++ glueL [c] (y :: r)) (k + 1) = _
    rw [cut_sep x _ k (hf x (by simp)), cut_glue (y :: r) k (by simp) (fun w hw => hf w (List.mem_cons_of_mem _ hw))]
    by_cases h : (y :: r).length ≤ k + 1
    · rw [if_pos h, if_pos (by simp only [List.length_cons] at h ⊢; omega)]
    · rw [if_neg h, if_neg (by simp only [List.length_cons] at h ⊢; omega)]
      rfl
theorem glue_len (sep : List Nat) : ∀ ws : List (List Nat), ws.length ≤ (glueL sep ws).length + 1 ∨ sep = [] := by
  intro ws
  by_cases h : sep = []
  · exact .inr h
  · refine .inl ?_
    have hs : 0 < sep.length := List.length_pos_iff.mpr h
    induction ws with
    | nil => simp
    | cons x r ih =>
      cases r with
      | nil => simp
      | cons y r =>
        simp only [glueL, List.length_append, List.length_cons] at ih ⊢
        omega
theorem map_tl_inj {a b : List PySem.Str} (h : a.map tl = b.map tl) : a = b := by
  have := congrArg (List.map ofL) h
  simpa [List.map_map, Function.comp_def, ofL_tl] using this

/-! a sign for a sign -/
theorem glue_cut (c d : Nat) : ∀ (l : List Nat) (k : Nat), l.length < k → glueL [d] (cutL c l k) = l.map fun x => if x = c then d else x
  | [], k, _ => rfl
  | a :: r, 0, h => by cases h
  | a :: r, k + 1, h => by
    have hk : r.length < k := by simpa using h
    unfold cutL
    by_cases ha : a = c
    · rw [if_pos ha]
      have ih := glue_cut c d r k hk
      obtain ⟨p, q, e⟩ := List.exists_cons_of_ne_nil (cutL_ne c r k)
      rw [e] at ih ⊢
      show [] ++ [d] ++ glueL [d] (p :: q) = _
      rw [ih]; simp [ha]
    · rw [if_neg ha]
      have ih := glue_cut c d r (k + 1) (by omega)
      obtain ⟨p, q, e⟩ := List.exists_cons_of_ne_nil (cutL_ne c r (k + 1))
      rw [e] at ih ⊢
      have e2 : glueL [d] (([a] ++ p) :: q) = a :: glueL [d] (p :: q) := by cases q <;> simp [glueL]
      show glueL [d] (([a] ++ p) :: q) = _
      rw [e2, ih]; simp [ha]
theorem replace_tl (x : PySem.Str) {c d : Nat} (hc : c < 256) : tl (Txt.replace x ⟨#[c]⟩ ⟨#[d]⟩) = (tl x).map fun a => if a = c then d else a := by
  rw [StrLaws.replace_one, ← StrLaws.glued_eq_join]
  show tl (Txt.join _ _) = _
  rw [join_tl, split_one x hc]
  exact glue_cut c d (tl x) _ (by rw [tl_len]; omega)

/-! items and slices -/
theorem item_tl (x : PySem.Str) (i : Nat) (h : i < x.length) : (Txt.charAt x i) = (tl x)[i]? ∧ ((tl x)[i]?).isSome = true := by
  have h2 : i < (tl x).length := by rw [tl_len]; exact h
  constructor
  · unfold Txt.charAt
    rw [StrLaws.seqIndex_nonneg (Int.natCast_nonneg i) (by omega)]
    simp [tl]
  · simp [List.getElem?_eq_getElem h2]
theorem charLast (x : PySem.Str) (h : 0 < x.length) : Txt.charAt x (-1) = (tl x).getLast? := by
  unfold Txt.charAt
  rw [StrLaws.seqIndex_neg (by decide) (by omega)]
  have e : (-1 + (x.length : Int)).toNat = x.length - 1 := by omega
  rw [e, List.getLast?_eq_getElem?, tl_len]
  simp [tl]
theorem slice_tl (x : PySem.Str) {a b : Nat} (hab : a ≤ b) (hb : b ≤ x.length) : tl (Txt.slice x (some a) (some b)) = ((tl x).drop a).take (b - a) := by
  have := StrLaws.sliceText_nat x hab hb
  show tl (StrLaws.sliceText x (some a) (some b)) = _
  rw [this]
end Mine
end
section
open PySem PySem.W PyProof.Rows
set_option autoImplicit false
set_option linter.unusedVariables false
set_option maxRecDepth 100000
namespace Mine

theorem Gop.tuple {b : Base} (xs : List PyData) (k : Nat) (d : PyData) (hx : xs[k]? = some d) (hk : k < 2 ^ 62) : Gop b (.tuple xs) (.int k) d := fun A Mu s E v w R L hv hw => by
  obtain ⟨a, o, vs, n, rfl, hm, ho, hc, hd, r⟩ := hv.tuple_inv
  obtain ⟨t, rfl⟩ := hw.int_inv
  obtain ⟨u, hu, ru⟩ := r.get hx
  have ht : IsTup s.heap a vs := ⟨o, ho, hc, n, hd⟩
  have hlt : k < vs.toList.length := (List.getElem?_eq_some_iff.mp hu).1
  refine ⟨"tuple", _, slot_tuple_getitem.lookup, ⟨o, ho, hc⟩, getItem_tuple ht (by omega) (by omega) (j := k) ?_ (x := u) ?_ ⟨Grows.refl _, ru⟩⟩
  · rw [StrLaws.seqIndex_nonneg (by omega) (by simpa using hlt)]; rfl
  · simpa using hu

theorem Te.cast {b : Base} {c : Cx} {Mu : List Addr} {ρ : Rho} {e : Expr} {t t' : Bool} (h : Te b c Mu ρ e t) (q : t = t') : Te b c Mu ρ e t' := q ▸ h
/-- words without a tick, told apart by ticks -/
structure Ws (ws : List PySem.Str) : Prop where
  ne : ws ≠ []
  free : ∀ w ∈ ws, 39 ∉ tl w
theorem split_glue {c : Nat} (hc : c < 256) {ws : List PySem.Str} (hne : ws ≠ []) (hf : ∀ w ∈ ws, c ∉ tl w) : Txt.split (Txt.join ⟨#[c]⟩ ws) ⟨#[c]⟩ = ws := by
  apply map_tl_inj
  have hlen : (ws.map tl).length ≤ (Txt.join ⟨#[c]⟩ ws).length + 1 + 1 := by
    have := glue_len [c] (ws.map tl)
    rw [← tl_len, join_tl]
    rcases this with h | h
    · show _ ≤ (glueL [c] _).length + 1 + 1; omega
    · cases h
  rw [split_one _ hc, join_tl]
  show cutL c (glueL [c] (ws.map tl)) _ = _
  rw [cut_glue (ws.map tl) _ (by simpa using hne) (fun w hw => by obtain ⟨x, hx, rfl⟩ := List.mem_map.mp hw; exact hf x hx), if_pos hlen]
theorem splitMax_glue {c : Nat} (hc : c < 256) (k : Nat) {ws : List PySem.Str} (hne : ws ≠ []) (hf : ∀ w ∈ ws, c ∉ tl w) :
    Txt.splitMax (Txt.join ⟨#[c]⟩ ws) ⟨#[c]⟩ k = if ws.length ≤ k + 1 then ws else ws.take k ++ [Txt.join ⟨#[c]⟩ (ws.drop k)] := by
  apply map_tl_inj
  rw [splitMax_one _ hc, join_tl]
  show cutL c (glueL [c] (ws.map tl)) _ = _
  rw [cut_glue (ws.map tl) _ (by simpa using hne) (fun w hw => by obtain ⟨x, hx, rfl⟩ := List.mem_map.mp hw; exact hf x hx), List.length_map]
  split
  · rfl
  · rw [List.map_append, List.map_cons, List.map_nil, join_tl, List.map_take, List.map_drop]
theorem split_join {ws : List PySem.Str} (h : Ws ws) : Txt.split (Txt.join tick ws) tick = ws := split_glue (by decide) h.ne h.free
theorem splitMax_join {ws : List PySem.Str} (h : Ws ws) : Txt.splitMax (Txt.join tick ws) tick 2 = if ws.length ≤ 3 then ws else ws.take 2 ++ [Txt.join tick (ws.drop 2)] := splitMax_glue (by decide) 2 h.ne h.free
theorem glue_drop (sep : List Nat) : ∀ (ws : List (List Nat)) (k : Nat), (glueL sep (ws.drop k)).length ≤ (glueL sep ws).length
  | ws, 0 => Nat.le_refl _
  | [], k + 1 => Nat.le_refl _
  | [x], k + 1 => by simp [glueL]
  | x :: y :: r, k + 1 => by
    have := glue_drop sep (y :: r) k
    show (glueL sep ((y :: r).drop k)).length ≤ (x ++ sep ++ glueL sep (y :: r)).length
    simp only [List.length_append]; omega
theorem join_len_drop (ws : List PySem.Str) (k : Nat) : (Txt.join tick (ws.drop k)).length ≤ (Txt.join tick ws).length := by
  rw [← tl_len, ← tl_len, join_tl, join_tl, List.map_drop]; exact glue_drop _ _ _

theorem Ws.drop {ws : List PySem.Str} (h : Ws ws) {k : Nat} (hk : k < ws.length) : Ws (ws.drop k) :=
  ⟨fun e => by have := congrArg List.length e; simp at this; omega, fun w hw => h.free w (List.mem_of_mem_drop hw)⟩

/-- more than two words: two and the rest -/
theorem splitMax_long {ws : List PySem.Str} (h : Ws ws) (hl : 2 < ws.length) : Txt.splitMax (Txt.join tick ws) tick 2 = ws.take 2 ++ [Txt.join tick (ws.drop 2)] := by
  rw [splitMax_join h]
  by_cases h3 : ws.length ≤ 3
  · rw [if_pos h3]
    match ws, hl, h3 with
    | [a, b, c], _, _ => rfl
  · rw [if_neg h3]
theorem decoded_short {ws : List PySem.Str} (h : Ws ws) (hl : ws.length ≤ 2) : decoded (Txt.join tick ws) = .d (.tuple [.none, .none, .str (Txt.join tick ws)]) := by
  have e : Txt.splitMax (Txt.join tick ws) tick 2 = ws := by rw [splitMax_join h]; exact if_pos (by omega)
  unfold decoded; rw [e, if_pos hl]
theorem decoded_long {ws : List PySem.Str} (h : Ws ws) (hl : ¬ ws.length ≤ 2) : decoded (Txt.join tick ws) = .pl ((ws.take 2 ++ [Txt.join tick (ws.drop 2)]).map .str) := by
  unfold decoded; rw [splitMax_long h (by omega), if_neg (by simp; omega)]

theorem parts_fun {b : Base} (T : TopOk b) (ws : List PySem.Str) (h : Ws ws) (hl : (Txt.join tick ws).length < 100000) (hn : ws.length < 10000) :
    ∃ f, b.mg "_law_parts" = some f ∧ Fun b f [.str (Txt.join tick ws), .int ws.length] 1 (.pl (ws.map .str)) := by
  have hsz : 200000 ≤ sizeLine := by decide
  have dec : ∀ k, k < ws.length → ∃ f, b.mg "decode_rfc2231" = some f ∧ Fun b f [.str (Txt.join tick (ws.drop k))] 0 (decoded (Txt.join tick (ws.drop k))) := fun k hk =>
    decode_fun T _ (by have := join_len_drop ws k; omega) (by
      rw [splitMax_join (h.drop hk)]
      split
      · simp; omega
      · simp; omega)
  refine T.f_parts.fun T.base (names := ["text", "size"]) (by decide +kernel) rfl (fun pm code doc vs hv => ?_) fun A L a pm code doc s₀ M0 ok => ?_
  · obtain ⟨v, w, rfl⟩ := two_of hv; kernel_rfl
  · have hpos : 0 < ws.length := List.length_pos_iff.mpr h.ne
    obtain ⟨f, hf, F⟩ := dec 0 hpos
    rw [List.drop_zero] at F
    refine Ex.a ok (Ev.listP .nil (by show 0 ≤ sizeLine; omega)) ?_
    refine Ex.a ok (Ev.callF ok (Ev.g ok T.base hf) (.one (Ev.v ok)) F (by omega)) ?_
    refine Ex.sx (Sx.while (fun m ρ' mus' => ∃ j, 2 * j < ws.length ∧ m = ws.length - 2 * j ∧ mus' = [] ∧ Le (upd (upd (upd (fun _ => none) "size" (.d (.int ws.length))) "parts" (.pl ((ws.take (2 * j)).map .str))) "told" (decoded (Txt.join tick (ws.drop (2 * j))))) ρ') ws.length ⟨0, by omega, by omega, rfl, ?_⟩ ?_)
    · refine Le.put (Le.put (Le.put Le.none (by kernel_rfl)) (by kernel_rfl)) (by rw [Nat.mul_zero, List.drop_zero]; kernel_rfl)
    · rintro m ρ' mus' ⟨j, hj, rfl, rfl, hle⟩
      have hlen : ((ws.take (2 * j)).map PyData.str).length = 2 * j := by simp; omega
      have H := h.drop hj
      refine ⟨decide ((2 : Int) < (ws.length : Int) - (((ws.take (2 * j)).map PyData.str).length : Int)), ?_, fun ht => ?_, fun ht => ?_⟩
      · exact Te.cmp ok (Ev.bin ok (Ev.v ok (hle _ _ (by kernel_rfl))) (Ev.callB ok (Ev.bi ok T.base T.n_len) (.one (Ev.weak (Ev.v ok (hle _ _ (by kernel_rfl))))) (Cal.lenL _ (by omega))) (Bop.sub _ _)) Ev.i (Cop.gt _ _) rfl
      · have h2 : ¬ (ws.drop (2 * j)).length ≤ 2 := by have := of_decide_eq_true ht; rw [hlen] at this; simp; omega
        refine Ex.le hle ?_
        rw [decoded_long H h2]
        have e3 : ((((ws.drop (2 * j)).take 2 ++ [Txt.join tick ((ws.drop (2 * j)).drop 2)]).map PyData.str)).length = 3 := by simp at h2 ⊢; omega
        have e4 : ((ws.drop (2 * j)).take 2 ++ [Txt.join tick ((ws.drop (2 * j)).drop 2)])[2]? = some (Txt.join tick (ws.drop (2 * (j + 1)))) := by
          rw [List.getElem?_append_right (by simp; omega)]
          have : 2 - ((ws.drop (2 * j)).take 2).length = 0 := by simp at h2 ⊢; omega
          rw [this, List.drop_drop]
          rfl
        have e5 : ((ws.take (2 * j)).map PyData.str) ++ ((((ws.drop (2 * j)).take 2 ++ [Txt.join tick ((ws.drop (2 * j)).drop 2)]).map PyData.str).take 2) = ((ws.take (2 * (j + 1))).map PyData.str) := by
          rw [← List.map_take, ← List.map_append]
          congr 1
          rw [List.take_append_of_le_length (by simp at h2 ⊢; omega), List.take_take, Nat.min_self, show 2 * (j + 1) = 2 * j + 2 by omega, List.take_add]
        generalize hxs : (((ws.drop (2 * j)).take 2 ++ [Txt.join tick ((ws.drop (2 * j)).drop 2)]).map PyData.str) = xs at *
        have ex2 : xs[2]? = some (.str (Txt.join tick (ws.drop (2 * (j + 1))))) := by rw [← hxs, List.getElem?_map, e4]; rfl
        obtain ⟨f', hf', F'⟩ := dec (2 * (j + 1)) (by simp at h2; omega)
        refine Ex.skip (Te.or (.cons (t := false) (u := false) (Te.not (t := true) (Te.val (callN2 ok (Ev.bi ok T.base T.n_isi) (Ev.weak (Ev.v ok)) (Ev.bi ok T.base T.n_list) rfl rfl (fun A' s' E' v w _ _ q1 q2 => isiL A' s' E' v w _ q1 q2)) rfl)) fun _ => .cons (t := false) (u := false) ?_ fun _ => .nil)) ?_
        · refine Te.cast (Te.cmp ok (Ev.callB ok (Ev.bi ok T.base T.n_len) (.one (Ev.weak (Ev.v ok))) (Cal.lenL xs (by omega))) Ev.i (Cop.ne _ _) rfl) ?_
          rw [e3]; rfl
        refine Ex.a ok (Ev.addP ok (Ev.v ok) (Ev.sliceP (k := 2) (Ev.weak (Ev.v ok)) Ev.i (by omega) (by omega)) (by rw [hlen]; simp; omega)) ?_
        rw [e5]
        refine Ex.a ok (Ev.callF ok (Ev.g ok T.base hf') (.one (Ev.sub ok (Ev.weak (Ev.v ok)) Ev.i (Gop.list xs 2 _ ex2 (by omega)) (fun o i => ⟨_, rfl⟩))) F' (by omega)) ?_
        exact Ex.nil ⟨ws.length - 2 * (j + 1), by omega, j + 1, by simp at h2; omega, rfl, rfl, Le.put (Le.put (Le.put Le.none (by kernel_rfl)) (by kernel_rfl)) (by kernel_rfl)⟩
      · have h2 : (ws.drop (2 * j)).length ≤ 2 := by have := of_decide_eq_false ht; rw [hlen] at this; simp; omega
        refine Ex.le hle ?_
        rw [decoded_short H h2]
        have hsp : Txt.split (Txt.join tick (ws.drop (2 * j))) tick = ws.drop (2 * j) := split_join H
        have e6 : ((ws.take (2 * j)).map PyData.str) ++ ((Txt.split (Txt.join tick (ws.drop (2 * j))) tick).map PyData.str) = ws.map .str := by rw [hsp, ← List.map_append, List.take_append_drop]
        have hjl := join_len_drop ws (2 * j)
        generalize hs : Txt.join tick (ws.drop (2 * j)) = s at *
        refine Ex.skip (Te.or (.cons (t := false) (u := false) (Te.not (t := true) (Te.val (callN2 ok (Ev.bi ok T.base T.n_isi) (Ev.v ok) (Ev.bi ok T.base T.n_tuple) rfl rfl (fun A' s' E' v w _ _ q1 q2 => isiT A' s' E' v w _ q1 q2)) rfl)) fun _ => .cons (t := false) (u := false) ?_ fun _ => .cons (t := false) (u := false) ?_ fun _ => .cons (t := false) (u := false) ?_ fun _ => .nil)) ?_
        · exact Te.cast (Te.cmp ok (Ev.callB ok (Ev.bi ok T.base T.n_len) (.one (Ev.v ok)) (Cal.lenT [.none, .none, .str s] (by show 3 < 2 ^ 62; decide))) Ev.i (Cop.ne _ _) rfl) (by rfl)
        · exact Te.cmp ok (Ev.sub ok (Ev.v ok) Ev.i (Gop.tuple [.none, .none, .str s] 0 .none rfl (by decide)) (fun o i => ⟨_, rfl⟩)) Ev.no (Cop.isNot _ false rfl) rfl
        · exact Te.cmp ok (Ev.sub ok (Ev.v ok) Ev.i (Gop.tuple [.none, .none, .str s] 1 .none rfl (by decide)) (fun o i => ⟨_, rfl⟩)) Ev.no (Cop.isNot _ false rfl) rfl
        · refine Ex.ret (l := .pl (ws.map .str)) ?_ rfl
          rw [← e6]
          refine Ev.addP ok (Ev.v ok) (Ev.m ok (Ev.sub ok (Ev.v ok) Ev.i (Gop.tuple [.none, .none, .str s] 2 (.str s) rfl (by decide)) (fun o i => ⟨_, rfl⟩)) (.one Ev.s) PySem.F.slot_str_split PySem.F.type_str_split (Cal.split s tick (by decide) (by omega))) ?_
          rw [hlen, List.length_map, hsp]; simp; omega
end Mine
end
section
open PySem PySem.Builtin.Str
set_option autoImplicit false
set_option linter.unusedVariables false
namespace Mine

theorem tl_ofL (l : List Nat) : tl (ofL l) = l := by simp [tl, ofL]
theorem len_ofL (l : List Nat) : (ofL l).length = l.length := by rw [← tl_len, tl_ofL]
theorem slice_plain (x : PySem.Str) {i j : Int} (h : 0 ≤ i ∧ i ≤ j ∧ j ≤ x.length) : tl (Txt.slice x (some i) (some j)) = ((tl x).drop i.toNat).take (j - i).toNat := by
  have := StrLaws.sliceText_plain (x := x) (i := i) (j := j) ⟨h.1, h.2.1, by have := tl_len x; simp only [tl] at this; omega⟩
  show tl (StrLaws.sliceText x (some i) (some j)) = _
  rw [this]
theorem slice_from (x : PySem.Str) {i : Int} (h : 0 ≤ i ∧ i ≤ x.length) : tl (Txt.slice x (some i) none) = (tl x).drop i.toNat := by
  have hl := tl_len x
  have := StrLaws.sliceText_from (x := x) (i := i) ⟨h.1, by simp only [tl] at hl; omega⟩
  show tl (StrLaws.sliceText x (some i) none) = _
  rw [this]
  show List.take _ _ = _
  refine List.take_of_length_le ?_
  rw [List.length_drop]
  simp only [tl] at hl
  omega
theorem slice_to (x : PySem.Str) {j : Int} (h : 0 ≤ j ∧ j ≤ x.length) : tl (Txt.slice x none (some j)) = (tl x).take j.toNat := by
  have hl := tl_len x
  have := StrLaws.sliceText_to (x := x) (j := j) ⟨h.1, by simp only [tl] at hl; omega⟩
  show tl (StrLaws.sliceText x none (some j)) = _
  rw [this]
  show List.take _ _ = _
  simp
theorem slice_to_neg (x : PySem.Str) {k : Nat} (h0 : 0 < k) (h : k ≤ x.length) : tl (Txt.slice x none (some (-(k : Int)))) = (tl x).take (x.length - k) := by
  have := StrLaws.sliceText_neg_hi x none (j := -(k : Int)) (by omega) (by omega)
  show tl (StrLaws.sliceText x none _) = _
  rw [this]
  have e := slice_to x (j := -(k : Int) + x.length) (by omega)
  rw [show (-(k : Int) + x.length).toNat = x.length - k by omega] at e
  exact e
theorem slice_mid_neg (x : PySem.Str) {i : Int} {k : Nat} (h0 : 0 < k) (hi : 0 ≤ i) (h : i + k ≤ x.length) : tl (Txt.slice x (some i) (some (-(k : Int)))) = ((tl x).drop i.toNat).take (x.length - k - i.toNat) := by
  have := StrLaws.sliceText_neg_hi x (some i) (j := -(k : Int)) (by omega) (by omega)
  show tl (StrLaws.sliceText x (some i) _) = _
  rw [this]
  have e := slice_plain x (i := i) (j := -(k : Int) + x.length) (by omega)
  rw [show (-(k : Int) + x.length - i).toNat = x.length - k - i.toNat by omega] at e
  exact e
theorem slice_from_neg (x : PySem.Str) {k : Nat} (h0 : 0 < k) (h : k ≤ x.length) : tl (Txt.slice x (some (-(k : Int))) none) = (tl x).drop (x.length - k) := by
  have := StrLaws.sliceText_neg_lo x none (i := -(k : Int)) (by omega) (by omega)
  show tl (StrLaws.sliceText x _ none) = _
  rw [this]
  have e := slice_from x (i := -(k : Int) + x.length) (by omega)
  rw [show (-(k : Int) + x.length).toNat = x.length - k by omega] at e
  exact e

/-- the last sign -/
noncomputable def lastC (x : PySem.Str) : Nat := (Txt.charAt x (-1)).getD 0
theorem item_last (x : PySem.Str) : Txt.item x (-1) = ⟨#[lastC x]⟩ := rfl
theorem lastC_eq (x : PySem.Str) (h : 0 < x.length) : (tl x).getLast? = some (lastC x) := by
  unfold lastC
  rw [charLast x h]
  have : (tl x) ≠ [] := fun e => by rw [← tl_len, e] at h; cases h
  rw [List.getLast?_eq_some_getLast this]; rfl
theorem last_some (x : PySem.Str) (h : 0 < x.length) : (Txt.charAt x (-1)).isSome = true := by
  rw [charLast x h, lastC_eq x h]; rfl
theorem charAt_nat (x : PySem.Str) {i : Int} (h0 : 0 ≤ i) (h : i < x.length) : Txt.charAt x i = (tl x)[i.toNat]? ∧ (Txt.charAt x i).isSome = true := by
  obtain ⟨n, rfl⟩ := Int.eq_ofNat_of_zero_le h0
  have := item_tl x n (by omega)
  exact ⟨this.1, by show (Txt.charAt x n).isSome = true; rw [this.1]; exact this.2⟩
theorem item_ne (x : PySem.Str) {i : Int} {c : Nat} (h0 : 0 ≤ i) (h : i < x.length) (hc : c ∉ tl x) : (Txt.item x i == ⟨#[c]⟩) = false := by
  obtain ⟨h1, h2⟩ := charAt_nat x h0 h
  obtain ⟨d, hd⟩ := Option.isSome_iff_exists.mp h2
  have hm : d ∈ tl x := List.mem_of_getElem? (by rw [← h1, hd])
  have e : Txt.item x i = ⟨#[d]⟩ := by unfold Txt.item; rw [hd]; rfl
  rw [e]
  apply beq_eq_false_iff_ne.mpr
  intro q
  have : d = c := by simpa using congrArg PySem.Str.cps q
  exact hc (this ▸ hm)
theorem mem_last (x : PySem.Str) (h : 0 < x.length) : lastC x ∈ tl x := List.mem_of_getLast? (lastC_eq x h)

/-- a blank or a tab -/
noncomputable def blank (c : Nat) : Bool := c == 32 || c == 9
theorem in_blank (c : Nat) : Txt.contains ⟨#[32, 9]⟩ ⟨#[c]⟩ = blank c := by
  unfold Txt.contains
  rw [StrLaws.found_one]
  unfold blank
  by_cases h1 : c = 32
  · subst h1; rfl
  · by_cases h2 : c = 9
    · subst h2; rfl
    · simp [h1, h2]

/-! lines -/
theorem ls_none (s : PySem.Str) : ∀ (m cur : Nat) (st : StrLaws.LsSt), (∀ i, cur ≤ i → i < cur + m → Unicode.isLineBreak (s.cps.getD i 0) = false) → (Id.run (forIn (m := Id) (List.range' cur m) st (StrLaws.lsBody s))) = st
  | 0, cur, st, _ => rfl
  | m + 1, cur, (lines, start), h => by
    rw [List.range'_succ, List.forIn_cons]
    unfold StrLaws.lsBody
    have : Unicode.isLineBreak (s.cps.getD cur 0) = false := h cur (Nat.le_refl _) (by omega)
    simp only [this, Bool.and_false, Bool.false_eq_true, if_false]
    exact ls_none s m (cur + 1) (lines, start) fun i h1 h2 => h i (by omega) (by omega)
theorem lines_one (x : PySem.Str) (h0 : 0 < x.length) (h : ∀ c ∈ tl x, Unicode.isLineBreak c = false) : Txt.lines x = [x] ∧ (lineCuts x).length = 1 := by
  have e : lineSpans x = [(0, x.length, x.length)] := by
    rw [StrLaws.ls_eq, ls_none x x.length 0 _ fun i h1 h2 => ?_]
    · unfold StrLaws.lsEnd
      rw [if_pos h0]; rfl
    · have hi : i < x.cps.size := by simpa [PySem.Str.length] using h2
      refine h _ ?_
      rw [Array.getD_eq_getD_getElem?, Array.getElem?_eq_getElem hi]
      exact Array.mem_toList_iff.mpr (Array.getElem_mem hi)
  have e2 : lineCuts x = [(0, x.length)] := by unfold lineCuts; rw [e]; rfl
  exact ⟨by unfold Txt.lines; rw [if_pos (by rw [e2]; simp)], by rw [e2]; rfl⟩
theorem plain_nobreak : ∀ c, c < 128 → (32 ≤ c ∨ c = 9) → Unicode.isLineBreak c = false := by
  have : ((List.range 128).all fun c => !(decide (32 ≤ c) || c == 9) || !Unicode.isLineBreak c) = true := by decide +kernel
  intro c hc h
  have h2 := List.all_eq_true.mp this c (List.mem_range.mpr hc)
  rcases h with h | h
  · simpa [h] using h2
  · simpa [h] using h2
end Mine
end
section
open PySem PySem.W PyProof.Rows
set_option autoImplicit false
set_option linter.unusedVariables false
set_option maxRecDepth 100000
namespace Mine

noncomputable def encPiece (x : PySem.Str) (W k : Nat) : PySem.Str := ofL (((tl x).drop (k * W)).take W ++ [61])
noncomputable def encFin (x eol : PySem.Str) (W m : Nat) : PySem.Str :=
  if blank (lastC x) = true then
    (if x.length - m * W ≤ W - 1 then ofL (((tl x).drop (m * W)).dropLast ++ tl (quoted (lastC x)))
     else if x.length - m * W = W then ofL ((tl x).drop (m * W) ++ 61 :: tl eol)
     else ofL (((tl x).drop (m * W)).dropLast ++ (61 :: tl eol ++ tl (quoted (lastC x)))))
  else ofL ((tl x).drop (m * W))
noncomputable def encM (x : PySem.Str) (W : Nat) : Nat := (x.length - 2) / W
noncomputable def encAll (x eol : PySem.Str) (W : Nat) : List PySem.Str := (List.range (encM x W)).map (encPiece x W) ++ [encFin x eol W (encM x W)]

theorem eqs_tl : tl (PySem.Str.ofString "=") = [61] := by decide +kernel
theorem dropLast_take {α : Type} (l : List α) : l.dropLast = l.take (l.length - 1) := List.dropLast_eq_take

theorem Le.past {σ ρ : Rho} {x : PySem.Str} {l : LV} (h : Le σ ρ) (e : σ x = Option.none) : Le σ (Mine.upd ρ x l) := fun y k q => by
  unfold Mine.upd
  by_cases hy : y = x
  · rw [hy, e] at q; cases q
  · rw [if_neg hy]; exact h y k q
theorem Le.refl (σ : Rho) : Le σ σ := fun _ _ h => h

theorem drop_last (x : PySem.Str) (k : Nat) (hk : k < x.length) : (tl x).drop k = ((tl x).drop k).dropLast ++ [lastC x] := by
  have hne : (tl x).drop k ≠ [] := fun e => by have := List.drop_eq_nil_iff.mp e; rw [tl_len] at this; omega
  have h1 : ((tl x).drop k).getLast hne = lastC x := by
    have h2 := List.getLast?_eq_some_getLast hne
    rw [List.getLast?_drop, if_neg (by rw [tl_len]; omega), lastC_eq x (by omega)] at h2
    exact (Option.some.inj h2).symm
  rw [← h1]
  exact (List.dropLast_concat_getLast hne).symm

/-- append(line[start:-1] + q) -/
theorem be_tail {b : Base} {c : Cx} {n : Nat} (ok : CxOk b n c) {s₀ : Shared} {M0 : List Addr} {G : List (Addr × Obj)} {ρ : Rho} {aL mA I : Addr} {o : Obj} {xs : List PyData} {x q r : PySem.Str} {st : Int} {k : Nat} {p1 p2 p3 p4 p5 p6 p7 p8 p9 p10 p11 : Pos} {K : Rho → Mus → Prop} {R : LV → Prop}
    (h1 : ρ "append" = some (.r (.ref mA))) (h2 : ρ "line" = some (.d (.str x))) (h3 : ρ "start" = some (.d (.int st))) (h4 : ρ "q" = some (.d (.str q))) (hs : xs.length ≤ sizeLine)
    (hst : 0 ≤ st ∧ st + 1 ≤ x.length) (hxl : x.length + q.length ≤ sizeLine) (hr : ((tl x).drop st.toNat).dropLast ++ tl q = tl r)
    (hK : K ρ [(I, .obj o), (mA, .obj (boundAppend aL)), (aL, .lst (xs ++ [.str r]))]) :
    Ex b c s₀ M0 G ρ [(I, .obj o), (mA, .obj (boundAppend aL)), (aL, .lst xs)] [.Expr (.Call (.Name "append" p1) [.BinOp (.Subscript (.Name "line" p2) (.Slice (some (.Name "start" p3)) (some (.UnaryOp .USub (.Constant (.int 1) k p4) p5)) none p6) p7) .Add (.Name "q" p8) p9] [] p10) p11] K R := by
  have hle : (Txt.slice x (some st) (some (-1))).length ≤ x.length := Txt.slice_le x _ _
  refine Ex.appendB ok (l₁ := [(I, .obj o), (mA, .obj (boundAppend aL))]) (l₂ := []) (d := .str r) h1 (by simp) (by decide) (.one ?_) hs (Ex.nil hK)
  refine Ev.cast (Ev.bin ok (Ev.sliceStr (lo := some st) (hi := some (-1)) (Ev.v ok h2) (Ev.v ok h3) (Ev.neg Ev.i) (by omega)) (Ev.v ok h4) (Bop.cat _ _ (by omega))) ?_
  congr 2
  apply tl_inj
  rw [tl_append, ← hr]
  congr 1
  have := slice_mid_neg x (i := st) (k := 1) (by decide) hst.1 (by omega)
  rw [show (-((1 : Nat) : Int)) = (-1 : Int) from rfl] at this
  rw [this, dropLast_take, List.length_drop, tl_len]
  congr 1; omega

section
variable {b : Base}
theorem be_ex (T : TopOk b) (x eol : PySem.Str) (W : Nat) (hW : 3 ≤ W) (hW2 : W < 1000) (hx : ∀ c ∈ tl x, bodyPlain c = true) (h0 : 2 ≤ x.length) (hl : x.length < 10000) (he : eol.length < 100)
    (A : Around) (L a : Addr) (pm code doc dfl : Value) (s₀ : Shared) (M0 : List Addr) (ok : CxOk b 1 ⟨A, callEnvC (fdOf 20 "body_encode" pm code doc dfl) L a⟩) :
    Ex b ⟨A, callEnvC (fdOf 20 "body_encode" pm code doc dfl) L a⟩ s₀ M0 [] (rhoOf ["body", "maxlinelen", "eol"] [.str x, .int ((W : Int) + 1), .str eol]) [] (bodyOf (S 20)) (fun _ _ => False)
      (fun l' => l' = .d (.str (Txt.join eol (encAll x eol W)))) := by
  have hsz : 16000000 ≤ sizeLine := by decide
  have h61 : 61 ∉ tl x := fun h => by have := hx _ h; revert this; decide
  have h128 : ∀ c ∈ tl x, c < 128 ∧ encMap[c]? = some ⟨#[c]⟩ := fun c hc => by
    have hp := hx c hc
    have hlt : c < 128 := by
      unfold bodyPlain at hp
      simp only [Bool.or_eq_true, Bool.and_eq_true, decide_eq_true_eq, beq_iff_eq] at hp
      omega
    refine ⟨hlt, ?_⟩
    unfold encMap
    rw [List.getElem?_map, List.getElem?_range (by omega)]
    simp [hp]
  have hlast := mem_last x (by omega)
  have hline : Txt.lines x = [x] ∧ (lineCuts x).length = 1 := lines_one x (by omega) fun c hc => by
    have hp := hx c hc
    refine plain_nobreak c (h128 c hc).1 ?_
    unfold bodyPlain at hp
    simp only [Bool.or_eq_true, Bool.and_eq_true, decide_eq_true_eq, beq_iff_eq] at hp
    omega
  refine Ex.skip (Te.cast (Te.cmp ok (Ev.v ok) Ev.i (Cop.lt _ _) rfl) (decide_eq_false (by omega))) ?_
  refine Ex.skip (Te.cast (Te.not (Te.str (Ev.v ok) (by omega) rfl)) (by simp; omega)) ?_
  obtain ⟨em, hem, rem⟩ := T.g_em
  refine Ex.a ok (Ev.m ok (Ev.v ok) (.one (Ev.of_base (Ev.g ok T.base hem) rem)) PySem.F.slot_str_translate PySem.F.type_str_translate (Cal.translate x encMap (fun c hc => h128 c (by simpa using hc)) (by omega) (by omega))) ?_
  refine Ex.a ok (Ev.bin ok Ev.s (Ev.v ok) (Bop.cat (PySem.Str.ofString "=") eol (by show 1 + eol.length ≤ sizeLine; omega))) ?_
  refine Ex.a ok (l := .d (.int W)) (Ev.cast (Ev.bin ok (Ev.v ok) Ev.i (Bop.sub _ _)) (by congr 2; omega)) ?_
  refine Ex.newList ok (.inl (by kernel_rfl)) fun aL => ?_
  refine Ex.bindAppend ok (a := aL) (xs := []) (.inl (by kernel_rfl)) (by kernel_rfl) List.mem_cons_self (by decide) fun mA => ?_
  have hsrc : ∀ {mus : Mus} {ρ : Rho} {p1 p2 p3 : Pos}, ρ "body" = some (.d (.str x)) → (p2.endLine == p3.line) = true → Src b ⟨A, callEnvC (fdOf 20 "body_encode" pm code doc dfl) L a⟩ (MuOf ⟨A, callEnvC (fdOf 20 "body_encode" pm code doc dfl) L a⟩ mus M0) ρ (.Call (.Attribute (.Name "body" p1) "splitlines" p2) [] [] p3) (([x] : List PySem.Str).map .str) := fun hρ hp => by
    refine Src.lS ok (Ev.weak ?_)
    have := Cal.lines (b := b) x (by omega) (by rw [hline.2]; omega)
    rw [hline.1] at this
    exact Ev.m ok (Ev.v ok hρ) .nil PySem.F.slot_str_splitlines PySem.F.type_str_splitlines this rfl rfl hp
  let σ : Rho := upd (upd (upd (upd (upd (upd (upd (fun _ => none) "body" (.d (.str x))) "maxlinelen" (.d (.int ((W : Int) + 1)))) "eol" (.d (.str eol))) "soft_break" (.d (.str (PySem.Str.ofString "=" ++ eol)))) "maxlinelen1" (.d (.int W))) "encoded_body" (.r (.ref aL))) "append" (.r (.ref mA))
  refine Ex.sx (Sx.for ok (hsrc (by kernel_rfl) (by rfl)) (.inl (by kernel_rfl)) (by intro _; rfl) (by intro _ _; rfl)
    (fun k ρ' mus' => Le σ ρ' ∧ mus' = [(mA, .obj (boundAppend aL)), (aL, .lst ((if k = 0 then [] else encAll x eol W).map .str))])
    ⟨Le.put (Le.put (Le.put (Le.put (Le.put (Le.put (Le.put Le.none (by kernel_rfl)) (by kernel_rfl)) (by kernel_rfl)) (by kernel_rfl)) (by kernel_rfl)) (by kernel_rfl)) (by kernel_rfl), rfl⟩ (by rintro k ρ' mus' ⟨_, rfl⟩; rfl) ?_ ?_)
  · rintro G' I o k d ρ' mus' hk ⟨hle, rfl⟩
    have hk0 : k = 0 := by
      rcases k with _ | k
      · rfl
      · simp at hk
    subst hk0
    simp only [List.map_cons, List.map_nil, List.getElem?_cons_zero, Option.some.injEq] at hk
    subst hk
    refine Ex.le (Le.upd hle) ?_
    refine Ex.a ok (l := .d (.int ((0 : Nat) : Int))) Ev.i ?_
    refine Ex.a ok (l := .d (.int ((x.length : Int) - 2 - W))) (Ev.cast (Ev.bin ok (Ev.bin ok (Ev.callB ok (Ev.bi ok T.base T.n_len) (.one (Ev.v ok)) (Cal.lenS x (by omega))) Ev.i (Bop.sub _ _)) (Ev.v ok) (Bop.sub _ _)) (by congr 2; omega)) ?_
    have hM : ∀ k, k < encM x W ↔ (k + 1) * W ≤ x.length - 2 := fun k => by
      unfold encM
      exact ⟨fun h => (Nat.le_div_iff_mul_le (by omega)).mp h, fun h => (Nat.le_div_iff_mul_le (by omega)).mpr h⟩
    have hMW : encM x W * W ≤ x.length - 2 := Nat.div_mul_le_self _ _
    have hMle : encM x W ≤ x.length - 2 := Nat.div_le_self _ _
    let τ : Nat → Rho := fun k => upd (upd (upd σ "line" (.d (.str x))) "laststart" (.d (.int ((x.length : Int) - 2 - W)))) "start" (.d (.int ((k * W : Nat) : Int)))
    let acc : Nat → List PySem.Str := fun k => (List.range k).map (encPiece x W)
    have accS : ∀ k, acc (k + 1) = acc k ++ [encPiece x W k] := fun k => by show (List.range (k + 1)).map _ = _; rw [List.range_succ, List.map_append]; rfl
    refine Ex.sx (Sx.while (fun mm ρ'' mus'' => ∃ k, mm = encM x W - k ∧ k ≤ encM x W ∧ mus'' = [(I, .obj o), (mA, .obj (boundAppend aL)), (aL, .lst ((acc k).map .str))] ∧ Le (τ k) ρ'') (encM x W) ⟨0, by omega, Nat.zero_le _, rfl, ?_⟩ ?_)
    · refine Le.put (Le.put (Le.put ?_ (by kernel_rfl)) (by kernel_rfl)) (by rw [Nat.zero_mul]; kernel_rfl)
      exact Le.past (Le.past (Le.past (Le.refl _) (by kernel_rfl)) (by kernel_rfl)) (by kernel_rfl)
    · rintro mm ρ'' mus'' ⟨k, rfl, hkM, rfl, hle2⟩
      refine ⟨decide (((k * W : Nat) : Int) ≤ (x.length : Int) - 2 - W), Te.cmp ok (Ev.v ok (hle2 _ _ (by kernel_rfl))) (Ev.v ok (hle2 _ _ (by kernel_rfl))) (Cop.le _ _) rfl, fun ht => ?_, fun ht => ?_⟩
      · have ht := of_decide_eq_true ht
        have hW1 : (k + 1) * W = k * W + W := Nat.succ_mul k W
        have hk1 : k < encM x W := (hM k).mpr (by omega)
        refine Ex.le hle2 ?_
        refine Ex.a ok (l := .d (.int ((k * W : Nat) + W : Int))) (Ev.bin ok (Ev.v ok) (Ev.v ok) (Bop.add _ _)) ?_
        have r2 := charAt_nat x (i := ((k * W : Nat) : Int) + W - 2) (by omega) (by omega)
        have r1 := charAt_nat x (i := ((k * W : Nat) : Int) + W - 1) (by omega) (by omega)
        refine Ex.ifElse (t := false) (Te.cast (Te.cmp ok (Ev.sub ok (Ev.v ok) (Ev.bin ok (Ev.v ok) Ev.i (Bop.sub _ _)) (Gop.str x _ (by unfold fitsSsize; simp; omega) r2.2) (fun o i => ⟨_, rfl⟩)) Ev.s (Cop.eqs _ _) rfl) (item_ne x (by omega) (by omega) h61)) (fun h => by cases h) fun _ => ?_
        refine Ex.ifElse (t := false) (Te.cast (Te.cmp ok (Ev.sub ok (Ev.v ok) (Ev.bin ok (Ev.v ok) Ev.i (Bop.sub _ _)) (Gop.str x _ (by unfold fitsSsize; simp; omega) r1.2) (fun o i => ⟨_, rfl⟩)) Ev.s (Cop.eqs _ _) rfl) (item_ne x (by omega) (by omega) h61)) (fun h => by cases h) fun _ => ?_
        have hle3 : (Txt.slice x (some ((k * W : Nat) : Int)) (some (((k * W : Nat) : Int) + W))).length ≤ x.length := Txt.slice_le x _ _
        refine Ex.appendB ok (l₁ := [(I, .obj o), (mA, .obj (boundAppend aL))]) (l₂ := []) (d := .str (encPiece x W k)) (m := mA) (a := aL) (by kernel_rfl) (by simp) (by decide) (.one ?_) ?_ ?_
        · refine Ev.cast (Ev.bin ok (Ev.sliceStr (lo := some ((k * W : Nat) : Int)) (hi := some (((k * W : Nat) : Int) + W)) (Ev.v ok) (Ev.v ok) (Ev.v ok) (by omega)) Ev.s (Bop.cat _ _ (by show _ + 1 ≤ sizeLine; omega))) ?_
          congr 2
          apply tl_inj
          rw [tl_append, slice_plain x (by omega), eqs_tl]
          unfold encPiece
          rw [tl_ofL]
          congr 2
          omega
        · show ((acc k).map PyData.str).length ≤ sizeLine
          simp only [acc, List.length_map, List.length_range]
          omega
        · refine Ex.a ok (l := .d (.int (((k + 1) * W : Nat) : Int))) (Ev.cast (Ev.v ok) (by congr 2; omega)) (Ex.nil (Ex.nil (Ex.nil ⟨encM x W - (k + 1), by omega, k + 1, rfl, by omega, ?_, ?_⟩)))
          · rw [accS, List.map_append]; rfl
          · exact Le.put (Le.put (Le.put (Le.past (Le.past (Le.past (Le.past (Le.past (Le.refl _) (by kernel_rfl)) (by kernel_rfl)) (by kernel_rfl)) (by kernel_rfl)) (by kernel_rfl)) (by kernel_rfl)) (by kernel_rfl)) (by kernel_rfl)
      · have ht := of_decide_eq_false ht
        have hkE : k = encM x W := by
          rcases Nat.lt_or_ge k (encM x W) with h | h
          · have := (hM k).mp h
            rw [Nat.succ_mul] at this
            omega
          · omega
        subst hkE
        generalize hm : encM x W = m at *
        have hnot : ¬ (m + 1) * W ≤ x.length - 2 := fun h => by have := (hM m).mpr h; omega
        rw [Nat.succ_mul] at hnot
        have hrest : 2 ≤ x.length - m * W ∧ x.length - m * W ≤ W + 1 := by omega
        refine Ex.le hle2 ?_
        have hacc : ((acc m).map PyData.str).length ≤ sizeLine := by
          simp only [acc, List.length_map, List.length_range]
          omega
        have hE : encAll x eol W = acc m ++ [encFin x eol W m] := by unfold encAll; rw [hm]
        have hq : (quoted (lastC x)).length = 3 := rfl
        have hc256 : lastC x < 256 := by have := (h128 _ hlast).1; omega
        refine Ex.ifElse (t := blank (lastC x)) (Te.cast (Te.and (.cons (Te.str (Ev.v ok) (by omega) rfl) fun _ => .cons (Te.cmp ok (Ev.sub ok (Ev.v ok) (Ev.neg Ev.i) (Gop.str x (-1) (by decide) (last_some x (by omega))) (fun o i => ⟨_, rfl⟩)) Ev.s (Cop.inS ⟨#[32, 9]⟩ _) rfl) fun _ => .nil)) ?_) (fun hb => ?_) (fun hb => ?_)
        · rw [item_last, in_blank]
          have : (x.length != 0) = true := by simp; omega
          rw [this]; simp
        · refine Ex.a ok (l := .d (.int ((W : Int) + 2 - ((x.length - m * W : Nat) : Int)))) (Ev.cast (Ev.bin ok (Ev.v ok) (Ev.v ok) (Bop.sub _ _)) (by congr 2; omega)) ?_
          obtain ⟨fq, hfq, Fq⟩ := quote_fun T (lastC x) hc256
          have hend : ∀ {ρ : Rho} {q : PySem.Str}, Le (τ m) ρ → ρ "q" = some (.d (.str q)) → q.length ≤ 200 → ((tl x).drop (m * W)).dropLast ++ tl q = tl (encFin x eol W m) → ∀ {p1 p2 p3 p4 p5 p6 p7 p8 p9 p10 p11 : Pos} {k : Nat},
              Ex b ⟨A, callEnvC (fdOf 20 "body_encode" pm code doc dfl) L a⟩ s₀ M0 G' ρ [(I, .obj o), (mA, .obj (boundAppend aL)), (aL, .lst ((acc m).map .str))] [.Expr (.Call (.Name "append" p1) [.BinOp (.Subscript (.Name "line" p2) (.Slice (some (.Name "start" p3)) (some (.UnaryOp .USub (.Constant (.int 1) k p4) p5)) none p6) p7) .Add (.Name "q" p8) p9] [] p10) p11]
                (fun ρ' mus' => Ex b ⟨A, callEnvC (fdOf 20 "body_encode" pm code doc dfl) L a⟩ s₀ M0 G' ρ' mus' [] (fun ρ'' mus'' => ∃ u, mus'' = (I, .obj o) :: u ∧ Le σ ρ'' ∧ u = [(mA, .obj (boundAppend aL)), (aL, .lst ((if 0 + 1 = 0 then [] else encAll x eol W).map .str))]) (fun _ => False)) (fun _ => False) := by
            intro ρ q hL hq1 hq2 hq3 p1 p2 p3 p4 p5 p6 p7 p8 p9 p10 p11 k
            refine be_tail ok (r := encFin x eol W m) (x := x) (st := ((m * W : Nat) : Int)) (mA := mA) (q := q) (hL _ _ (by kernel_rfl)) (hL _ _ (by kernel_rfl)) (hL _ _ (by kernel_rfl)) hq1 hacc (by omega) (by omega) hq3 (Ex.nil ⟨_, rfl, fun y l h => hL y l ?_, ?_⟩)
            · exact (Le.past (Le.past (Le.past (Le.refl σ) (by kernel_rfl)) (by kernel_rfl)) (by kernel_rfl)) y l h
            · rw [if_neg (by decide), hE, List.map_append]; rfl
          have hτ : ∀ {l : LV} {l' : LV}, Le (τ m) (upd (upd (τ m) "room" l) "q" l') := fun {l l'} => Le.past (Le.past (Le.refl _) (by kernel_rfl)) (by kernel_rfl)
          have hlq : ∀ {ρ : Rho} {p1 p2 p3 p4 : Pos} {k : Nat} {Mu : List Addr}, ρ "line" = some (.d (.str x)) → Ev b ⟨A, callEnvC (fdOf 20 "body_encode" pm code doc dfl) L a⟩ Mu ρ (.Subscript (.Name "line" p1) (.UnaryOp .USub (.Constant (.int 1) k p2) p3) p4) (.d (.str ⟨#[lastC x]⟩)) := fun h =>
            Ev.sub ok (Ev.v ok h) (Ev.neg Ev.i) (Gop.str x (-1) (by decide) (last_some x (by omega))) (fun o i => ⟨_, rfl⟩)
          refine Ex.ifElse (t := decide (x.length - m * W ≤ W - 1)) (Te.cast (Te.cmp ok (Ev.v ok) Ev.i (Cop.ge _ _) rfl) (by rw [decide_eq_decide]; omega)) (fun h1 => ?_) (fun h1 => ?_)
          · have h1 := of_decide_eq_true h1
            refine Ex.a ok (Ev.callF ok (Ev.g ok T.base hfq) (.one (hlq (by kernel_rfl))) Fq (by omega)) (Ex.nil ?_)
            refine hend hτ (by kernel_rfl) (by rw [hq]; decide) ?_
            unfold encFin
            rw [if_pos hb, if_pos h1, tl_ofL]
          · have h1 := of_decide_eq_false h1
            refine Ex.ifElse (t := decide (x.length - m * W = W)) (Te.cast (Te.cmp ok (Ev.v ok) Ev.i (Cop.eq _ _) rfl) (by rw [Bool.eq_iff_iff]; simp; omega)) (fun h2 => ?_) (fun h2 => ?_)
            · have h2 := of_decide_eq_true h2
              refine Ex.a ok (Ev.bin ok (hlq (by kernel_rfl)) (Ev.v ok) (Bop.cat _ _ ?_)) (Ex.nil (Ex.nil ?_))
              · rw [PySem.Str.length_append]; show 1 + (1 + eol.length) ≤ sizeLine; omega
              refine hend (q := (⟨#[lastC x]⟩ : PySem.Str) ++ (PySem.Str.ofString "=" ++ eol)) hτ (by kernel_rfl) ?_ ?_
              · rw [PySem.Str.length_append, PySem.Str.length_append]; show 1 + (1 + eol.length) ≤ 200; omega
              have eF : encFin x eol W m = ofL ((tl x).drop (m * W) ++ 61 :: tl eol) := by unfold encFin; rw [if_pos hb, if_neg h1, if_pos h2]
              rw [eF, tl_ofL, tl_append, tl_append, eqs_tl]
              have e9 : (tl x).drop (m * W) ++ 61 :: tl eol = (((tl x).drop (m * W)).dropLast ++ [lastC x]) ++ 61 :: tl eol := congrArg (fun z => z ++ 61 :: tl eol) (drop_last x (m * W) (by omega))
              refine Eq.trans ?_ e9.symm
              show _ ++ ([lastC x] ++ ([61] ++ tl eol)) = _
              rw [List.append_assoc]; rfl
            · have h2 := of_decide_eq_false h2
              refine Ex.a ok (Ev.bin ok (Ev.v ok) (Ev.callF ok (Ev.g ok T.base hfq) (.one (hlq (by kernel_rfl))) Fq (by omega)) (Bop.cat _ _ ?_)) (Ex.nil (Ex.nil ?_))
              · rw [PySem.Str.length_append, hq]; show (1 + eol.length) + 3 ≤ sizeLine; omega
              refine hend (q := PySem.Str.ofString "=" ++ eol ++ quoted (lastC x)) hτ (by kernel_rfl) ?_ ?_
              · rw [PySem.Str.length_append, PySem.Str.length_append, hq]; show (1 + eol.length) + 3 ≤ 200; omega
              have eF : encFin x eol W m = ofL (((tl x).drop (m * W)).dropLast ++ (61 :: tl eol ++ tl (quoted (lastC x)))) := by unfold encFin; rw [if_pos hb, if_neg h1, if_neg h2]
              rw [eF, tl_ofL, tl_append, tl_append, eqs_tl]
              rfl
        · refine Ex.appendB ok (l₁ := [(I, .obj o), (mA, .obj (boundAppend aL))]) (l₂ := []) (d := .str (encFin x eol W m)) (m := mA) (a := aL) (by kernel_rfl) (by simp) (by decide) (.one ?_) hacc (Ex.nil (Ex.nil ⟨_, rfl, ?_, ?_⟩))
          · refine Ev.cast (Ev.sliceStr (lo := some ((m * W : Nat) : Int)) (hi := none) (Ev.v ok) (Ev.v ok) trivial (by omega)) ?_
            have eF : encFin x eol W m = ofL ((tl x).drop (m * W)) := by unfold encFin; rw [if_neg (by rw [hb]; decide)]
            congr 2
            apply tl_inj
            rw [eF, tl_ofL]
            exact slice_from x (by omega)
          · exact Le.past (Le.past (Le.past (Le.refl _) (by kernel_rfl)) (by kernel_rfl)) (by kernel_rfl)
          · rw [if_neg (by decide), hE, List.map_append]; rfl
  · rintro ρ' mus' ⟨hle, rfl⟩
    refine Ex.le hle ?_
    obtain ⟨tc, htc⟩ := T.g_crlf
    refine Ex.skip (Te.cast (Te.cmp ok (Ev.sub ok (Ev.v ok) (Ev.neg Ev.i) (Gop.str x (-1) (by decide) (last_some x (by omega))) (fun o i => ⟨_, rfl⟩)) (Ev.of_base (Ev.g ok T.base htc) (Rep.str ⟨#[13, 10]⟩ tc)) (Cop.inS ⟨#[13, 10]⟩ _) rfl) ?_) ?_
    · rw [item_last]
      unfold Txt.contains
      rw [StrLaws.found_one]
      have hp := hx _ hlast
      apply decide_eq_false
      intro hm
      have : lastC x = 13 ∨ lastC x = 10 := by simpa using hm
      rcases this with h | h <;> rw [h] at hp <;> revert hp <;> decide
    · rw [if_neg (by simp)]
      have hlen : (encAll x eol W).length ≤ 10000 := by
        unfold encAll encM
        have : (x.length - 2) / W ≤ x.length - 2 := Nat.div_le_self _ _
        simp; omega
      have hJ : JoinOk eol (encAll x eol W) = true := by
        have hM : encM x W * 3 ≤ x.length := by
          have h1 : encM x W * W ≤ x.length - 2 := Nat.div_mul_le_self _ _
          have h2 : encM x W * 3 ≤ encM x W * W := Nat.mul_le_mul_left _ hW
          omega
        have hb : ∀ y ∈ encAll x eol W, y.length ≤ 1200 := by
          have hq : (quoted (lastC x)).cps.toList.length = 3 := rfl
          have hle2 : eol.cps.toList.length = eol.length := tl_len eol
          have hmw : x.length - encM x W * W ≤ W + 1 := by
            have h1 := Nat.lt_div_mul_add (a := x.length - 2) (b := W) (by omega)
            show x.length - (x.length - 2) / W * W ≤ W + 1
            omega
          have hxl := tl_len x
          intro y hy
          unfold encAll at hy
          rcases List.mem_append.mp hy with h | h
          · obtain ⟨k, _, rfl⟩ := List.mem_map.mp h
            unfold encPiece
            rw [len_ofL, List.length_append, List.length_take]
            show min W _ + 1 ≤ 1200
            omega
          · obtain rfl := List.mem_singleton.mp h
            unfold encFin
            simp only [tl] at *
            split
            · split
              · rw [len_ofL, List.length_append, List.length_dropLast, List.length_drop, hq]; omega
              · split
                · rw [len_ofL, List.length_append, List.length_cons, List.length_drop]; omega
                · rw [len_ofL, List.length_append, List.length_dropLast, List.length_drop, List.length_append, List.length_cons, hq]; omega
            · rw [len_ofL, List.length_drop]; omega
        unfold JoinOk
        rw [StrLaws.joinFits hb ?_]
        · rfl
        have hl3 : (encAll x eol W).length ≤ 3400 := by
          unfold encAll
          simp; omega
        have h1 : (encAll x eol W).length * 1200 ≤ 3400 * 1200 := Nat.mul_le_mul_right _ hl3
        have h2 : (encAll x eol W).length * eol.length ≤ 3400 * 100 := Nat.mul_le_mul hl3 (by omega)
        omega
      refine Ex.freeze (x := "encoded_body") (l₁ := [(mA, .obj (boundAppend aL))]) (l₂ := []) (by kernel_rfl) ?_
      exact Ex.r (Ev.m ok (Ev.v ok) (.one (Ev.weak (Ev.v ok))) PySem.F.slot_str_join PySem.F.type_str_join (Cal.join eol _ hJ))
end

theorem encode_fun3 {b : Base} (T : TopOk b) (x eol : PySem.Str) (W : Nat) (hW : 3 ≤ W) (hW2 : W < 1000) (hx : ∀ c ∈ tl x, bodyPlain c = true) (h0 : 2 ≤ x.length) (hl : x.length < 10000) (he : eol.length < 100) :
    ∃ f, b.mg "body_encode" = some f ∧ Fun b f [.str x, .int ((W : Int) + 1), .str eol] 1 (.d (.str (Txt.join eol (encAll x eol W)))) := by
  obtain ⟨t, u, F⟩ := T.f_be
  refine F.fun T.base (names := ["body", "maxlinelen", "eol"]) (dv := []) (dd := []) (by decide +kernel) rfl (fun _ _ => RepAll.nil) (fun pm code doc T' vs hv => ?_) fun A L a pm code doc T' s₀ M0 ok => be_ex T x eol W hW hW2 hx h0 hl he A L a pm code doc T' s₀ M0 ok
  obtain ⟨v, w, z, rfl⟩ := three_of hv
  exact ⟨_, by rfl, by rfl⟩
theorem encode_fun1 {b : Base} (T : TopOk b) (x : PySem.Str) (hx : ∀ c ∈ tl x, bodyPlain c = true) (h0 : 2 ≤ x.length) (hl : x.length < 10000) :
    ∃ f, b.mg "body_encode" = some f ∧ Fun b f [.str x] 1 (.d (.str (Txt.join ⟨#[10]⟩ (encAll x ⟨#[10]⟩ 75)))) := by
  obtain ⟨t, u, F⟩ := T.f_be
  refine F.fun T.base (names := ["body", "maxlinelen", "eol"]) (dv := [.int 76 t, .str ⟨#[10]⟩ u]) (dd := [.int 76, .str ⟨#[10]⟩]) (by decide +kernel) rfl (fun _ _ => RepAll.cons (Rep.int _ _) (RepAll.cons (Rep.str _ _) RepAll.nil)) (fun pm code doc T' vs hv => ?_) fun A L a pm code doc T' s₀ M0 ok => be_ex T x ⟨#[10]⟩ 75 (by decide) (by decide) hx h0 hl (by decide) A L a pm code doc T' s₀ M0 ok
  obtain ⟨v, rfl⟩ := one_of hv
  exact ⟨_, by rfl, by rfl⟩
end Mine
end
section
open PySem PySem.W PyProof.Rows
set_option autoImplicit false
set_option linter.unusedVariables false
set_option maxRecDepth 100000
namespace Mine

/-- what a script tells -/
structure LP where
  N : Nat
  a : Nat
  n : Nat
  f : Nat
  e : Nat
  o : Nat
  p : Nat
  oct : Nat
  q : Bool

structure LP.Ok (P : LP) : Prop where
  hN : P.N = 7 ∨ P.N = 11 ∨ P.N = 13
  ha : 1 ≤ P.a ∧ P.a < P.N
  hn : 3 ≤ P.n ∧ P.n ≤ 6
  hf : P.f < P.N
  he : 2 ≤ P.e ∧ P.e ≤ P.n + 1
  hop : P.o ≠ P.p
  ho : bodyPlain P.o = true ∧ P.o ≠ 39
  hp : bodyPlain P.p = true ∧ P.p ≠ 39
  ht : P.oct < 256

namespace LP
variable (P : LP)
noncomputable def T : Nat := P.N * P.n + P.e
noncomputable def place (t : Nat) : Nat := (P.f + P.a * t) % P.N
noncomputable def sign (t : Nat) : Nat := if P.N - P.a ≤ P.place t then P.p else P.o
noncomputable def tx : List Nat := (List.range P.T).map P.sign
noncomputable def fore : List Nat := if P.q then [34] else []
noncomputable def fig : List Nat := [hexDigit (P.oct / 16), hexDigit (P.oct % 16)]
noncomputable def eol : List Nat := P.fore ++ P.fig ++ [39]
noncomputable def places : List Int := (List.range P.T).map fun t => (P.place t : Int)
noncomputable def one : PySem.Str := ⟨#[P.o]⟩
noncomputable def other : PySem.Str := ⟨#[P.p]⟩
end LP

noncomputable def signCodes : List Nat := tl signsT
theorem sign_items : ∀ i : Nat, i < 95 → Txt.item signsT i = ⟨#[signCodes.getD i 0]⟩ := by decide +kernel
theorem sign_good : ∀ i : Nat, i < 95 → bodyPlain (signCodes.getD i 0) = true ∧ signCodes.getD i 0 ≠ 39 := by decide +kernel
noncomputable def oneC (n : Int) : Nat := signCodes.getD (n.fmod 95).toNat 0
noncomputable def otherC (n : Int) : Nat := if oneC (n.fdiv 95) = oneC n then (if oneC n = 97 then 98 else 97) else oneC (n.fdiv 95)
theorem fmod95 (n : Int) : (n.fmod 95).toNat < 95 ∧ n.fmod 95 = ((n.fmod 95).toNat : Int) := by
  have h0 : 0 ≤ n.fmod 95 := Int.fmod_nonneg_of_pos n (by decide)
  have h1 : n.fmod 95 < 95 := Int.fmod_lt_of_pos n (by decide)
  omega
theorem item_one (n : Int) : Txt.item signsT (n.fmod 95) = ⟨#[oneC n]⟩ := by
  have ⟨h1, h2⟩ := fmod95 n
  have := sign_items _ h1
  rw [← h2] at this
  exact this
theorem one_eq (n : Int) : oneOf n = ⟨#[oneC n]⟩ := item_one n
theorem other_eq (n : Int) : otherOf n = ⟨#[otherC n]⟩ := by
  unfold otherOf otherC
  rw [item_one, one_eq]
  simp only [mk_one_eq_iff]
  repeat' split
  all_goals rfl
theorem one_ne (n : Int) : oneC n ≠ otherC n := by
  unfold otherC
  split
  · split
    · rename_i h; rw [h]; decide
    · assumption
  · rename_i h; exact fun q => h q.symm
theorem one_good (n : Int) : bodyPlain (oneC n) = true ∧ oneC n ≠ 39 := sign_good _ (fmod95 n).1
theorem other_good (n : Int) : bodyPlain (otherC n) = true ∧ otherC n ≠ 39 := by
  unfold otherC
  split
  · split <;> decide
  · exact one_good _

noncomputable def lpOf (script : List Int) : LP :=
  let c := cellAt script
  let N := [7, 11, 13].getD ((c 0).fmod 3).toNat 0
  let n := 3 + ((c 2).fmod 4).toNat
  { N := N, q := decide (((c 0).fdiv 3).fmod 2 = 1), a := 1 + ((c 1).fmod ((N : Int) - 1)).toNat, n := n, f := ((c 3).fmod N).toNat, e := 2 + ((c 4).fmod n).toNat, o := oneC (c 5), p := otherC (c 5), oct := ((c 6).fmod 256).toNat }

theorem fmodN (x : Int) (m : Nat) (h : 0 < m) : x.fmod m = ((x.fmod m).toNat : Int) ∧ (x.fmod m).toNat < m := by
  have h0 : 0 ≤ x.fmod (m : Int) := Int.fmod_nonneg_of_pos x (by omega)
  have h1 : x.fmod (m : Int) < m := Int.fmod_lt_of_pos x (by omega)
  omega
theorem sizes (k : Nat) (h : k < 3) : [7, 11, 13].getD k 0 = 7 ∨ [7, 11, 13].getD k 0 = 11 ∨ [7, 11, 13].getD k 0 = 13 := by
  match k, h with
  | 0, _ => exact .inl rfl
  | 1, _ => exact .inr (.inl rfl)
  | 2, _ => exact .inr (.inr rfl)
theorem lpOf_ok (script : List Int) : (lpOf script).Ok := by
  have hN := sizes _ (fmodN (cellAt script 0) 3 (by decide)).2
  refine ⟨hN, ?_, ?_, ?_, ?_, one_ne _, one_good _, other_good _, (fmodN (cellAt script 6) 256 (by decide)).2⟩
  · have := (fmodN (cellAt script 1) ((lpOf script).N - 1) (by rcases hN with h | h | h <;> (rw [show (lpOf script).N = _ from h]; decide))).2
    have e : (((lpOf script).N - 1 : Nat) : Int) = ((lpOf script).N : Int) - 1 := by rcases hN with h | h | h <;> (rw [show (lpOf script).N = _ from h]; rfl)
    rw [e] at this
    have e2 : (lpOf script).a = 1 + ((cellAt script 1).fmod (((lpOf script).N : Int) - 1)).toNat := rfl
    omega
  · have := (fmodN (cellAt script 2) 4 (by decide)).2
    have e2 : (lpOf script).n = 3 + ((cellAt script 2).fmod 4).toNat := rfl
    have : ((cellAt script 2).fmod 4).toNat < 4 := this
    omega
  · exact (fmodN (cellAt script 3) (lpOf script).N (by rcases hN with h | h | h <;> (rw [show (lpOf script).N = _ from h]; decide))).2
  · have e1 : (lpOf script).n = 3 + ((cellAt script 2).fmod 4).toNat := rfl
    have := (fmodN (cellAt script 4) (lpOf script).n (by omega)).2
    have e2 : (lpOf script).e = 2 + ((cellAt script 4).fmod (lpOf script).n).toNat := rfl
    omega
end Mine
end
section
open PySem PySem.W PyProof.Rows
set_option autoImplicit false
set_option linter.unusedVariables false
set_option maxRecDepth 100000
namespace Mine

/-- law's frame -/
noncomputable abbrev cL (A : Around) (pm code doc : Value) (L a : Addr) : Cx := ⟨A, callEnvC (fdOf 35 "law" pm code doc .none) L a⟩

noncomputable def r1 (P : LP) : Rho := upd (upd (upd (upd (upd (upd (upd (upd (upd (fun _ => none) "size" (.d (.int P.N))) "fore" (.d (.str (ofL P.fore)))) "step" (.d (.int P.a))) "wide" (.d (.int P.n))) "other" (.d (.str P.other)))
  "octet" (.d (.int P.oct))) "figures" (.d (.str (ofL P.fig)))) "places" (.pl (P.places.map .int))) "text" (.d (.str (ofL P.tx)))

noncomputable def hexT : PySem.Str := PySem.Str.ofString "0123456789ABCDEF"
theorem hex_items : ∀ k : Nat, k < 16 → Txt.item hexT k = ⟨#[hexDigit k]⟩ ∧ (Txt.charAt hexT k).isSome = true := by decide +kernel

theorem joinOk_one {α : Type} (sep : PySem.Str) (hs : sep.length ≤ 1000) (xs : List α) (g : α → PySem.Str) (B : Nat) (hg : ∀ x ∈ xs, (g x).length ≤ B) (hl : xs.length * (B + sep.length) ≤ 1000000) : JoinOk sep (xs.map g) = true := by
  have key : ∀ (ys : List α) (acc : Nat), (∀ x ∈ ys, (g x).length ≤ B) → (ys.map g).foldl (fun acc x => acc + x.length + sep.length) acc ≤ acc + ys.length * (B + sep.length) := by
    intro ys
    induction ys with
    | nil => intro acc _; simp
    | cons y r ih =>
      intro acc h
      have h1 := h y (List.mem_cons_self ..)
      have h2 := ih (acc + (g y).length + sep.length) fun x hx => h x (List.mem_cons_of_mem _ hx)
      simp only [List.map_cons, List.foldl_cons, List.length_cons]
      rw [Nat.succ_mul]
      omega
  have := key xs 0 hg
  unfold JoinOk Builtin.Str.tooLong
  have hb : ∀ m : Nat, m ≤ 1000000 → (!decide (m > sizeLine)) = true := fun m hm => by
    have : 1000000 ≤ sizeLine := by decide
    simp; omega
  rw [List.foldl_toArray']
  · exact hb _ (by omega)
  · rfl
end Mine
end
section
open PySem PySem.W PyProof.Rows
set_option autoImplicit false
set_option linter.unusedVariables false
set_option maxRecDepth 100000
namespace Mine

theorem LP.Ok.small {P : LP} (h : P.Ok) : P.N ≤ 13 ∧ 7 ≤ P.N ∧ P.T ≤ 100 ∧ P.a ≤ 12 ∧ P.n ≤ 6 := by
  have h1 : P.N ≤ 13 ∧ 7 ≤ P.N := by rcases h.hN with e | e | e <;> omega
  have h2 : P.N * P.n ≤ 13 * 6 := Nat.mul_le_mul h1.1 h.hn.2
  have h3 := h.he
  have h4 := h.hn
  have h5 := h.ha
  have : P.T = P.N * P.n + P.e := rfl
  omega
theorem text_join (P : LP) : Txt.join (PySem.Str.ofString "") ((List.range P.T).map fun t => (⟨#[P.sign t]⟩ : PySem.Str)) = ofL P.tx := by
  apply tl_inj
  rw [join_tl, tl_ofL, List.map_map]
  show glueL [] ((List.range P.T).map fun t => [P.sign t]) = (List.range P.T).map P.sign
  generalize List.range P.T = l
  induction l with
  | nil => rfl
  | cons x r ih =>
    cases r with
    | nil => rfl
    | cons y r => exact congrArg ([P.sign x] ++ ·) ih

/-- x = e, x a cell -/
theorem Ex.ac {b : Base} {c : Cx} {ρ : Rho} {n : Nat} (ok : CxOk b n c) {s₀ : Shared} {M0 : List Addr} {G : List (Addr × Obj)} {mus : Mus} {x : PySem.Str} {e : Expr} {px pos : Pos} {l : LV} {rest : List Stmt} {K : Rho → Mus → Prop} {R : LV → Prop} (h : Ev b c (MuOf c mus M0) ρ e l)
    (hr : Ex b c s₀ M0 G (upd ρ x l) mus rest K R)
    (hx : c.env.kindOf x = some .cell ∧ (c.env.cells.lookup x).isSome = true := by exact ⟨by kernel_rfl, by kernel_rfl⟩) (hsw : swapsWith e (some (.Name x px)) pos.line c.env = pure false := by first | rfl | kernel_rfl) :
    Ex b c s₀ M0 G ρ mus (.Assign [.Name x px] e pos :: rest) K R := Ex.assign ok h (.inr hx) hsw hr

theorem segA {b : Base} (T : TopOk b) (script : List Int) (hs : script.length ≤ 63) {A : Around} {L a : Addr} {pm code doc : Value} {s₀ : Shared} {M0 : List Addr} {n : Nat} (ok : CxOk b n (cL A pm code doc L a)) (hn : 8 ≤ n) {K : Rho → Mus → Prop} {R : LV → Prop}
    (h : Ex b (cL A pm code doc L a) s₀ M0 [] (r1 (lpOf script)) [] ((bodyOf (S 35)).drop 11) K R) :
    Ex b (cL A pm code doc L a) s₀ M0 [] (rhoOf ["script"] [.list (script.map .int)]) [] (bodyOf (S 35)) K R := by
  have hP := lpOf_ok script
  have sm := hP.small
  have cell : ∀ (i : Nat) (ρ : Rho) (Mu : List Addr) (p1 p2 p3 p4 : Pos) (k : Nat), i < 7 → ρ "script" = some (.d (.list (script.map .int))) → Ev b (cL A pm code doc L a) Mu ρ (.Call (.Name "_law_cell" p1) [.Name "script" p2, .Constant (.int i) k p3] [] p4) (.d (.int (cellAt script i))) := fun i ρ Mu p1 p2 p3 p4 k hi hr => by
    obtain ⟨f, hf, F⟩ := cell_fun T script i (by omega) hi
    exact Ev.callF ok (Ev.g ok T.base hf) (.two (Ev.v ok hr) Ev.i) F (by omega)
  have hsz : 200000 ≤ sizeLine := by decide
  refine Ex.ac ok (l := .d (.int (lpOf script).N)) ?_ ?_
  · have ⟨e1, e2⟩ : (cellAt script 0).fmod 3 = (((cellAt script 0).fmod 3).toNat : Int) ∧ ((cellAt script 0).fmod 3).toNat < 3 := fmodN (cellAt script 0) 3 (by decide)
    refine Ev.sub ok (i := .int (((cellAt script 0).fmod 3).toNat : Int)) (Ev.listD (.cons Ev.i rfl (.cons Ev.i rfl (.cons Ev.i rfl .nil))) (by show 3 ≤ sizeLine; omega)) (Ev.cast (Ev.bin ok (cell 0 _ _ _ _ _ _ _ (by omega) (by rfl)) Ev.i (Bop.mod _ 3 (by decide))) ?_) (Gop.list _ _ _ ?_ (Nat.lt_trans e2 (by decide))) (fun o i => ⟨_, rfl⟩)
    · show LV.d (.int ((cellAt script 0).fmod 3)) = _
      exact congrArg (fun x => LV.d (.int x)) e1
    · show [PyData.int 7, .int 11, .int 13][((cellAt script 0).fmod 3).toNat]? = some (.int ((([7, 11, 13].getD ((cellAt script 0).fmod 3).toNat 0 : Nat) : Int)))
      match ((cellAt script 0).fmod 3).toNat, e2 with
      | 0, _ => rfl
      | 1, _ => rfl
      | 2, _ => rfl
  refine Ex.a ok (l := .d (.str (ofL (lpOf script).fore))) ?_ ?_
  · have ⟨e1, e2⟩ : ((cellAt script 0).fdiv 3).fmod 2 = ((((cellAt script 0).fdiv 3).fmod 2).toNat : Int) ∧ (((cellAt script 0).fdiv 3).fmod 2).toNat < 2 := fmodN ((cellAt script 0).fdiv 3) 2 (by decide)
    refine Ev.sub ok (i := .int ((((cellAt script 0).fdiv 3).fmod 2).toNat : Int)) (Ev.listD (.cons Ev.s rfl (.cons Ev.s rfl .nil)) (by show 2 ≤ sizeLine; omega)) (Ev.cast (Ev.bin ok (Ev.bin ok (cell 0 _ _ _ _ _ _ _ (by omega) (by rfl)) Ev.i (Bop.fdiv _ 3 (by decide) (PyProof.noPylong_small (by decide)))) Ev.i (Bop.mod _ 2 (by decide))) ?_) (Gop.list _ _ _ ?_ (Nat.lt_trans e2 (by decide))) (fun o i => ⟨_, rfl⟩)
    · exact congrArg (fun x => LV.d (.int x)) e1
    · have e3 : (lpOf script).fore = if ((cellAt script 0).fdiv 3).fmod 2 = 1 then [34] else [] := by
        unfold LP.fore
        show (if decide (((cellAt script 0).fdiv 3).fmod 2 = 1) = true then _ else _) = _
        simp
      have e4 : (((cellAt script 0).fdiv 3).fmod 2 = 1) ↔ (((cellAt script 0).fdiv 3).fmod 2).toNat = 1 := by omega
      rw [e3]
      simp only [e4]
      clear e1 e4 e3
      match (((cellAt script 0).fdiv 3).fmod 2).toNat, e2 with
      | 0, _ => rfl
      | 1, _ => rfl
  refine Ex.ac ok (l := .d (.int (lpOf script).a)) ?_ ?_
  · refine Ev.cast (Ev.bin ok Ev.i (Ev.bin ok (cell 1 _ _ _ _ _ _ _ (by omega) (by rfl)) (Ev.bin ok (Ev.v ok) Ev.i (Bop.sub _ _)) (Bop.mod _ _ (by omega))) (Bop.add _ _)) ?_
    have ⟨e1, e2⟩ := fmodN (cellAt script 1) ((lpOf script).N - 1) (by omega)
    have e : (((lpOf script).N - 1 : Nat) : Int) = ((lpOf script).N : Int) - 1 := by omega
    rw [e] at e1
    have e3 : (lpOf script).a = 1 + ((cellAt script 1).fmod (((lpOf script).N : Int) - 1)).toNat := rfl
    congr 2
    omega
  refine Ex.ac ok (l := .d (.int (lpOf script).n)) ?_ ?_
  · refine Ev.cast (Ev.bin ok Ev.i (Ev.bin ok (cell 2 _ _ _ _ _ _ _ (by omega) (by rfl)) Ev.i (Bop.mod _ _ (by decide))) (Bop.add _ _)) ?_
    have ⟨e1, e2⟩ := fmodN (cellAt script 2) 4 (by omega)
    have e3 : (lpOf script).n = 3 + ((cellAt script 2).fmod 4).toNat := rfl
    have e1 : (cellAt script 2).fmod 4 = (((cellAt script 2).fmod 4).toNat : Int) := e1
    congr 2
    omega
  refine Ex.ac ok (l := .d (.int (lpOf script).f)) ?_ ?_
  · refine Ev.cast (Ev.bin ok (cell 3 _ _ _ _ _ _ _ (by omega) (by rfl)) (Ev.v ok) (Bop.mod _ _ (by omega))) ?_
    have ⟨e1, e2⟩ := fmodN (cellAt script 3) (lpOf script).N (by omega)
    exact congrArg (fun x => LV.d (.int x)) e1
  refine Ex.a ok (l := .d (.int (lpOf script).e)) ?_ ?_
  · have hn3 := hP.hn
    refine Ev.cast (Ev.bin ok Ev.i (Ev.bin ok (cell 4 _ _ _ _ _ _ _ (by omega) (by rfl)) (Ev.v ok) (Bop.mod _ _ (by omega))) (Bop.add _ _)) ?_
    have ⟨e1, e2⟩ := fmodN (cellAt script 4) (lpOf script).n (by omega)
    have e3 : (lpOf script).e = 2 + ((cellAt script 4).fmod (lpOf script).n).toNat := rfl
    congr 2
    omega
  obtain ⟨fs, hfs, Fs⟩ := signs_fun T (cellAt script 5)
  rw [one_eq, other_eq] at Fs
  refine Ex.assign2 ok (d₁ := .str (lpOf script).one) (d₂ := .str (lpOf script).other) (.inr ?_) rfl rfl (.inr ⟨by kernel_rfl, by kernel_rfl⟩) (.inr ⟨by kernel_rfl, by kernel_rfl⟩) (by rfl) (by rfl) ?_
  · exact Ev.callF ok (Ev.g ok T.base hfs) (.one (cell 5 _ _ _ _ _ _ _ (by omega) (by rfl))) Fs (by omega)
  refine Ex.a ok (l := .d (.int (lpOf script).oct)) ?_ ?_
  · refine Ev.cast (Ev.bin ok (cell 6 _ _ _ _ _ _ _ (by omega) (by rfl)) Ev.i (Bop.mod _ _ (by decide))) ?_
    have ⟨e1, e2⟩ := fmodN (cellAt script 6) 256 (by omega)
    exact congrArg (fun x => LV.d (.int x)) e1
  have ho := hP.ht
  refine Ex.a ok (l := .d (.str (ofL (lpOf script).fig))) ?_ ?_
  · generalize lpOf script = P at *
    have i1 := hex_items (P.oct / 16) (by omega)
    have i2 := hex_items (P.oct % 16) (by omega)
    have d1 : ((P.oct : Int).fdiv 16) = ((P.oct / 16 : Nat) : Int) := by rw [Int.fdiv_eq_ediv_of_nonneg _ (by decide)]; rfl
    have d2 : ((P.oct : Int).fmod 16) = ((P.oct % 16 : Nat) : Int) := by rw [Int.fmod_eq_emod_of_nonneg _ (by decide)]; rfl
    have fits : ∀ k : Nat, k < 16 → fitsSsize k = true := by decide
    refine Ev.cast (Ev.bin ok
      (Ev.cast (Ev.sub ok Ev.s (Ev.cast (Ev.bin ok (Ev.v ok) Ev.i (Bop.fdiv _ 16 (by decide) (PyProof.noPylong_small (by decide)))) (congrArg (fun x => LV.d (.int x)) d1)) (Gop.str hexT _ (fits _ (by omega)) i1.2) (fun o i => ⟨_, rfl⟩)) (congrArg (fun x => LV.d (.str x)) i1.1))
      (Ev.cast (Ev.sub ok Ev.s (Ev.cast (Ev.bin ok (Ev.v ok) Ev.i (Bop.mod _ 16 (by decide))) (congrArg (fun x => LV.d (.int x)) d2)) (Gop.str hexT _ (fits _ (by omega)) i2.2) (fun o i => ⟨_, rfl⟩)) (congrArg (fun x => LV.d (.str x)) i2.1))
      (Bop.cat _ _ (by show 1 + 1 ≤ sizeLine; omega))) ?_
    congr 2
  generalize lpOf script = P at *
  have hNn : P.N * P.n ≤ 13 * 6 := Nat.mul_le_mul sm.1 sm.2.2.2.2
  have hT : (P.N : Int) * P.n + P.e = (P.T : Int) := by unfold LP.T; rw [Int.natCast_add, Int.natCast_mul]
  refine Ex.ac ok (l := .pl (P.places.map .int)) ?_ ?_
  · refine Ev.cast (Ev.compI0 ok ["first", "step", "size"] (xs := rangeI 0 P.T) (Src.r1 ok (by omega) (by omega) (Ev.bi ok T.base T.n_range) (.one (Ev.cast (Ev.bin ok (Ev.bin ok (Ev.v ok) (Ev.v ok) (Bop.mul _ _ (mulOk_small (by omega) (by omega)))) (Ev.v ok) (Bop.add _ _)) (congrArg (fun x => LV.d (.int x)) hT)))) (by rw [rangeI_len]; omega) (fun i => .int (((P.f : Int) + P.a * i).fmod P.N)) (fun _ _ => rfl) fun C i hi ok' => ?_) ?_
    · exact Ev.bin ok' (Ev.bin ok' (Ev.v ok') (Ev.bin ok' (Ev.v ok') (Ev.v ok') (Bop.mul _ _ (mulOk_small (by omega) (by omega)))) (Bop.add _ _)) (Ev.v ok') (Bop.mod _ _ (by omega))
    · congr 1
      unfold LP.places rangeI
      rw [List.map_map, List.map_map, show ((P.T : Int) - 0).toNat = P.T by omega]
      refine List.map_congr_left fun t _ => ?_
      show PyData.int _ = PyData.int _
      congr 1
      show ((P.f : Int) + P.a * (0 + (t : Int))).fmod P.N = ((P.f + P.a * t) % P.N : Nat)
      rw [Int.zero_add, Int.fmod_eq_emod_of_nonneg _ (by omega)]
      rfl
  have hpl : P.places.length = P.T := by unfold LP.places; simp
  refine Ex.a ok (l := .d (.str (ofL P.tx))) ?_ ?_
  · have hj : JoinOk (PySem.Str.ofString "") ((List.range P.T).map fun t => (⟨#[P.sign t]⟩ : PySem.Str)) = true := joinOk_one _ (by decide) _ _ 1 (fun _ _ => Nat.le_refl _) (by rw [List.length_range]; show P.T * (1 + 0) ≤ _; omega)
    refine Ev.cast (Ev.m ok Ev.s (.one (Ev.weak (Ev.cast (Ev.compI0 ok ["size", "step", "other", "one"] (xs := P.places) (Src.lI ok (Ev.weak (Ev.v ok))) (by omega) (fun i => .str (if (P.N : Int) - P.a ≤ i then P.other else P.one)) (fun _ _ => rfl) fun C i hi ok' => ?_) ?_))) PySem.F.slot_str_join PySem.F.type_str_join (Cal.join _ _ hj)) (by rw [text_join])
    · refine Ev.ifexp (Te.cmp ok' (Ev.v ok') (Ev.bin ok' (Ev.v ok') (Ev.v ok') (Bop.sub _ _)) (Cop.ge _ _) rfl) (fun h => ?_) (fun h => ?_)
      · rw [if_pos (of_decide_eq_true h)]; exact Ev.v ok'
      · rw [if_neg (of_decide_eq_false h)]; exact Ev.v ok'
    · congr 1
      unfold LP.places
      rw [List.map_map, List.map_map]
      refine List.map_congr_left fun t _ => ?_
      show PyData.str _ = PyData.str _
      congr 1
      have ha := hP.ha
      show (if (P.N : Int) - P.a ≤ (P.place t : Int) then P.other else P.one) = ⟨#[P.sign t]⟩
      unfold LP.sign LP.other LP.one
      by_cases q : P.N - P.a ≤ P.place t
      · rw [if_pos (by omega), if_pos q]
      · rw [if_neg (by omega), if_neg q]
  refine Ex.le ?_ h
  unfold r1
  exact Le.put (Le.put (Le.put (Le.put (Le.put (Le.put (Le.put (Le.put (Le.put Le.none (by kernel_rfl)) (by kernel_rfl)) (by kernel_rfl)) (by kernel_rfl)) (by kernel_rfl)) (by kernel_rfl)) (by kernel_rfl)) (by kernel_rfl)) (by kernel_rfl)
end Mine
end
section
open PySem PySem.W PyProof.Rows
set_option autoImplicit false
set_option linter.unusedVariables false
set_option maxRecDepth 100000
namespace Mine

theorem glue_snoc (s : List Nat) : ∀ (xs : List (List Nat)) (t : List Nat), glueL s (xs ++ [t]) = xs.flatMap (· ++ s) ++ t
  | [], t => rfl
  | [x], t => by simp [glueL]
  | x :: y :: r, t => by
    have := glue_snoc s (y :: r) t
    show x ++ s ++ glueL s ((y :: r) ++ [t]) = _
    rw [this]; simp [List.append_assoc]
theorem join_snoc (s : PySem.Str) (xs : List PySem.Str) (t : PySem.Str) : tl (Txt.join s (xs ++ [t])) = xs.flatMap (fun x => tl x ++ tl s) ++ tl t := by
  rw [join_tl, List.map_append, List.map_cons, List.map_nil, glue_snoc, List.flatMap_map]

/-- the last one's signs -/
noncomputable def finL (x eol : List Nat) (W m : Nat) : List Nat :=
  let c := (x.getLast?).getD 0
  let r := x.drop (m * W)
  if blank c = true then
    (if x.length - m * W ≤ W - 1 then r.dropLast ++ tl (quoted c)
     else if x.length - m * W = W then r ++ 61 :: eol
     else r.dropLast ++ (61 :: eol ++ tl (quoted c)))
  else r
noncomputable def encL (x eol : List Nat) (W : Nat) : List Nat :=
  (List.range ((x.length - 2) / W)).flatMap (fun k => (x.drop (k * W)).take W ++ 61 :: eol) ++ finL x eol W ((x.length - 2) / W)
theorem enc_tl (x eol : List Nat) (W : Nat) (h : 0 < x.length) : tl (Txt.join (ofL eol) (encAll (ofL x) (ofL eol) W)) = encL x eol W := by
  have hl : lastC (ofL x) = (x.getLast?).getD 0 := by
    have := lastC_eq (ofL x) (by rw [len_ofL]; exact h)
    rw [tl_ofL] at this
    rw [this]; rfl
  unfold encAll encL
  rw [join_snoc, List.flatMap_map]
  have hm : encM (ofL x) W = (x.length - 2) / W := by unfold encM; rw [len_ofL]
  rw [hm]
  congr 1
  · congr 1
    funext k
    unfold encPiece
    rw [tl_ofL, tl_ofL, tl_ofL, List.append_assoc]
    rfl
  · unfold encFin finL
    rw [hl, len_ofL, tl_ofL, tl_ofL]
    dsimp only
    split
    · split
      · rw [tl_ofL]
      · split
        · rw [tl_ofL]
        · rw [tl_ofL]
    · exact tl_ofL _

/-! the other writing of it -/
theorem getLast_drop {x : List Nat} {k : Nat} (h : k < x.length) : ((x.drop k).getLast?) = x.getLast? := by
  rw [List.getLast?_drop, if_neg (by omega)]
theorem item_ch (x : PySem.Str) (h : 0 < x.length) : Txt.item x (-1) = ⟨#[((tl x).getLast?).getD 0]⟩ := by
  rw [item_last, lastC_eq x h]; rfl
noncomputable def lettL (d : List Nat) : List Nat := if blank ((d.getLast?).getD 0) = true then d.dropLast ++ tl (quoted ((d.getLast?).getD 0)) else d
theorem letter_tl (d : PySem.Str) (h : 0 < d.length) : tl (letterOf d) = lettL (tl d) := by
  have hs : tl (Txt.slice d none (some (-1))) = (tl d).dropLast := by
    have := slice_to_neg d (k := 1) (by decide) h
    rw [show (-((1 : Nat) : Int)) = (-1 : Int) from rfl] at this
    rw [this, dropLast_take, tl_len]
  unfold letterOf lettL
  rw [item_ch d h]
  generalize ((tl d).getLast?).getD 0 = c
  by_cases h1 : c = 32
  · subst h1
    rw [if_pos (show (⟨#[32]⟩ : PySem.Str) = sp1 from rfl), if_pos (by decide), tl_append, hs]; rfl
  · rw [if_neg (by unfold sp1; simpa using h1)]
    by_cases h2 : c = 9
    · subst h2
      rw [if_pos (show (⟨#[9]⟩ : PySem.Str) = tab1 from rfl), if_pos (by decide), tl_append, hs]; rfl
    · rw [if_neg (by unfold tab1; simpa using h2), if_neg]
      unfold blank
      simp [h1, h2]
end Mine
end
section
open PySem PySem.W PyProof.Rows
set_option autoImplicit false
set_option linter.unusedVariables false
set_option maxRecDepth 100000
namespace Mine

noncomputable def fullL (x : List Nat) (W : Nat) : Nat := if blank ((x.getLast?).getD 0) = true then x.length / W else (x.length - 2) / W
noncomputable def pcs (x : List Nat) (W : Nat) : List (List Nat) := (List.range (fullL x W)).map (fun k => (x.drop (k * W)).take W) ++ [x.drop (fullL x W * W)]

theorem full_eq (x : List Nat) (W : Nat) (h : 2 ≤ x.length) (hW : 0 < W) : fullOf (ofL x) W = (fullL x W : Int) := by
  unfold fullOf fullL spareOf
  rw [item_ch _ (by rw [len_ofL]; omega), tl_ofL, in_blank, len_ofL]
  split
  · rw [Int.sub_zero, Int.fdiv_eq_ediv_of_nonneg _ (by omega)]; rfl
  · rw [Int.fdiv_eq_ediv_of_nonneg _ (by omega), show (x.length : Int) - 2 = ((x.length - 2 : Nat) : Int) by omega]; rfl
theorem full_le (x : List Nat) (W : Nat) (hW : 0 < W) : fullL x W * W ≤ x.length := by
  unfold fullL
  split
  · exact Nat.div_mul_le_self _ _
  · exact Nat.le_trans (Nat.div_mul_le_self _ _) (Nat.sub_le _ _)
theorem pieces_tl (x : List Nat) (W : Nat) (h : 2 ≤ x.length) (hW : 0 < W) : (piecesOf (ofL x) W).map tl = pcs x W := by
  have hf := full_le x W hW
  unfold piecesOf pcs
  rw [full_eq x W h hW, List.map_append, List.map_cons, List.map_nil]
  congr 1
  · unfold rangeI
    rw [List.map_map, List.map_map, show ((fullL x W : Int) - 0).toNat = fullL x W by omega]
    refine List.map_congr_left fun k hk => ?_
    have hk := List.mem_range.mp hk
    have h1 : (k + 1) * W ≤ fullL x W * W := Nat.mul_le_mul_right _ hk
    have h2 : (k + 1) * W = k * W + W := Nat.succ_mul _ _
    have e : (W : Int) * (0 + (k : Int)) = ((k * W : Nat) : Int) := by rw [Int.zero_add, Int.mul_comm, Int.natCast_mul]
    show tl (Txt.slice (ofL x) (some ((W : Int) * (0 + (k : Int)))) (some ((W : Int) * (0 + (k : Int)) + W))) = _
    rw [e, slice_plain _ (by rw [len_ofL]; omega), tl_ofL]
    congr 1; omega
  · have e : (W : Int) * (fullL x W : Int) = ((fullL x W * W : Nat) : Int) := by rw [Int.mul_comm, Int.natCast_mul]
    rw [e, slice_from _ (by rw [len_ofL]; omega), tl_ofL, Int.toNat_natCast]

noncomputable def dueL (x eol : List Nat) (W : Nat) : List Nat := (List.range (fullL x W)).flatMap (fun k => (x.drop (k * W)).take W ++ 61 :: eol) ++ x.drop (fullL x W * W)
theorem due_tl (x eol : List Nat) (W : Nat) (h : 2 ≤ x.length) (hW : 0 < W) : tl (Txt.join (ofL (61 :: eol)) (piecesOf (ofL x) W)) = dueL x eol W := by
  rw [join_tl, pieces_tl x W h hW]
  unfold pcs dueL
  rw [glue_snoc, List.flatMap_map, tl_ofL]
theorem getLast_app {a b : List Nat} (h : b ≠ []) : (a ++ b).getLast? = b.getLast? := by
  rw [List.getLast?_append]
  cases hb : b.getLast? with
  | none => exact absurd (List.getLast?_eq_none_iff.mp hb) h
  | some v => rfl
theorem lett_app (a b : List Nat) (h : b ≠ []) : lettL (a ++ b) = a ++ lettL b := by
  unfold lettL
  rw [getLast_app h]
  split
  · rw [List.dropLast_append_of_ne_nil h, List.append_assoc]
  · rfl
theorem enc_lett (x eol : List Nat) (W : Nat) (h : 2 ≤ x.length) (hW : 3 ≤ W) (he : blank ((eol.getLast?).getD 0) = false) (hne : eol ≠ []) : lettL (dueL x eol W) = encL x eol W := by
  have hm1 : (x.length - 2) / W * W ≤ x.length - 2 := Nat.div_mul_le_self _ _
  have hm2 : x.length - 2 < (x.length - 2) / W * W + W := by
    have := Nat.lt_div_mul_add (a := x.length - 2) (b := W) (by omega)
    exact this
  have hfl : ∀ k, k * W ≤ x.length → x.length < k * W + W → x.length / W = k := fun k h1 h2 => by
    rw [Nat.div_eq_iff (by omega)]
    omega
  unfold dueL encL fullL finL
  dsimp only
  generalize hm : (x.length - 2) / W = m at *
  have hdl : (x.drop (m * W)).length = x.length - m * W := List.length_drop
  have hdn : x.drop (m * W) ≠ [] := fun q => by rw [q] at hdl; simp at hdl; omega
  by_cases hb : blank ((x.getLast?).getD 0) = true
  · simp only [if_pos hb]
    by_cases h1 : x.length - m * W ≤ W - 1
    · rw [if_pos h1, hfl m (by omega) (by omega), lett_app _ _ hdn]
      congr 1
      unfold lettL
      rw [getLast_drop (by omega), if_pos hb]
    · have hmw : (m + 1) * W = m * W + W := Nat.succ_mul _ _
      rw [if_neg h1, hfl (m + 1) (by omega) (by omega), List.range_succ, List.flatMap_append, List.append_assoc]
      by_cases h2 : x.length - m * W = W
      · rw [if_pos h2]
        have e1 : x.drop ((m + 1) * W) = [] := List.drop_eq_nil_iff.mpr (by omega)
        have e2 : (x.drop (m * W)).take W = x.drop (m * W) := List.take_of_length_le (by omega)
        rw [e1, List.append_nil, lett_app _ _ (by simp)]
        congr 1
        simp only [List.flatMap_cons, List.flatMap_nil, List.append_nil]
        rw [e2, lett_app _ _ (by simp)]
        congr 1
        unfold lettL
        rw [List.getLast?_cons_of_ne_nil hne, he]
        rfl
      · rw [if_neg h2]
        have e1 : (x.drop ((m + 1) * W)).length = 1 := by rw [List.length_drop]; omega
        have e2 : (x.drop (m * W)).take W = (x.drop (m * W)).dropLast := by rw [List.dropLast_eq_take, hdl]; congr 1; omega
        have e3 : (x.drop ((m + 1) * W)) ≠ [] := fun q => by rw [q] at e1; simp at e1
        rw [lett_app _ _ (by simp)]
        congr 1
        simp only [List.flatMap_cons, List.flatMap_nil, List.append_nil]
        rw [lett_app _ _ e3, e2, List.append_assoc]
        congr 1
        rw [List.cons_append]
        congr 1
        congr 1
        unfold lettL
        rw [getLast_drop (by omega), if_pos hb]
        have : (x.drop ((m + 1) * W)).dropLast = [] := by
          match hh : x.drop ((m + 1) * W), e1 with
          | [z], _ => rfl
        rw [this, List.nil_append]
  · simp only [if_neg hb]
    rw [lett_app _ _ hdn]
    congr 1
    unfold lettL
    rw [getLast_drop (by omega), if_neg hb]
end Mine
end
section
open PySem PySem.W PyProof.Rows
set_option autoImplicit false
set_option linter.unusedVariables false
set_option maxRecDepth 100000
namespace Mine
namespace LP
variable (P : LP)
noncomputable def piece (i : Nat) : List Nat := (P.tx.drop (i * P.n)).take P.n
noncomputable def tag : List Nat := P.fore ++ P.fig
noncomputable def row (i : Nat) : List Nat := P.piece i ++ 61 :: P.tag
noncomputable def last : Nat := (P.tx.getLast?).getD 0
noncomputable def rest : List Nat := P.tx.drop (P.N * P.n)
noncomputable def ends : List (List Nat) :=
  if blank P.last = true then
    (if P.e < P.n then [P.rest.dropLast ++ tl (quoted P.last)]
     else if P.e = P.n then [P.rest ++ 61 :: P.tag, []]
     else [P.rest.dropLast ++ 61 :: P.tag, tl (quoted P.last)])
  else [P.rest]
noncomputable def wordsL : List (List Nat) := (List.range P.N).map P.row ++ P.ends
noncomputable def words : List PySem.Str := P.wordsL.map ofL
noncomputable def letter : List Nat := encL P.tx P.eol P.n
end LP
variable {P : LP}
theorem tx_len : P.tx.length = P.T := by unfold LP.tx; simp
theorem tx_mem {c : Nat} (h : c ∈ P.tx) : c = P.o ∨ c = P.p := by
  obtain ⟨t, _, rfl⟩ := List.mem_map.mp h
  unfold LP.sign
  split
  · exact .inr rfl
  · exact .inl rfl
theorem LP.Ok.tx_good (hP : P.Ok) {c : Nat} (h : c ∈ P.tx) : bodyPlain c = true ∧ c ≠ 39 := by
  rcases tx_mem h with rfl | rfl
  · exact hP.ho
  · exact hP.hp
theorem LP.Ok.rows_N (hP : P.Ok) : (P.T - 2) / P.n = P.N := by
  have h1 := hP.hn
  have h2 := hP.he
  have : P.T - 2 = P.n * P.N + (P.e - 2) := by unfold LP.T; rw [Nat.mul_comm]; omega
  rw [this, Nat.mul_add_div (by omega), Nat.div_eq_of_lt (by omega), Nat.add_zero]
theorem eol_tag : P.eol = P.tag ++ [39] := rfl
theorem LP.Ok.last_mem (hP : P.Ok) : P.last ∈ P.tx := by
  have h2 := hP.he
  have hne : P.tx ≠ [] := fun q => by have := tx_len (P := P); rw [q] at this; simp at this; unfold LP.T at this; omega
  unfold LP.last
  rw [List.getLast?_eq_some_getLast hne]
  exact List.getLast_mem hne
theorem row_39 (i : Nat) : P.row i ++ [39] = (P.tx.drop (i * P.n)).take P.n ++ 61 :: P.eol := by
  unfold LP.row LP.piece LP.eol LP.tag
  simp
theorem LP.Ok.letter_words (hP : P.Ok) : P.letter = glueL [39] P.wordsL := by
  have h1 := hP.hn
  have h2 := hP.he
  have hr : P.tx.length - P.N * P.n = P.e := by rw [tx_len]; unfold LP.T; omega
  have hrows : (List.range P.N).flatMap (fun k => (P.tx.drop (k * P.n)).take P.n ++ 61 :: P.eol) = ((List.range P.N).map P.row).flatMap (· ++ [39]) := by
    rw [List.flatMap_map]
    congr 1
    funext k
    exact (row_39 k).symm
  unfold LP.letter encL finL LP.wordsL LP.ends
  dsimp only
  rw [tx_len, hP.rows_N, ← tx_len, hrows, hr]
  have el : (P.tx.getLast?).getD 0 = P.last := rfl
  rw [el]
  by_cases hb : blank P.last = true
  · simp only [if_pos hb]
    by_cases q1 : P.e < P.n
    · rw [if_pos q1, if_pos (by omega), glue_snoc]; rfl
    · rw [if_neg q1, if_neg (by omega)]
      by_cases q2 : P.e = P.n
      · rw [if_pos q2, if_pos q2, show ∀ (a b : List Nat) (xs : List (List Nat)), xs ++ [a, b] = (xs ++ [a]) ++ [b] by intro a b xs; simp, glue_snoc, List.flatMap_append, List.append_assoc]
        congr 1
        simp [LP.rest, eol_tag]
      · rw [if_neg q2, if_neg q2, show ∀ (a b : List Nat) (xs : List (List Nat)), xs ++ [a, b] = (xs ++ [a]) ++ [b] by intro a b xs; simp, glue_snoc, List.flatMap_append, List.append_assoc]
        congr 1
        simp [LP.rest, eol_tag]
  · simp only [if_neg hb]
    rw [glue_snoc]; rfl
theorem hexDigit_ne {k : Nat} (h : k < 16) : hexDigit k ≠ 39 ∧ hexDigit k ≠ 61 ∧ hexDigit k ≠ 34 ∧ hexDigit k ≠ 95 := by
  unfold hexDigit
  split <;> omega
theorem quoted_39 {c : Nat} (h : c < 256) : 39 ∉ tl (quoted c) := by
  have h1 := (hexDigit_ne (k := c / 16) (by omega)).1
  have h2 := (hexDigit_ne (k := c % 16) (by omega)).1
  show 39 ∉ [61, hexDigit (c / 16), hexDigit (c % 16)]
  simp; omega
theorem plain_small {c : Nat} (h : bodyPlain c = true) : c < 128 := by
  unfold bodyPlain at h
  simp only [Bool.or_eq_true, Bool.and_eq_true, decide_eq_true_eq, beq_iff_eq] at h
  omega
theorem LP.Ok.tag_39 (hP : P.Ok) : 39 ∉ P.tag := by
  have := hP.ht
  have h1 := (hexDigit_ne (k := P.oct / 16) (by omega)).1
  have h2 := (hexDigit_ne (k := P.oct % 16) (by omega)).1
  unfold LP.tag LP.fore LP.fig
  split
  · simp; omega
  · simp; omega
theorem LP.Ok.words_free (hP : P.Ok) : ∀ w ∈ P.wordsL, 39 ∉ w := by
  have htx : ∀ {l : List Nat}, (∀ c ∈ l, c ∈ P.tx) → 39 ∉ l := fun h q => (hP.tx_good (h _ q)).2 rfl
  have hq : 39 ∉ tl (quoted P.last) := quoted_39 (by have := plain_small (hP.tx_good hP.last_mem).1; omega)
  have hr : ∀ c ∈ P.rest, c ∈ P.tx := fun c h => List.mem_of_mem_drop h
  have hrd : ∀ c ∈ P.rest.dropLast, c ∈ P.tx := fun c h => hr c (List.mem_of_mem_take (dropLast_take P.rest ▸ h))
  have ht := hP.tag_39
  intro w hw
  unfold LP.wordsL at hw
  rcases List.mem_append.mp hw with h | h
  · obtain ⟨i, _, rfl⟩ := List.mem_map.mp h
    unfold LP.row
    simp only [List.mem_append, List.mem_cons, not_or]
    exact ⟨htx fun c h => List.mem_of_mem_drop (List.mem_of_mem_take h), by decide, ht⟩
  · unfold LP.ends at h
    split at h
    · split at h
      · obtain rfl := List.mem_singleton.mp h
        simp only [List.mem_append, not_or]
        exact ⟨htx hrd, hq⟩
      · split at h
        · rcases List.mem_cons.mp h with rfl | h
          · simp only [List.mem_append, List.mem_cons, not_or]
            exact ⟨htx hr, by decide, ht⟩
          · obtain rfl := List.mem_singleton.mp h; simp
        · rcases List.mem_cons.mp h with rfl | h
          · simp only [List.mem_append, List.mem_cons, not_or]
            exact ⟨htx hrd, by decide, ht⟩
          · obtain rfl := List.mem_singleton.mp h; exact hq
    · obtain rfl := List.mem_singleton.mp h
      exact htx hr
theorem ends_len : 1 ≤ P.ends.length ∧ P.ends.length ≤ 2 := by
  unfold LP.ends
  repeat' split
  all_goals simp
theorem words_len : P.words.length = P.N + P.ends.length := by unfold LP.words LP.wordsL; simp
theorem LP.Ok.words_ok (hP : P.Ok) : Ws P.words :=
  ⟨fun e => by have := words_len (P := P); rw [e] at this; have h2 := (ends_len (P := P)).1; simp at this; omega, fun w hw => by
    obtain ⟨l, hl, rfl⟩ := List.mem_map.mp hw
    rw [tl_ofL]; exact hP.words_free l hl⟩
theorem map_tl_ofL (l : List (List Nat)) : (l.map ofL).map tl = l := by
  rw [List.map_map]
  have : (tl ∘ ofL) = id := funext fun x => tl_ofL x
  rw [this, List.map_id]
theorem LP.Ok.join_words (hP : P.Ok) : Txt.join tick P.words = ofL P.letter := by
  apply tl_inj
  rw [join_tl, tl_ofL, hP.letter_words]
  unfold LP.words
  rw [map_tl_ofL]; rfl
theorem LP.Ok.enc_words (hP : P.Ok) : Txt.join (ofL P.eol) (encAll (ofL P.tx) (ofL P.eol) P.n) = ofL P.letter := by
  apply tl_inj
  rw [enc_tl _ _ _ (by rw [tx_len]; unfold LP.T; have := hP.he; omega), tl_ofL]; rfl
theorem LP.Ok.letter_len (hP : P.Ok) : P.letter.length < 1000 := by
  have sm := hP.small
  have h := hP.letter_words
  have : ∀ (xs : List (List Nat)), (∀ w ∈ xs, w.length ≤ 20) → (glueL [39] xs).length ≤ xs.length * 21 := by
    intro xs
    induction xs with
    | nil => intro _; simp [glueL]
    | cons x r ih =>
      intro hx
      have hx0 := hx x (List.mem_cons_self ..)
      have ih := ih fun w hw => hx w (List.mem_cons_of_mem _ hw)
      cases r with
      | nil => show x.length ≤ _; simp; omega
      | cons y r => show (x ++ [39] ++ glueL [39] (y :: r)).length ≤ _; simp only [List.length_append, List.length_cons, List.length_nil] at ih ⊢; omega
  rw [h]
  have h2 := this P.wordsL fun w hw => ?_
  · have hl : P.wordsL.length = P.N + P.ends.length := by unfold LP.wordsL; simp
    have := (ends_len (P := P)).2
    omega
  · have ht : P.tag.length ≤ 3 := by unfold LP.tag LP.fore LP.fig; split <;> simp
    have hr : P.rest.length = P.e := by unfold LP.rest; rw [List.length_drop, tx_len]; unfold LP.T; omega
    have he := hP.he
    have hq : (tl (quoted P.last)).length = 3 := rfl
    unfold LP.wordsL at hw
    rcases List.mem_append.mp hw with h | h
    · obtain ⟨i, _, rfl⟩ := List.mem_map.mp h
      unfold LP.row LP.piece
      simp only [List.length_append, List.length_cons, List.length_take]
      omega
    · unfold LP.ends at h
      split at h
      · split at h
        · obtain rfl := List.mem_singleton.mp h
          simp only [List.length_append, List.length_dropLast]; omega
        · split at h
          · rcases List.mem_cons.mp h with rfl | h
            · simp only [List.length_append, List.length_cons]; omega
            · obtain rfl := List.mem_singleton.mp h; simp
          · rcases List.mem_cons.mp h with rfl | h
            · simp only [List.length_append, List.length_cons, List.length_dropLast]; omega
            · obtain rfl := List.mem_singleton.mp h; omega
      · obtain rfl := List.mem_singleton.mp h
        omega
end Mine
end
section
open PySem PySem.W PyProof.Rows
set_option autoImplicit false
set_option linter.unusedVariables false
set_option maxRecDepth 100000
namespace Mine

theorem glue_count {c : Nat} : ∀ (ws : List (List Nat)), ws ≠ [] → (∀ w ∈ ws, c ∉ w) → (glueL [c] ws).count c + 1 = ws.length
  | [], h, _ => absurd rfl h
  | [x], _, h => by show x.count c + 1 = 1; rw [List.count_eq_zero.mpr (h x (List.mem_singleton.mpr rfl))]
  | x :: y :: r, _, h => by
    have ih := glue_count (y :: r) (by simp) fun w hw => h w (List.mem_cons_of_mem _ hw)
    show (x ++ [c] ++ glueL [c] (y :: r)).count c + 1 = _
    rw [List.count_append, List.count_append, List.count_eq_zero.mpr (h x (List.mem_cons_self ..))]
    simp only [List.count_singleton_self, List.length_cons] at ih ⊢
    omega
noncomputable def num (k : Nat) : List Nat := if k < 10 then [48 + k] else [49, 38 + k]
noncomputable def mark (k : Nat) : List Nat := if k % 2 = 0 then [34] else []
theorem num_str : ∀ k : Nat, k < 13 → PySem.Str.ofString (toString ((k : Int))) = ofL (num k) := by decide +kernel
theorem mark_ok : ∀ k : Nat, k < 13 → [PyData.str (PySem.Str.ofString "\""), .str (PySem.Str.ofString "")][k % 2]? = some (.str (ofL (mark k))) := by
  intro k hk
  unfold mark
  match h : k % 2, Nat.mod_lt k (by decide : 0 < 2) with
  | 0, _ => rfl
  | 1, _ => rfl
theorem num_ne (k : Nat) : num k ≠ [] ∧ ∀ c ∈ num k, c ≠ 34 ∨ 13 ≤ k := by
  unfold num
  refine ⟨by split <;> simp, fun c hc => ?_⟩
  split at hc
  · simp at hc; omega
  · simp at hc; omega
namespace LP
variable (P : LP)
noncomputable def val (i : Nat) : List Nat := P.tag ++ 61 :: (num i ++ mark i)
noncomputable def elt (i : Nat) : List Nat := P.piece i ++ 61 :: P.val i
noncomputable def kv (i : Nat) : PySem.Str × PySem.Str × PySem.Str := (ofL (P.elt i), ofL (P.piece i), ofL (P.val i))
noncomputable def rows : List PySem.Str := (List.range P.N).map fun i => ofL (P.row i)
noncomputable def told : List (PySem.Str × PyData) := parsedOf ((List.range P.N).map P.kv)
end LP
variable {P : LP}
theorem piece_mem {i c : Nat} (h : c ∈ P.piece i) : c ∈ P.tx := List.mem_of_mem_drop (List.mem_of_mem_take h)
theorem plain_61 {c : Nat} (h : bodyPlain c = true) : c ≠ 61 := fun e => by rw [e] at h; exact absurd h (by decide)
theorem tag_len : 2 ≤ P.tag.length ∧ P.tag.length ≤ 3 := by unfold LP.tag LP.fore LP.fig; split <;> simp
theorem val_len {i : Nat} : 4 ≤ (P.val i).length ∧ (P.val i).length ≤ 7 := by
  have := tag_len (P := P)
  unfold LP.val num mark
  split <;> split <;> simp <;> omega
theorem piece_len {i : Nat} : (P.piece i).length ≤ P.n := by unfold LP.piece; rw [List.length_take]; exact Nat.min_le_left _ _
theorem LP.Ok.kv_ok (hP : P.Ok) (i : Nat) : KV (P.kv i).1 (P.kv i).2.1 (P.kv i).2.2 := by
  have hv := val_len (P := P) (i := i)
  have hp := piece_len (P := P) (i := i)
  have hn := hP.hn
  have hsz : 2000 ≤ sizeLine := by decide
  have hvl : (ofL (P.val i)).length = (P.val i).length := len_ofL _
  refine ⟨?_, ?_, ?_, ?_, ?_⟩
  · apply map_tl_inj
    unfold eqT
    have := splitMax_one (P.kv i).1 (c := 61) (by decide) 1
    rw [show ((1 : Nat) : Int) = 1 from rfl] at this
    rw [this]
    show cutL 61 (tl (ofL (P.elt i))) 1 = [tl (ofL (P.piece i)), tl (ofL (P.val i))]
    rw [tl_ofL, tl_ofL, tl_ofL]
    unfold LP.elt
    rw [show P.piece i ++ 61 :: P.val i = P.piece i ++ [61] ++ P.val i by simp]
    rw [cut_sep _ _ 0 (fun h => plain_61 (hP.tx_good (piece_mem h)).1 rfl), cutL_zero]
  · exact (charAt_nat _ (Int.le_refl 0) (by show (0 : Int) < (ofL (P.val i)).length; omega)).2
  · exact last_some _ (by show 0 < (ofL (P.val i)).length; omega)
  · show (ofL (P.elt i)).length + 2 ≤ _
    rw [len_ofL]
    unfold LP.elt
    simp only [List.length_append, List.length_cons]; omega
  · show (ofL (P.val i)).length ≤ _
    omega
theorem LP.Ok.words_take (hP : P.Ok) : P.words.take P.N = P.rows := by
  unfold LP.words LP.wordsL LP.rows
  rw [List.map_append, List.take_left' (by simp), List.map_map]; rfl
theorem strOk_ofL {l : List Nat} (h : ∀ c ∈ l, c < 256) : PyData.strOk (ofL l) = true := by
  unfold PyData.strOk ofL
  rw [List.all_toArray, List.all_eq_true]
  exact fun c hc => decide_eq_true (by have := h c hc; omega)
theorem strs_lay (xs : List (List Nat)) (h : ∀ w ∈ xs, ∀ c ∈ w, c < 256) : PyData.canLayAll0 ((xs.map ofL).map .str) = true := by
  induction xs with
  | nil => rfl
  | cons x r ih => 
    show (PyData.strOk (ofL x) && PyData.canLayAll0 ((r.map ofL).map .str)) = true
    rw [ih fun w hw => h w (List.mem_cons_of_mem _ hw), strOk_ofL (h x (List.mem_cons_self ..))]; rfl
theorem shaped_strs (xs : List (List Nat)) (h : ∀ w ∈ xs, ∀ c ∈ w, c < 256) : SeqAt.shaped (.list ((xs.map ofL).map .str)) = true := by
  unfold SeqAt.shaped
  rw [Bool.and_eq_true]
  refine ⟨strs_lay xs h, decide_eq_true ?_⟩
  show PyData.depthAll ((xs.map ofL).map .str) + 1 ≤ 64
  rw [depthAll_strs']; decide
theorem eqv_self {d : PyData} (h : SeqAt.shaped d = true) : PyData.eqv d d = true := SeqAt.eqv_refl d (SeqAt.canLay_of_shaped h)
theorem hexDigit_lt {k : Nat} (h : k < 16) : hexDigit k < 128 := by
  unfold hexDigit
  split <;> omega
theorem LP.Ok.tag_lt (hP : P.Ok) : ∀ c ∈ P.tag, c < 128 := by
  have := hP.ht
  have h1 := hexDigit_lt (k := P.oct / 16) (by omega)
  have h2 := hexDigit_lt (k := P.oct % 16) (by omega)
  unfold LP.tag LP.fore LP.fig
  split
  · simp; omega
  · simp; omega
theorem LP.Ok.tx_lt (hP : P.Ok) {c : Nat} (h : c ∈ P.tx) : c < 128 := plain_small (hP.tx_good h).1
theorem quoted_lt {c : Nat} (h : c < 256) : ∀ x ∈ tl (quoted c), x < 128 := by
  have h1 := hexDigit_lt (k := c / 16) (by omega)
  have h2 := hexDigit_lt (k := c % 16) (by omega)
  show ∀ x ∈ [61, hexDigit (c / 16), hexDigit (c % 16)], x < 128
  simp; omega
theorem LP.Ok.words_lt (hP : P.Ok) : ∀ w ∈ P.wordsL, ∀ c ∈ w, c < 256 := by
  have hq := quoted_lt (c := P.last) (by have := hP.tx_lt hP.last_mem; omega)
  have ht := hP.tag_lt
  intro w hw c hc
  have key : c ∈ P.tx ∨ c = 61 ∨ c ∈ P.tag ∨ c ∈ tl (quoted P.last) := by
    have hr : ∀ c ∈ P.rest, c ∈ P.tx := fun c h => List.mem_of_mem_drop h
    have hrd : ∀ c ∈ P.rest.dropLast, c ∈ P.tx := fun c h => hr c (List.mem_of_mem_take (dropLast_take P.rest ▸ h))
    unfold LP.wordsL at hw
    rcases List.mem_append.mp hw with h | h
    · obtain ⟨i, _, rfl⟩ := List.mem_map.mp h
      unfold LP.row at hc
      simp only [List.mem_append, List.mem_cons] at hc
      rcases hc with q | q | q
      · exact .inl (piece_mem q)
      · exact .inr (.inl q)
      · exact .inr (.inr (.inl q))
    · unfold LP.ends at h
      split at h
      · split at h
        · obtain rfl := List.mem_singleton.mp h
          rcases List.mem_append.mp hc with q | q
          · exact .inl (hrd _ q)
          · exact .inr (.inr (.inr q))
        · split at h
          · rcases List.mem_cons.mp h with rfl | h
            · simp only [List.mem_append, List.mem_cons] at hc
              rcases hc with q | q | q
              · exact .inl (hr _ q)
              · exact .inr (.inl q)
              · exact .inr (.inr (.inl q))
            · obtain rfl := List.mem_singleton.mp h; cases hc
          · rcases List.mem_cons.mp h with rfl | h
            · simp only [List.mem_append, List.mem_cons] at hc
              rcases hc with q | q | q
              · exact .inl (hrd _ q)
              · exact .inr (.inl q)
              · exact .inr (.inr (.inl q))
            · obtain rfl := List.mem_singleton.mp h; exact .inr (.inr (.inr hc))
      · obtain rfl := List.mem_singleton.mp h
        exact .inl (hr _ hc)
  rcases key with q | q | q | q
  · have := hP.tx_lt q; omega
  · omega
  · have := ht c q; omega
  · have := hq c q; omega
end Mine
end
section
open PySem PySem.W PyProof.Rows
set_option autoImplicit false
set_option linter.unusedVariables false
set_option maxRecDepth 100000
namespace Mine

theorem chk_all {N n : Nat} (hN : N = 7 ∨ N = 11 ∨ N = 13) (hn : 3 ≤ n ∧ n ≤ 6) : chk N n = true := by
  have h : n = 3 ∨ n = 4 ∨ n = 5 ∨ n = 6 := by omega
  rcases hN with rfl | rfl | rfl <;> rcases h with rfl | rfl | rfl | rfl
  · exact chk_7_3
  · exact chk_7_4
  · exact chk_7_5
  · exact chk_7_6
  · exact chk_11_3
  · exact chk_11_4
  · exact chk_11_5
  · exact chk_11_6
  · exact chk_13_3
  · exact chk_13_4
  · exact chk_13_5
  · exact chk_13_6
theorem eqB_iff : ∀ (x y : List Bool), eqB x y = true ↔ x = y
  | [], [] => Iff.intro (fun _ => rfl) (fun _ => rfl)
  | [], _ :: _ => Iff.intro (fun h => nomatch h) (fun h => nomatch h)
  | _ :: _, [] => Iff.intro (fun h => nomatch h) (fun h => nomatch h)
  | x :: r, y :: q => by
    unfold eqB
    rw [Bool.and_eq_true, beq_iff_eq, eqB_iff r q, List.cons.injEq]

namespace LP
variable (P : LP)
noncomputable def bk : List Nat := backN P.N P.n P.a
noncomputable def st (i : Nat) : Nat := startN P.N P.n P.a P.f i
noncomputable def ek (i : Nat) : Nat := ekN P.N P.n P.a P.f i
noncomputable def firsts : List Nat := firstsN P.ek P.N
noncomputable def cnt (i : Nat) : Nat := cntN P.ek P.N i
noncomputable def ways : List Nat := waysN P.ek P.N
noncomputable def turns : Nat := P.a * P.n / P.N
noncomputable def ones (i : Nat) : Nat := onesN P.N P.n P.a (P.st i)
noncomputable def gap (i : Nat) : Nat := gapN P.N P.bk (P.ek i)
end LP
variable {P : LP}
structure Comb (P : LP) : Prop where
  same : ∀ i j, (bitsN P.N P.n P.a (P.st i) = bitsN P.N P.n P.a (P.st j)) ↔ P.ek i = P.ek j
  ones : ∀ i, P.ones i = P.turns ∨ P.ones i = P.turns + 1
  rng : ∀ i, 1 ≤ P.ek i ∧ P.ek i ≤ P.n + 1
  kinds : P.firsts.length = P.n + 1
  gaps : ∀ i ∈ P.firsts, P.cnt i = P.gap i
  ways : three P.ways = true
  more : ((List.range P.N).filter fun i => Nat.beq (P.ones i) (P.turns + 1)).length = P.a * P.n % P.N
theorem LP.Ok.comb (hP : P.Ok) : Comb P := by
  have hc := chk_all hP.hN hP.hn
  have ha := hP.ha
  have hN : 0 < P.N := by omega
  unfold chk at hc
  have h1 := List.all_eq_true.mp hc (P.a - 1) (List.mem_range.mpr (by omega))
  rw [show P.a - 1 + 1 = P.a by omega, Bool.and_eq_true] at h1
  obtain ⟨hA, hB⟩ := h1
  have hB := List.all_eq_true.mp hB P.f (List.mem_range.mpr hP.hf)
  have hst : ∀ i, P.st i < P.N := fun i => Nat.mod_lt _ hN
  have hA' : ∀ i, _ := fun i => List.all_eq_true.mp hA (P.st i) (List.mem_range.mpr (hst i))
  simp only [Bool.and_eq_true, Bool.or_eq_true, Nat.beq_eq, Nat.ble_eq] at hA'
  unfold chkB at hB
  simp only [Bool.and_eq_true, Nat.beq_eq] at hB
  obtain ⟨b1, b2, b3, b4⟩ := hB
  refine ⟨fun i j => ?_, fun i => (hA' i).2.1, fun i => (hA' i).2.2, b1, fun i hi => Nat.eq_of_beq_eq_true (List.all_eq_true.mp b2 i hi), b3, b4⟩
  have := List.all_eq_true.mp (hA' i).1 (P.st j) (List.mem_range.mpr (hst j))
  rw [beq_iff_eq] at this
  rw [← eqB_iff, this]
  exact ⟨Nat.eq_of_beq_eq_true, fun h => by rw [show kd (backN P.N P.n P.a) (P.st i) = kd (backN P.N P.n P.a) (P.st j) from h]; exact Nat.beq_refl _⟩

theorem piece_bits (i : Nat) (h : i < P.N) : P.piece i = (bitsN P.N P.n P.a (P.st i)).map fun b => if b = true then P.p else P.o := by
  have h1 : (i + 1) * P.n ≤ P.N * P.n := Nat.mul_le_mul_right _ h
  rw [Nat.succ_mul] at h1
  have hT : P.T = P.N * P.n + P.e := rfl
  unfold LP.piece LP.tx bitsN
  rw [List.map_map]
  apply List.ext_getElem?
  intro t
  rw [List.getElem?_take, List.getElem?_map]
  split
  · rename_i ht
    rw [List.getElem?_drop, List.getElem?_map, List.getElem?_range (by omega), List.getElem?_range ht]
    show some (P.sign (i * P.n + t)) = some _
    congr 1
    unfold LP.sign
    have e : P.place (i * P.n + t) = (P.st i + P.a * t) % P.N := by
      unfold LP.place LP.st startN
      rw [Nat.mod_add_mod, Nat.mul_add, ← Nat.add_assoc, Nat.mul_comm i P.n]
    rw [e]
    show (if _ then _ else _) = (if Nat.ble _ _ = true then _ else _)
    simp only [Nat.ble_eq]
  · rename_i ht
    rw [List.getElem?_eq_none (by simp; omega)]; rfl
theorem LP.Ok.piece_eq (hP : P.Ok) {i j : Nat} (hi : i < P.N) (hj : j < P.N) : P.piece i = P.piece j ↔ P.ek i = P.ek j := by
  rw [← hP.comb.same i j, piece_bits i hi, piece_bits j hj]
  have hop := hP.hop
  constructor
  · intro h
    exact List.map_inj_right (fun x y e => by
      cases x <;> cases y
      · rfl
      · exact absurd e hop
      · exact absurd e.symm hop
      · rfl) |>.mp h
  · intro h; rw [h]
theorem LP.Ok.piece_ones (hP : P.Ok) {i : Nat} (hi : i < P.N) : (P.piece i).count P.p = P.ones i := by
  rw [piece_bits i hi]
  unfold LP.ones onesN
  have hop := hP.hop
  generalize bitsN P.N P.n P.a (P.st i) = l
  induction l with
  | nil => rfl
  | cons x r ih =>
    cases x
    · rw [List.map_cons, List.filter_cons_of_neg (by decide), List.count_cons_of_ne (by simpa using hop)]; exact ih
    · rw [List.map_cons, List.filter_cons_of_pos rfl, if_pos rfl, List.count_cons_self, List.length_cons, ih]
end Mine
end
section
open PySem PySem.W PyProof.Rows
set_option autoImplicit false
set_option linter.unusedVariables false
set_option maxRecDepth 100000
namespace Mine

/-- the last place below m of i's kind -/
noncomputable def lastN (e : Nat → Nat) (i : Nat) : Nat → Nat
  | 0 => i
  | m + 1 => if e m = e i then m else lastN e i m
theorem firsts_succ (e : Nat → Nat) (m : Nat) : firstsN e (m + 1) = firstsN e m ++ (if (List.range m).all (fun j => !(Nat.beq (e j) (e m))) = true then [m] else []) := by
  unfold firstsN
  rw [List.range_succ, List.filter_append]
  congr 1
  show (match (List.range m).all (fun j => !(Nat.beq (e j) (e m))) with | true => m :: List.filter _ [] | false => List.filter _ []) = _
  by_cases h : (List.range m).all (fun j => !(Nat.beq (e j) (e m))) = true
  · rw [if_pos h, h]; rfl
  · rw [if_neg h, Bool.not_eq_true _ |>.mp h]; rfl
theorem mem_firsts {e : Nat → Nat} {m i : Nat} : i ∈ firstsN e m ↔ i < m ∧ ∀ j, j < i → e j ≠ e i := by
  unfold firstsN
  rw [List.mem_filter, List.mem_range, List.all_eq_true]
  refine and_congr_right fun _ => ⟨fun h j hj q => ?_, fun h j hj => ?_⟩
  · have := h j (List.mem_range.mpr hj)
    rw [q, Nat.beq_refl] at this
    cases this
  · have := h j (List.mem_range.mp hj)
    cases hb : Nat.beq (e j) (e i)
    · rfl
    · exact absurd (Nat.eq_of_beq_eq_true hb) this
theorem first_of {e : Nat → Nat} {m i : Nat} (h : i < m) : ∃ k, k ∈ firstsN e m ∧ e k = e i ∧ k ≤ i := by
  induction i using Nat.strongRecOn with
  | ind i ih =>
    by_cases hf : ∀ j, j < i → e j ≠ e i
    · exact ⟨i, mem_firsts.mpr ⟨h, hf⟩, rfl, Nat.le_refl _⟩
    · obtain ⟨j, hj⟩ := Classical.not_forall.mp hf
      obtain ⟨hj, hq⟩ := Classical.not_imp.mp hj
      obtain ⟨k, h1, h2, h3⟩ := ih j hj (by omega)
      exact ⟨k, h1, h2.trans (Classical.not_not.mp hq), by omega⟩
theorem parsed_snoc (ps : List (PySem.Str × PySem.Str × PySem.Str)) (p : PySem.Str × PySem.Str × PySem.Str) : parsedOf (ps ++ [p]) = putS (parsedOf ps) p.2.1 (.str (unq p.2.2)) := by
  unfold parsedOf
  rw [List.foldl_append]; rfl
theorem parsed_firsts (e : Nat → Nat) (x k v : Nat → PySem.Str) (N : Nat) (hk : ∀ i j, i < N → j < N → (k i = k j ↔ e i = e j)) : ∀ m, m ≤ N →
    parsedOf ((List.range m).map fun i => (x i, k i, v i)) = (firstsN e m).map fun i => (k i, PyData.str (unq (v (lastN e i m))))
  | 0, _ => rfl
  | m + 1, hm => by
    rw [List.range_succ, List.map_append, List.map_cons, List.map_nil, parsed_snoc, parsed_firsts e x k v N hk m (by omega), firsts_succ]
    dsimp only
    by_cases h : (List.range m).all (fun j => !(Nat.beq (e j) (e m))) = true
    · rw [if_pos h]
      have hne : ∀ j, j < m → e j ≠ e m := (mem_firsts (e := e) (m := m + 1) (i := m)).mp (List.mem_filter.mpr ⟨List.mem_range.mpr (Nat.lt_succ_self _), h⟩) |>.2
      have hlast : ∀ i ∈ firstsN e m, lastN e i (m + 1) = lastN e i m := fun i hi => by
        show (if _ then _ else _) = _
        rw [if_neg fun q => hne i (mem_firsts.mp hi).1 q.symm]
      rw [List.map_append, List.map_cons, List.map_nil, show lastN e m (m + 1) = m from if_pos rfl]
      rw [List.map_congr_left (l := firstsN e m) (f := fun i => (k i, PyData.str (unq (v (lastN e i (m + 1)))))) (g := fun i => (k i, PyData.str (unq (v (lastN e i m))))) fun i hi => by rw [hlast i hi]]
      unfold putS
      rw [if_neg]
      simp only [List.any_eq_true, decide_eq_true_eq, List.mem_map]
      rintro ⟨_, ⟨i, hi, rfl⟩, q⟩
      have hi' := (mem_firsts.mp hi).1
      exact hne i hi' ((hk i m (by omega) (by omega)).mp q)
    · rw [if_neg h, List.append_nil]
      obtain ⟨i, hi, hei, him⟩ := first_of (e := e) (m := m + 1) (i := m) (Nat.lt_succ_self _)
      have hi2 : i ∈ firstsN e m := by
        rw [firsts_succ, if_neg h, List.append_nil] at hi
        exact hi
      unfold putS
      rw [if_pos, List.map_map]
      · refine List.map_congr_left fun j hj => ?_
        have hjm := (mem_firsts.mp hj).1
        simp only [Function.comp]
        have hkj := hk j m (by omega) (by omega)
        by_cases q : k j = k m
        · rw [if_pos q, show lastN e j (m + 1) = m from if_pos (hkj.mp q).symm]
        · rw [if_neg q, show lastN e j (m + 1) = lastN e j m from if_neg fun z => q (hkj.mpr z.symm)]
      · simp only [List.any_eq_true, decide_eq_true_eq, List.mem_map]
        exact ⟨_, ⟨i, hi2, rfl⟩, (hk i m (by have := (mem_firsts.mp hi2).1; omega) (by omega)).mpr hei⟩

namespace LP
variable (P : LP)
noncomputable def unv (i : Nat) : List Nat := if P.q = true ∧ i % 2 = 0 then P.fig ++ 61 :: num i else P.val i
noncomputable def lastI (i : Nat) : Nat := lastN P.ek i P.N
noncomputable def toldL : List (PySem.Str × PyData) := P.firsts.map fun i => (ofL (P.piece i), .str (ofL (P.unv (P.lastI i))))
end LP
variable {P : LP}
theorem num_last (k : Nat) (h : k < 13) : ((num k).getLast?).getD 0 ≠ 34 := by
  have : ∀ k : Nat, k < 13 → ((num k).getLast?).getD 0 ≠ 34 := by decide
  exact this k h
theorem LP.Ok.unq_val (hP : P.Ok) {i : Nat} (hi : i < 13) : unq (ofL (P.val i)) = ofL (P.unv i) := by
  have hv := val_len (P := P) (i := i)
  have hlen : (ofL (P.val i)).length = (P.val i).length := len_ofL _
  have h0 : Txt.item (ofL (P.val i)) 0 = ⟨#[((P.val i)[0]?).getD 0]⟩ := by
    have := (charAt_nat (ofL (P.val i)) (Int.le_refl 0) (by show (0 : Int) < (ofL (P.val i)).length; omega)).1
    unfold Txt.item
    rw [this, tl_ofL]
    have e : ((P.val i)[Int.toNat 0]?) = (P.val i)[0]? := rfl
    rw [e, List.getElem?_eq_getElem (by omega)]; first | done | rfl
  have h1 : Txt.item (ofL (P.val i)) (-1) = ⟨#[((P.val i).getLast?).getD 0]⟩ := by
    rw [item_ch _ (by omega), tl_ofL]
  have hoct := hP.ht
  have hx1 := hexDigit_ne (k := P.oct / 16) (by omega)
  have hl : ((P.val i).getLast?).getD 0 = 34 ↔ i % 2 = 0 := by
    unfold LP.val
    rw [getLast_app (by simp), List.getLast?_cons_of_ne_nil (by simp [(num_ne i).1])]
    unfold mark
    by_cases q : i % 2 = 0
    · rw [if_pos q, getLast_app (by simp)]
      exact ⟨fun _ => q, fun _ => rfl⟩
    · rw [if_neg q, List.append_nil]
      exact ⟨fun h => absurd h (num_last i hi), fun h => absurd h q⟩
  have hf : ((P.val i)[0]?).getD 0 = 34 ↔ P.q = true := by
    unfold LP.val LP.tag LP.fore LP.fig
    by_cases q : P.q = true
    · rw [if_pos q]; exact ⟨fun _ => q, fun _ => rfl⟩
    · rw [if_neg q]; exact ⟨fun h => absurd h hx1.2.2.1, fun h => absurd h q⟩
  unfold unq
  rw [h0, h1]
  have e1 : (⟨#[((P.val i)[0]?).getD 0]⟩ : PySem.Str) = dq ↔ P.q = true := Iff.trans (mk_one_eq_iff _ _) hf
  have e2 : (⟨#[((P.val i).getLast?).getD 0]⟩ : PySem.Str) = dq ↔ i % 2 = 0 := Iff.trans (mk_one_eq_iff _ _) hl
  unfold LP.unv
  by_cases q : P.q = true ∧ i % 2 = 0
  · rw [if_pos q, if_pos ⟨e1.mpr q.1, e2.mpr q.2⟩]
    apply tl_inj
    have := slice_mid_neg (ofL (P.val i)) (i := 1) (k := 1) (by decide) (by decide) (by omega)
    rw [show (-((1 : Nat) : Int)) = (-1 : Int) from rfl] at this
    rw [this, tl_ofL, tl_ofL, hlen]
    have hval : P.val i = 34 :: (P.fig ++ 61 :: num i ++ [34]) := by
      unfold LP.val LP.tag LP.fore mark
      rw [if_pos q.1, if_pos q.2]
      simp
    rw [hval]
    show List.take _ (List.drop 1 (34 :: (P.fig ++ 61 :: num i ++ [34]))) = _
    rw [List.drop_succ_cons, List.drop_zero]
    have : (34 :: (P.fig ++ 61 :: num i ++ [34])).length - 1 - Int.toNat 1 = (P.fig ++ 61 :: num i).length := by simp
    rw [this, List.take_left' rfl]
  · rw [if_neg q, if_neg fun z => q ⟨e1.mp z.1, e2.mp z.2⟩]
theorem ofL_inj {a b : List Nat} : ofL a = ofL b ↔ a = b := ⟨fun h => by rw [← tl_ofL a, h, tl_ofL], fun h => by rw [h]⟩
theorem lastN_lt {e : Nat → Nat} {i N : Nat} (h : i < N) : ∀ m, m ≤ N → lastN e i m < N
  | 0, _ => h
  | m + 1, hm => by
    show (if _ then _ else _) < N
    split
    · omega
    · exact lastN_lt h m (by omega)
theorem LP.Ok.told_eq (hP : P.Ok) : P.told = P.toldL := by
  have sm := hP.small
  unfold LP.told LP.toldL LP.kv LP.firsts
  rw [parsed_firsts P.ek (fun i => ofL (P.elt i)) (fun i => ofL (P.piece i)) (fun i => ofL (P.val i)) P.N (fun i j hi hj => by rw [ofL_inj]; exact hP.piece_eq hi hj) P.N (Nat.le_refl _)]
  refine List.map_congr_left fun i hi => ?_
  rw [hP.unq_val]; rfl
  have := lastN_lt (e := P.ek) (mem_firsts.mp hi).1 P.N (Nat.le_refl _)
  omega
end Mine
end
section
open PySem PySem.W PyProof.Rows
set_option autoImplicit false
set_option linter.unusedVariables false
set_option maxRecDepth 100000
namespace Mine

noncomputable def r2 (P : LP) : Rho := upd (upd (upd (upd (upd (upd (upd (upd (upd (upd (upd (upd (upd (fun _ => none) "size" (.d (.int P.N))) "fore" (.d (.str (ofL P.fore)))) "step" (.d (.int P.a))) "wide" (.d (.int P.n))) "other" (.d (.str P.other)))
  "octet" (.d (.int P.oct))) "figures" (.d (.str (ofL P.fig)))) "places" (.pl (P.places.map .int))) "text" (.d (.str (ofL P.tx)))) "letter" (.d (.str (ofL P.letter)))) "parts" (.pl (P.words.map .str))) "rows" (.pl (P.rows.map .str))) "told" (.k P.told)

theorem quoted_tail (c : Nat) : Txt.slice (quoted c) (some 1) none = ofL [hexDigit (c / 16), hexDigit (c % 16)] := by
  apply tl_inj
  rw [slice_from _ ⟨by decide, by show (1 : Int) ≤ (3 : Nat); decide⟩, tl_ofL]; rfl
theorem ofL_app (a b : List Nat) : ofL a ++ ofL b = ofL (a ++ b) := by
  apply tl_inj
  rw [tl_append, tl_ofL, tl_ofL, tl_ofL]
theorem eol_len {P : LP} : P.eol.length ≤ 4 := by unfold LP.eol LP.fore LP.fig; split <;> simp
theorem fore_len {P : LP} : P.fore.length ≤ 1 := by unfold LP.fore; split <;> simp

theorem segB {b : Base} (T : TopOk b) {P : LP} (hP : P.Ok) {A : Around} {L a : Addr} {pm code doc : Value} {s₀ : Shared} {M0 : List Addr} {n : Nat} (ok : CxOk b n (cL A pm code doc L a)) (hn : 8 ≤ n) {K : Rho → Mus → Prop} {R : LV → Prop}
    (h : Ex b (cL A pm code doc L a) s₀ M0 [] (r2 P) [] ((bodyOf (S 35)).drop 16) K R) :
    Ex b (cL A pm code doc L a) s₀ M0 [] (r1 P) [] ((bodyOf (S 35)).drop 11) K R := by
  have sm := hP.small
  have hsz : 200000 ≤ sizeLine := by decide
  have ho := hP.ht
  have hll := hP.letter_len
  have htl : (ofL P.tx).length = P.T := by rw [len_ofL, tx_len]
  have hTe : P.T = P.N * P.n + P.e := rfl
  have he := hP.he
  have hel := eol_len (P := P)
  have hfl := fore_len (P := P)
  have hlen : (ofL P.letter).length < 1000 := by rw [len_ofL]; exact hll
  obtain ⟨fe, hfe, Fe⟩ := encode_fun3 T (ofL P.tx) (ofL P.eol) P.n hP.hn.1 (by omega) (fun c hc => (hP.tx_good (by rwa [tl_ofL] at hc)).1) (by omega) (by omega) (by rw [len_ofL]; omega)
  rw [hP.enc_words] at Fe
  obtain ⟨fq, hfq, Fq⟩ := quote_fun T P.oct ho
  refine Ex.a ok (l := .d (.str (ofL P.letter))) ?_ ?_
  · refine Ev.callF ok (Ev.g ok T.base hfe) (.three (Ev.v ok) (Ev.bin ok (Ev.v ok) Ev.i (Bop.add _ _)) (Ev.cast (Ev.bin ok (Ev.bin ok (Ev.v ok) (Ev.cast (Ev.sliceStr (lo := some 1) (hi := none) (Ev.callF ok (Ev.g ok T.base hfq) (.one (Ev.callB ok (Ev.bi ok T.base T.n_chr) (.one (Ev.v ok)) (Cal.chr P.oct (by omega) (by omega)))) Fq (by omega)) Ev.i trivial (by show 3 ≤ sizeLine; omega)) (congrArg (fun x => LV.d (.str x)) (quoted_tail P.oct))) (Bop.cat _ _ ?_)) Ev.s (Bop.cat _ _ ?_)) ?_)) Fe (by omega)
    · rw [len_ofL, len_ofL]; show P.fore.length + 2 ≤ _; omega
    · rw [ofL_app, len_ofL, List.length_append]; show P.fore.length + 2 + 1 ≤ _; omega
    · show LV.d (.str (ofL P.fore ++ ofL P.fig ++ ofL [39])) = _
      rw [ofL_app, ofL_app]; rfl
  have hw := hP.words_ok
  have hj := hP.join_words
  have hwl := words_len (P := P)
  have hel := ends_len (P := P)
  obtain ⟨fp, hfp, Fp⟩ := parts_fun T P.words hw (by rw [hj]; omega) (by omega)
  rw [hj] at Fp
  have hcnt : (Txt.count (ofL P.letter) tick : Int) + 1 = P.words.length := by
    rw [show tick = ⟨#[39]⟩ from rfl, count_one, tl_ofL, hP.letter_words]
    have := glue_count P.wordsL (by intro e; have h2 : P.words.length = 0 := by { unfold LP.words; rw [e]; rfl }; omega) hP.words_free
    have h3 : P.words.length = P.wordsL.length := by unfold LP.words; rw [List.length_map]
    rw [h3, ← this]; rfl
  refine Ex.a ok (l := .pl (P.words.map .str)) ?_ ?_
  · refine Ev.callF ok (Ev.g ok T.base hfp) (.two (Ev.v ok) (Ev.cast (Ev.bin ok (Ev.m ok (Ev.v ok) (.one Ev.s) PySem.F.slot_str_count PySem.F.type_str_count (Cal.count _ tick)) Ev.i (Bop.add _ _)) (congrArg (fun x => LV.d (.int x)) hcnt))) Fp (by omega)
  have hsp : Txt.split (ofL P.letter) tick = P.words := by rw [← hj]; exact split_join hw
  have hsh : SeqAt.shaped (.list (P.words.map .str)) = true := shaped_strs P.wordsL hP.words_lt
  refine Ex.skip (Te.or (.cons (t := false) (u := false) (Te.cast (Te.cmp ok (Ev.weak (Ev.v ok)) (Ev.weak (Ev.cast (Ev.m ok (Ev.v ok) (.one Ev.s) PySem.F.slot_str_split PySem.F.type_str_split (Cal.split (ofL P.letter) tick (by decide) (by omega))) (by rw [hsp]))) (Cop.ned _ _ hsh hsh) rfl) ?_) fun _ => .cons (t := false) (u := false) ?_ fun _ => .nil)) ?_
  · rw [eqv_self hsh]; rfl
  · refine Te.cast (Te.cmp ok (Ev.callB ok (Ev.bi ok T.base T.n_len) (.one (Ev.weak (Ev.v ok))) (Cal.lenL _ (by rw [List.length_map]; omega))) (Ev.v ok) (Cop.lt _ _) rfl) ?_
    exact decide_eq_false (by rw [List.length_map]; omega)
  refine Ex.ac ok (l := .pl (P.rows.map .str)) ?_ ?_
  · refine Ev.cast (Ev.sliceP (k := P.N) (Ev.weak (Ev.v ok)) (Ev.v ok) (by rw [List.length_map]; omega) (by rw [List.length_map]; omega)) ?_
    rw [← List.map_take, hP.words_take]
  obtain ⟨fk, hfk, Fk⟩ := parse_fun T ((List.range P.N).map P.kv) (fun p hp => by obtain ⟨i, _, rfl⟩ := List.mem_map.mp hp; exact hP.kv_ok i) (by simp; omega)
  refine Ex.a ok (l := .k P.told) ?_ (Ex.le ?_ h)
  · refine Ev.callF ok (Ev.g ok T.base hfk) (.one (Ev.weak (Ev.cast (Ev.compI0 ok ["rows"] (xs := rangeI 0 P.N) (Src.r1 ok (by omega) (by omega) (Ev.bi ok T.base T.n_range) (.one (Ev.v ok))) (by rw [rangeI_len]; omega) (fun i => .str (ofL (P.elt i.toNat))) (fun _ _ => rfl) fun C i hi ok' => ?_) ?_))) Fk (by omega)
    · obtain ⟨h0, h1⟩ := mem_rangeI hi
      obtain ⟨k, rfl⟩ : ∃ k : Nat, i = k := ⟨i.toNat, by omega⟩
      have hk : k < P.N := by omega
      have hN := num_str k (by omega)
      have hM := mark_ok k (by omega)
      have hpl := piece_len (P := P) (i := k)
      have htg := tag_len (P := P)
      have hnl : (num k).length ≤ 2 := by unfold num; split <;> simp
      have hml : (mark k).length ≤ 1 := by unfold mark; split <;> simp
      have hrow : (P.row k).length ≤ 20 := by unfold LP.row; simp only [List.length_append, List.length_cons]; omega
      have hmod : ((k : Int).fmod 2) = ((k % 2 : Nat) : Int) := by rw [Int.fmod_eq_emod_of_nonneg _ (by decide)]; rfl
      refine Ev.cast (Ev.bin ok' (Ev.bin ok' (Ev.bin ok' (Ev.sub ok' (Ev.weak (Ev.v ok')) (Ev.v ok') (Gop.list (P.rows.map .str) k (.str (ofL (P.row k))) ?_ (by omega)) (fun o i => ⟨_, rfl⟩)) Ev.s (Bop.cat _ _ ?_))
        (Ev.cast (Ev.callT ok' (Ev.bi ok' T.base T.n_str) (.one (Ev.v ok')) (Cal.strI _ ?_)) (congrArg (fun x => LV.d (.str x)) hN)) (Bop.cat _ _ ?_))
        (Ev.sub ok' (Ev.listD (.cons Ev.s rfl (.cons Ev.s rfl .nil)) (by show 2 ≤ sizeLine; omega)) (Ev.cast (Ev.bin ok' (Ev.v ok') Ev.i (Bop.mod _ 2 (by decide))) (congrArg (fun x => LV.d (.int x)) hmod)) (Gop.list _ (k % 2) (.str (ofL (mark k))) hM (by omega)) (fun o i => ⟨_, rfl⟩)) (Bop.cat _ _ ?_)) ?_
      · unfold LP.rows
        rw [List.map_map, List.getElem?_map, List.getElem?_range hk]; rfl
      · rw [len_ofL]; show _ + 1 ≤ _; omega
      · have : k ≤ 13 := by omega
        revert this
        generalize k = j
        intro hj
        have : ∀ j : Nat, j ≤ 13 → ((j : Int)).natAbs.log2 < 1920 := by decide
        exact this j hj
      · show (ofL (P.row k) ++ ofL [61]).length + _ ≤ _
        rw [ofL_app, len_ofL, len_ofL, List.length_append]; show _ + 1 + _ ≤ _; omega
      · show (ofL (P.row k) ++ ofL [61] ++ ofL (num k)).length + _ ≤ _
        rw [ofL_app, ofL_app, len_ofL, len_ofL, List.length_append, List.length_append]; show _ + 1 + _ + _ ≤ _; omega
      · show LV.d (.str (ofL (P.row k) ++ ofL [61] ++ ofL (num k) ++ ofL (mark k))) = _
        rw [ofL_app, ofL_app, ofL_app]
        unfold LP.elt LP.val LP.row
        simp
    · unfold rangeI
      rw [List.map_map, List.map_map, List.map_map, show ((P.N : Int) - 0).toNat = P.N by omega]
      congr 1
      refine List.map_congr_left fun k _ => ?_
      show PyData.str (ofL (P.elt ((0 : Int) + (k : Int)).toNat)) = PyData.str (ofL (P.elt k))
      rw [Int.zero_add, Int.toNat_natCast]
  unfold r2
  exact Le.put (Le.put (Le.put (Le.put (Le.put (Le.put (Le.put (Le.put (Le.put (Le.put (Le.put (Le.put (Le.put Le.none (by kernel_rfl)) (by kernel_rfl)) (by kernel_rfl)) (by kernel_rfl)) (by kernel_rfl)) (by kernel_rfl)) (by kernel_rfl)) (by kernel_rfl)) (by kernel_rfl)) (by kernel_rfl)) (by kernel_rfl)) (by kernel_rfl)) (by kernel_rfl)
end Mine
end
section
open PySem PySem.W PyProof.Rows
set_option autoImplicit false
set_option linter.unusedVariables false
set_option maxRecDepth 100000
namespace Mine
section
variable {b : Base} {c : Cx} {ρ : Rho}

/-- y = [.. for x in ..], y of the frame itself -/
theorem Ex.assignComp {n : Nat} (ok : CxOk b n c) {s₀ : Shared} {M0 : List Addr} {G : List (Addr × Obj)} {mus : Mus} {K : Rho → Mus → Prop} {R : LV → Prop} {rest : List Stmt} {y : PySem.Str} {py spos : Pos}
    {elt iter : Expr} {x : PySem.Str} {px pos : Pos} {ifs : List Expr} {scope : Scope} {cl : List (PySem.Str × Addr)} {xs : List PyData}
    (hsw : swapsWith (.ListComp elt [⟨.Name x px, iter, ifs, 0⟩] scope pos) (some (.Name y py)) spos.line c.env = pure true) (hy : c.env.kindOf y = some .local)
    (src : Src b c (MuOf c mus M0) ρ iter xs) (hn : xs.length ≤ sizeLine) (hxa : ∀ d ∈ xs, isAtom d = true)
    (hclos : closureFor scope c.env = pure cl) (hcell : ∀ y ∈ scope.names, y.2 ≠ .cell) (hkind : scope.kind = .function)
    (hnames : ∀ y ∈ scope.names, y.2 = .local → scope.names.lookup y.1 = some .local) (hx : scope.names.lookup x = some .local)
    (hs : ∀ x, foldedSetIterable iter c.env x = pure x)
    (ρc : Rho) (hcap : ∀ y l, ρc y = some l → ∃ a, cl.lookup y = some a ∧ (relabel scope c.env).names.lookup y = some .cell ∧ c.env.kindOf y = some .cell ∧ c.env.cells.lookup y = some a ∧ ρ y = some l)
    (p : PyData → Bool) (g : PyData → PyData)
    (hin : ∀ C d, d ∈ xs → Ifs b ⟨c.A, compEnvC scope cl C c.env⟩ (C :: MuOf c mus M0) (upd ρc x (.d d)) ifs (p d) ∧
      (p d = true → isAtom (g d) = true ∧ Ev b ⟨c.A, compEnvC scope cl C c.env⟩ (C :: MuOf c mus M0) (upd ρc x (.d d)) elt (.d (g d))))
    (hr : Ex b c s₀ M0 G (upd ρ y (.pl ((xs.filter p).map g))) mus rest K R) :
    Ex b c s₀ M0 G ρ mus (.Assign [.Name y py] (.ListComp elt [⟨.Name x px, iter, ifs, 0⟩] scope pos) spos :: rest) K R := .mk fun s E HH => by
  have H := HH.hold
  have hpk : (c.env.scope.kind == .class || (c.env.scope.kind == .module && c.env.locals != c.env.globals)) = false := by rw [ok.kind]; rfl
  refine wpAny_execs_cons (wpAny_le (wpAny_Assign_ListComp_free (fun v => p (dat v)) (fun v y => AtomV y (g (dat v))) hsw hclos hcell hkind hnames hx hy hpk ?_ hs))
  refine wpAny_mono (src.wp s E H) (fun xv s₁ h₁ => wpAny_mono h₁ (fun it s₂ h₂ => ?_) fun _ _ x => x) fun _ _ x => x
  obtain ⟨g2, I, fp, P, St, rfl, hI0, W, hst, hfp, hmu, hP, _⟩ := h₂
  have hI : s.heap.get? I = Option.none := above_none hI0
  have H₂ := H.grows g2
  obtain ⟨m0, hm0⟩ := HH.ns
  have hlI : c.env.locals ≠ I := fun q => by obtain ⟨o, _, _, e, _⟩ := hm0; rw [q, hI] at e; cases e
  -- the frame of the turn
  have inner : ∀ C v d s₃ m₃, s₂.heap.objs.size ≤ C → AtomV v d → s₃.heap.Ns C m₃ → m₃ x = some v → (∀ a o, a ∉ [I] → s₂.heap.get? a = some o → s₃.heap.get? a = some o) → s₂.toks ≤ s₃.toks →
      Hold b ⟨c.A, compEnvC scope cl C c.env⟩ (C :: MuOf c mus M0) (upd ρc x (.d d)) s₃ := by
    intro C v d s₃ m₃ hC av hm hv hk htk
    have k0 : KeepsH s.heap s₃.heap := fun a o e => hk a o (fun hm => by rw [List.mem_singleton.mp hm] at e; rw [hI] at e; cases e) (g2.keeps a o e)
    have st : Stays (MuOf c mus M0) (C :: MuOf c mus M0) s.heap s₃.heap := fun a o hn e => ⟨fun hm => by
      rcases List.mem_cons.mp hm with rfl | hm
      · exact absurd (Heap.lt_size (g2.keeps _ _ e)) (Nat.not_lt.mpr hC)
      · exact hn hm, k0 a o e⟩
    refine ⟨H.base.trans k0, fun a ha => ?_, fun y l e => ?_, Nat.lt_of_lt_of_le H₂.pos htk, fun a ha => ?_⟩
    · rcases List.mem_cons.mp ha with rfl | ha
      · obtain ⟨o, _, _, e, _⟩ := hm; exact ⟨o, e⟩
      · obtain ⟨o, e⟩ := H.lt a ha; exact ⟨o, k0 a o e⟩
    · unfold upd at e
      by_cases hy : y = x
      · rw [if_pos hy] at e; cases e; subst hy
        exact ⟨v, .inl ⟨lookup_relabel_local hx, m₃, hm, hv⟩, av _ _⟩
      · rw [if_neg hy] at e
        obtain ⟨a, h1, h2, h3, h4, h5⟩ := hcap y l e
        obtain ⟨u, nu, ru⟩ := H.vars y l h5
        rcases nu with ⟨hk', _⟩ | ⟨_, a', ha', hc'⟩
        · rw [h3] at hk'; cases hk'
        · rw [h4] at ha'; cases ha'
          exact ⟨u, .inr ⟨h2, a, h1, hc'.keeps k0⟩, ru.mono st⟩
    · rcases List.mem_cons.mp ha with rfl | ha
      · cases e : b.h₀.get? a with
        | none => rfl
        | some o => exact absurd (Heap.lt_size (H₂.base a o e)) (Nat.not_lt.mpr hC)
      · exact H.hi a ha
  refine ⟨I, fp, [I], xs.length, P, St, m0, rfl, W, hn, hst, hfp, fun q => hlI (List.mem_singleton.mp q), hm0.keeps g2.keeps, ⟨?_, ?_⟩, ?_⟩
  · intro C i v s₃ m₃ E' hC hPv hm hv hk htk
    obtain ⟨d, hd, av⟩ := hP i v hPv
    have hd' := List.mem_of_getElem? hd
    rw [av.dat (hxa d hd')]
    exact wpAny_mono ((hin C d hd').1.wp s₃ E' (inner C v d s₃ m₃ hC av hm hv hk htk)) (fun t s₄ q => ⟨q.2, q.1.toKeeps⟩) fun _ _ x => x
  · intro C i v s₃ m₃ E' hC hPv hpv hm hv hk htk
    obtain ⟨d, hd, av⟩ := hP i v hPv
    have hd' := List.mem_of_getElem? hd
    rw [av.dat (hxa d hd')] at hpv ⊢
    obtain ⟨ha, he⟩ := (hin C d hd').2 hpv
    exact wpAny_mono (he.wp s₃ E' (inner C v d s₃ m₃ hC av hm hv hk htk)) (fun t s₄ q => ⟨AtomV.of q.2 ha, q.1.toKeeps⟩) fun _ _ x => x
  · intro D h' tk ys vs hD hl hpl hlen hPs hF hnsL hk le
    obtain ⟨hh, ht, e2, k2, l2⟩ := g2
    subst e2
    have inMu : c.env.locals ∈ MuOf c mus M0 := by simp [MuOf]
    have k0 : ∀ z o, z ≠ c.env.locals → s.heap.get? z = some o → h'.get? z = some o := fun z o hz e => hk z o hz (fun hm => by rw [List.mem_singleton.mp hm] at e; rw [hI] at e; cases e) (k2 z o e)
    have hDn : ∀ a ∈ MuOf c mus M0, D ≠ a := fun a ha q => by
      obtain ⟨o, e⟩ := H₂.lt a ha
      rw [← q] at e
      rw [hD] at e; cases e
    have hval : RepL b (MuOf c mus M0) h' (.ref D) (.pl ((xs.filter p).map g)) := by
      obtain ⟨m, hm⟩ := hpl
      refine ⟨D, ys, m, rfl, fun hmu => hDn D hmu rfl, hm, ?_⟩
      have e1 : vs.map dat = xs := by
        apply List.ext_getElem?
        intro i
        cases hv : vs[i]? with
        | none =>
          have : xs[i]? = none := by
            rw [List.getElem?_eq_none_iff] at hv ⊢; omega
          simp [hv, this]
        | some v =>
          obtain ⟨d, hd, av⟩ := hP i v (hPs i v hv)
          simp [hv, hd, av.dat (hxa d (List.mem_of_getElem? hd))]
      have e2 : (vs.filter fun v => p (dat v)).map dat = xs.filter p := by
        rw [← e1, List.filter_map]; rfl
      have := paired_rep hF (MuOf c mus M0) h'
      rw [e2] at this
      exact this
    refine hr.wp _ E (HH.store c.env.locals h' tk le inMu HH.nsHi (fun p hp => (HH.muts p hp).2.1) k0 (let ⟨o, _, _, e, _⟩ := hnsL; ⟨o, e⟩) ⟨_, hnsL⟩ (fun z e q => ?_) (.inl ⟨hy, _, hnsL, by simp⟩) (fun z u hz nu => ?_) hval)
    · obtain ⟨h1, h2, u, h3⟩ := HH.cells z e q
      obtain ⟨o, eo, hd⟩ := h3
      exact ⟨u, o, k0 e o h2 eo, hd⟩
    · rcases nu with ⟨hk', m', hm', e⟩ | ⟨hk', e, he, hv⟩
      · refine .inl ⟨hk', _, hnsL, ?_⟩
        rw [if_neg hz, ns_unique hm0 hm']; exact e
      · obtain ⟨h1, h2, _⟩ := HH.cells z e he
        obtain ⟨o, eo, hd⟩ := hv
        exact .inr ⟨hk', e, he, o, k0 e o h2 eo, hd⟩
end
end Mine
end
section
open PySem PySem.W PyProof.Rows
set_option autoImplicit false
set_option linter.unusedVariables false
set_option maxRecDepth 100000
namespace Mine
section
variable {b : Base} {c : Cx} {Mu : List Addr} {ρ : Rho}

theorem Ex.assignCompI {n : Nat} (ok : CxOk b n c) {s₀ : Shared} {M0 : List Addr} {G : List (Addr × Obj)} {mus : Mus} {K : Rho → Mus → Prop} {R : LV → Prop} {rest : List Stmt} {y : PySem.Str} {py spos : Pos}
    {elt iter : Expr} {x : PySem.Str} {px pos : Pos} {ifs : List Expr} {scope : Scope} {cl : List (PySem.Str × Addr)} {xs : List Int} (names : List PySem.Str)
    (src : Src b c (MuOf c mus M0) ρ iter (xs.map .int)) (hn : xs.length ≤ sizeLine) (p : Int → Bool) (g : Int → PyData)
    (hin : ∀ C i, i ∈ xs → CxOk b n ⟨c.A, compEnvC scope cl C c.env⟩ → Ifs b ⟨c.A, compEnvC scope cl C c.env⟩ (C :: MuOf c mus M0) (upd (restr names ρ) x (.d (.int i))) ifs (p i) ∧
      (p i = true → isAtom (g i) = true ∧ Ev b ⟨c.A, compEnvC scope cl C c.env⟩ (C :: MuOf c mus M0) (upd (restr names ρ) x (.d (.int i))) elt (.d (g i))))
    (hr : Ex b c s₀ M0 G (upd ρ y (.pl ((xs.filter p).map g))) mus rest K R)
    (hsw : swapsWith (.ListComp elt [⟨.Name x px, iter, ifs, 0⟩] scope pos) (some (.Name y py)) spos.line c.env = pure true := by first | rfl | kernel_rfl) (hy : c.env.kindOf y = some .local := by kernel_rfl)
    (hsc : compScope scope x = true := by kernel_rfl) (hclos : closureFor scope c.env = pure cl := by first | rfl | kernel_rfl)
    (hcap : Capt cl scope c.env names := by repeat (first | exact Capt.nil | refine Capt.cons (by kernel_rfl) (by kernel_rfl) (by kernel_rfl) (by kernel_rfl) ?_))
    (hs : ∀ x, foldedSetIterable iter c.env x = pure x := by intro _; rfl) :
    Ex b c s₀ M0 G ρ mus (.Assign [.Name y py] (.ListComp elt [⟨.Name x px, iter, ifs, 0⟩] scope pos) spos :: rest) K R := by
  have hsc' := hsc
  simp only [compScope, Bool.and_eq_true, decide_eq_true_eq, List.all_eq_true] at hsc'
  obtain ⟨⟨⟨h1, h2⟩, h3⟩, h4⟩ := hsc'
  rw [← filter_map_un .int unI (fun _ => rfl) p g xs] at hr
  refine Ex.assignComp ok hsw hy src (by simpa using hn) (fun d hd => ?_) hclos h2 h1 h3 h4 hs (restr names ρ) (fun y l h => by
    obtain ⟨hy, hl⟩ := restr_some h
    obtain ⟨a, a1, a2, a3, a4⟩ := hcap.get y hy
    exact ⟨a, a1, a2, a3, a4, hl⟩) (fun d => p (unI d)) (fun d => g (unI d)) (fun C d hd => ?_) hr
  · obtain ⟨i, _, rfl⟩ := List.mem_map.mp hd; rfl
  · obtain ⟨i, hi, rfl⟩ := List.mem_map.mp hd; exact hin C i hi (CxOk.comp ok hsc cl C)

/-- what a comprehension's scope must be whose target is a cell -/
noncomputable def cellScope (scope : Scope) : Bool := decide (scope.kind = .function) && (scope.names.all fun y => decide (y.2 = .local → scope.names.lookup y.1 = some .local))
theorem Ev.cellD {n : Nat} (ok : CxOk b n c) {elt iter : Expr} {x : PySem.Str} {px pos : Pos} {scope : Scope} {cl : List (PySem.Str × Addr)} {xs : List PyData} (names : List PySem.Str)
    (src : Src b c Mu ρ iter xs) (hn : xs.length ≤ sizeLine) (hxa : ∀ d ∈ xs, isAtom d = true) (g : PyData → PyData) (hg : ∀ d ∈ xs, isAtom (g d) = true)
    (hin : ∀ C T d, d ∈ xs → CxOk b n ⟨c.A, compEnvT scope x T cl C c.env⟩ → Ev b ⟨c.A, compEnvT scope x T cl C c.env⟩ (C :: T :: Mu) (upd (restr names ρ) x (.d d)) elt (.d (g d)))
    (hsc : cellScope scope = true) (hclos : closureFor scope c.env = pure cl)
    (hc1 : ∀ n, cellsFrom n scope.names cl = (x, n) :: cl) (hc2 : ∀ h, pushCells h scope.names = h.push { cls := .type "cell", data := .cell none })
    (hx : (relabel scope c.env).names.lookup x = some .cell) (hcap : Capt cl scope c.env names) (hs : ∀ x, foldedSetIterable iter c.env x = pure x) :
    Ev b c Mu ρ (.ListComp elt [⟨.Name x px, iter, [], 0⟩] scope pos) (.pl (xs.map g)) := by
  simp only [cellScope, Bool.and_eq_true, decide_eq_true_eq, List.all_eq_true] at hsc
  have := Ev.compCell ok (elt := elt) (px := px) (pos := pos) (ifs := []) src hn hxa hclos hsc.1 hc1 hc2 hsc.2 hx hs (restr names ρ) (fun y l h _ => by
    obtain ⟨hy, hl⟩ := restr_some h
    obtain ⟨a, a1, a2, a3, a4⟩ := hcap.get y hy
    exact ⟨a, a1, a2, a3, a4, hl⟩) (fun _ => true) g fun C T d hd => ⟨.nil, fun _ => ⟨hg d hd, hin C T d hd ⟨ok.room, hsc.1, ok.globals, ok.builtins⟩⟩⟩
  rwa [filter_true'] at this
theorem Ev.cellS {n : Nat} (ok : CxOk b n c) {elt iter : Expr} {x : PySem.Str} {px pos : Pos} {scope : Scope} {cl : List (PySem.Str × Addr)} {xs : List PySem.Str} (names : List PySem.Str)
    (src : Src b c Mu ρ iter (xs.map .str)) (hn : xs.length ≤ sizeLine) (g : PySem.Str → PyData) (hg : ∀ d ∈ xs, isAtom (g d) = true)
    (hin : ∀ C T d, d ∈ xs → CxOk b n ⟨c.A, compEnvT scope x T cl C c.env⟩ → Ev b ⟨c.A, compEnvT scope x T cl C c.env⟩ (C :: T :: Mu) (upd (restr names ρ) x (.d (.str d))) elt (.d (g d)))
    (hsc : cellScope scope = true := by kernel_rfl) (hclos : closureFor scope c.env = pure cl := by first | rfl | kernel_rfl)
    (hc1 : ∀ n, cellsFrom n scope.names cl = (x, n) :: cl := by intro _; kernel_rfl) (hc2 : ∀ h, pushCells h scope.names = h.push { cls := .type "cell", data := .cell none } := by intro _; kernel_rfl)
    (hx : (relabel scope c.env).names.lookup x = some .cell := by kernel_rfl)
    (hcap : Capt cl scope c.env names := by repeat (first | exact Capt.nil | refine Capt.cons (by kernel_rfl) (by kernel_rfl) (by kernel_rfl) (by kernel_rfl) ?_))
    (hs : ∀ x, foldedSetIterable iter c.env x = pure x := by intro _; rfl) :
    Ev b c Mu ρ (.ListComp elt [⟨.Name x px, iter, [], 0⟩] scope pos) (.pl (xs.map g)) := by
  have := Ev.cellD ok (elt := elt) (px := px) (pos := pos) names src (by simpa using hn) (fun d hd => by obtain ⟨i, _, rfl⟩ := List.mem_map.mp hd; rfl) (fun d => g (unS d)) (fun d hd => by obtain ⟨i, hi, rfl⟩ := List.mem_map.mp hd; exact hg i hi)
    (fun C T d hd ok' => by obtain ⟨i, hi, rfl⟩ := List.mem_map.mp hd; exact hin C T i hi ok') hsc hclos hc1 hc2 hx hcap hs
  rwa [List.map_map] at this
theorem Ev.cellI {n : Nat} (ok : CxOk b n c) {elt iter : Expr} {x : PySem.Str} {px pos : Pos} {scope : Scope} {cl : List (PySem.Str × Addr)} {xs : List Int} (names : List PySem.Str)
    (src : Src b c Mu ρ iter (xs.map .int)) (hn : xs.length ≤ sizeLine) (g : Int → PyData) (hg : ∀ d ∈ xs, isAtom (g d) = true)
    (hin : ∀ C T d, d ∈ xs → CxOk b n ⟨c.A, compEnvT scope x T cl C c.env⟩ → Ev b ⟨c.A, compEnvT scope x T cl C c.env⟩ (C :: T :: Mu) (upd (restr names ρ) x (.d (.int d))) elt (.d (g d)))
    (hsc : cellScope scope = true := by kernel_rfl) (hclos : closureFor scope c.env = pure cl := by first | rfl | kernel_rfl)
    (hc1 : ∀ n, cellsFrom n scope.names cl = (x, n) :: cl := by intro _; kernel_rfl) (hc2 : ∀ h, pushCells h scope.names = h.push { cls := .type "cell", data := .cell none } := by intro _; kernel_rfl)
    (hx : (relabel scope c.env).names.lookup x = some .cell := by kernel_rfl)
    (hcap : Capt cl scope c.env names := by repeat (first | exact Capt.nil | refine Capt.cons (by kernel_rfl) (by kernel_rfl) (by kernel_rfl) (by kernel_rfl) ?_))
    (hs : ∀ x, foldedSetIterable iter c.env x = pure x := by intro _; rfl) :
    Ev b c Mu ρ (.ListComp elt [⟨.Name x px, iter, [], 0⟩] scope pos) (.pl (xs.map g)) := by
  have := Ev.cellD ok (elt := elt) (px := px) (pos := pos) names src (by simpa using hn) (fun d hd => by obtain ⟨i, _, rfl⟩ := List.mem_map.mp hd; rfl) (fun d => g (unI d)) (fun d hd => by obtain ⟨i, hi, rfl⟩ := List.mem_map.mp hd; exact hg i hi)
    (fun C T d hd ok' => by obtain ⟨i, hi, rfl⟩ := List.mem_map.mp hd; exact hin C T i hi ok') hsc hclos hc1 hc2 hx hcap hs
  rwa [List.map_map] at this
end
end Mine
end
section
open PySem PySem.W PyProof.Rows
set_option autoImplicit false
set_option linter.unusedVariables false
set_option maxRecDepth 100000
namespace Mine
namespace LP
variable (P : LP)
noncomputable def keys : List PySem.Str := P.firsts.map fun i => ofL (P.piece i)
noncomputable def counts : List Int := P.firsts.map fun i => (P.cnt i : Int)
noncomputable def bkI : List Int := P.bk.map fun (i : Nat) => (i : Int)
noncomputable def kindsI : List Int := (List.range P.N).map fun i => (P.ek i : Int)
noncomputable def waysI : List Int := P.ways.map fun (i : Nat) => (i : Int)
end LP
variable {P : LP}
theorem keys_eq : P.toldL.map (·.1) = P.keys := by
  unfold LP.toldL LP.keys
  rw [List.map_map]; rfl
theorem piece_length {i : Nat} (h : i < P.N) : (P.piece i).length = P.n := by
  rw [piece_bits i h, List.length_map]
  unfold bitsN
  simp
theorem row_take {j : Nat} (h : j < P.N) : Txt.slice (ofL (P.row j)) none (some (P.n : Int)) = ofL (P.piece j) := by
  apply tl_inj
  have hl := piece_length h
  have : (P.row j).length = (P.piece j).length + (1 + P.tag.length) := by unfold LP.row; simp; omega
  rw [slice_to _ (by rw [len_ofL]; omega), tl_ofL, tl_ofL, Int.toNat_natCast]
  unfold LP.row
  rw [← hl, List.take_left' rfl]
theorem filter_len {α β : Type} (g : α → β) (p : β → Bool) (q : α → Bool) (l : List α) (h : ∀ x ∈ l, p (g x) = q x) : ((l.map g).filter p).length = (l.filter q).length := by
  rw [List.filter_map, List.length_map]
  congr 1
  exact List.filter_congr fun x hx => h x hx
theorem LP.Ok.cnt_rows (hP : P.Ok) {i : Nat} (hi : i < P.N) : (P.rows.filter fun r => Txt.slice r none (some (P.n : Int)) == ofL (P.piece i)).length = P.cnt i := by
  unfold LP.rows
  refine filter_len _ _ _ _ fun j hj => ?_
  have hj := List.mem_range.mp hj
  rw [row_take hj]
  have h := hP.piece_eq hj hi
  cases hb : Nat.beq (P.ek j) (P.ek i)
  · refine beq_eq_false_iff_ne.mpr fun q => ?_
    have := h.mp (ofL_inj.mp q)
    rw [this, Nat.beq_refl] at hb; cases hb
  · exact beq_iff_eq.mpr (congrArg ofL (h.mpr (Nat.eq_of_beq_eq_true hb)))
theorem LP.Ok.cnt_more (hP : P.Ok) : (P.rows.filter fun r => (Txt.count (Txt.slice r none (some (P.n : Int))) P.other : Int) == (P.turns : Int) + 1).length = P.a * P.n % P.N := by
  rw [← hP.comb.more]
  unfold LP.rows
  refine filter_len _ _ _ _ fun j hj => ?_
  have hj := List.mem_range.mp hj
  rw [row_take hj]
  unfold LP.other
  rw [count_one, tl_ofL, hP.piece_ones hj]
  cases hb : Nat.beq (P.ones j) (P.turns + 1)
  · refine beq_eq_false_iff_ne.mpr fun q => ?_
    have : P.ones j = P.turns + 1 := by omega
    rw [this, Nat.beq_refl] at hb; cases hb
  · have := Nat.eq_of_beq_eq_true hb
    exact beq_iff_eq.mpr (by omega)
theorem eqv_int (i j : Int) : PyData.eqv (.int i) (.int j) = (i == j) := by rfl
theorem mem_keys {k : PySem.Str} (h : k ∈ P.keys) : ∃ i, i ∈ P.firsts ∧ i < P.N ∧ k = ofL (P.piece i) := by
  obtain ⟨i, hi, rfl⟩ := List.mem_map.mp h
  exact ⟨i, hi, (mem_firsts.mp hi).1, rfl⟩
theorem LP.Ok.keys_turns (hP : P.Ok) {k : PySem.Str} (h : k ∈ P.keys) : (!([PyData.int P.turns, .int ((P.turns : Int) + 1)].any fun y => PyData.eqv y (.int (Txt.count k P.other)))) = false := by
  obtain ⟨i, _, hi, rfl⟩ := mem_keys h
  unfold LP.other
  rw [count_one, tl_ofL, hP.piece_ones hi]
  simp only [List.any_cons, List.any_nil, eqv_int, Bool.not_eq_false']
  rcases hP.comb.ones i with h | h
  · rw [h]; simp
  · rw [h]; simp
theorem ways_eq : (rangeI 1 ((P.N : Int) + 1)).filter (fun i => (P.counts.map PyData.int).any fun y => PyData.eqv y (.int i)) = P.waysI := by
  unfold LP.waysI LP.ways waysN rangeI
  rw [show ((P.N : Int) + 1 - 1).toNat = P.N by omega, List.filter_map, List.filter_map, List.map_map]
  have e : (List.range P.N).filter ((fun i => (P.counts.map PyData.int).any fun y => PyData.eqv y (.int i)) ∘ fun (i : Nat) => 1 + (i : Int)) = (List.range P.N).filter ((fun c => (firstsN P.ek P.N).any fun i => Nat.beq (cntN P.ek P.N i) c) ∘ (· + 1)) := by
    refine List.filter_congr fun c _ => ?_
    simp only [Function.comp]
    unfold LP.counts
    rw [List.map_map, List.any_map]
    congr 1
    funext i
    simp only [Function.comp, eqv_int]
    have : P.cnt i = cntN P.ek P.N i := rfl
    cases hb : Nat.beq (cntN P.ek P.N i) (c + 1)
    · refine beq_eq_false_iff_ne.mpr fun q => ?_
      have : cntN P.ek P.N i = c + 1 := by omega
      rw [this, Nat.beq_refl] at hb; cases hb
    · have := Nat.eq_of_beq_eq_true hb
      exact beq_iff_eq.mpr (by omega)
  rw [e]
  refine List.map_congr_left fun c _ => ?_
  simp only [Function.comp]; omega
theorem ins_perm (x : Nat) : ∀ l : List Nat, (insN x l).Perm (x :: l)
  | [] => List.Perm.refl _
  | y :: r => by
    unfold insN
    cases Nat.ble x y
    · exact ((ins_perm x r).cons y).trans (List.Perm.swap x y r)
    · exact List.Perm.refl _
theorem sort_perm : ∀ l : List Nat, (sortN l).Perm l
  | [] => List.Perm.refl _
  | x :: r => (ins_perm x _).trans ((sort_perm r).cons x)
theorem ins_sorted (x : Nat) : ∀ l : List Nat, l.Pairwise (· ≤ ·) → (insN x l).Pairwise (· ≤ ·)
  | [], _ => List.pairwise_singleton _ _
  | y :: r, h => by
    unfold insN
    have h' := List.pairwise_cons.mp h
    cases hb : Nat.ble x y
    · refine List.pairwise_cons.mpr ⟨fun z hz => ?_, ins_sorted x r h'.2⟩
      rcases List.mem_cons.mp ((ins_perm x r).mem_iff.mp hz) with rfl | hz
      · exact Nat.le_of_lt (Nat.lt_of_not_le fun q => by rw [Nat.ble_eq_true_of_le q] at hb; cases hb)
      · exact h'.1 z hz
    · refine List.pairwise_cons.mpr ⟨fun z hz => ?_, h⟩
      have := Nat.le_of_ble_eq_true hb
      rcases List.mem_cons.mp hz with rfl | hz
      · exact this
      · exact Nat.le_trans this (h'.1 z hz)
theorem sort_sorted : ∀ l : List Nat, (sortN l).Pairwise (· ≤ ·)
  | [] => List.Pairwise.nil
  | x :: r => ins_sorted x _ (sort_sorted r)
theorem bk_sorted : P.bkI.Pairwise (· ≤ ·) := by
  unfold LP.bkI
  rw [List.pairwise_map]
  exact (sort_sorted _).imp fun h => Int.ofNat_le.mpr h
theorem LP.Ok.bk_perm (hP : P.Ok) : P.bkI.Perm ((rangeI 0 ((P.n : Int) + 1)).map fun j => (-j * (P.a : Int)).fmod P.N) := by
  have ha := hP.ha
  have e : ((rangeI 0 ((P.n : Int) + 1)).map fun j => (-j * (P.a : Int)).fmod P.N) = ((List.range (P.n + 1)).map fun j => (P.N * P.n - j * P.a) % P.N).map fun (i : Nat) => (i : Int) := by
    unfold rangeI
    rw [List.map_map, List.map_map, show ((P.n : Int) + 1 - 0).toNat = P.n + 1 by omega]
    refine List.map_congr_left fun j hj => ?_
    have hj := List.mem_range.mp hj
    simp only [Function.comp]
    have h1 : j * P.a ≤ P.N * P.n := by
      have := Nat.mul_le_mul (show j ≤ P.n by omega) (show P.a ≤ P.N by omega)
      rw [Nat.mul_comm P.N]; exact this
    rw [Int.fmod_eq_emod_of_nonneg _ (by omega), Int.natCast_emod, Int.natCast_sub h1, Int.natCast_mul, Int.natCast_mul, Int.zero_add]
    rw [show (P.N : Int) * P.n - (j : Int) * P.a = -(j : Int) * P.a + P.N * P.n by rw [Int.neg_mul]; omega, Int.add_mul_emod_self_left]
  rw [e]
  exact (sort_perm _).map _
theorem bk_len : P.bk.length = P.n + 1 := by
  unfold LP.bk backN
  rw [(sort_perm _).length_eq]; simp
theorem bkI_len : P.bkI.length = P.n + 1 := by unfold LP.bkI; rw [List.length_map, bk_len]
theorem kind_cnt (i : Nat) : (P.bkI.filter fun x => decide (x ≤ (P.st i : Int))).length = P.ek i := by
  unfold LP.bkI
  refine filter_len _ _ _ _ fun x _ => ?_
  cases hb : Nat.ble x (startN P.N P.n P.a P.f i)
  · exact decide_eq_false fun q => by
      have : x ≤ startN P.N P.n P.a P.f i := Int.ofNat_le.mp q
      rw [Nat.ble_eq_true_of_le this] at hb; cases hb
  · exact decide_eq_true (Int.ofNat_le.mpr (Nat.le_of_ble_eq_true hb))
theorem place_st (i : Nat) (h : i < P.N) : (P.places.map PyData.int)[P.n * i]? = some (.int (P.st i)) ∨ P.n = 0 ∨ P.e = 0 := by
  by_cases h0 : P.e = 0
  · exact .inr (.inr h0)
  · have h1 : (i + 1) * P.n ≤ P.N * P.n := Nat.mul_le_mul_right _ h
    rw [Nat.succ_mul] at h1
    have h2 : i * P.n = P.n * i := Nat.mul_comm _ _
    have hT : P.T = P.N * P.n + P.e := rfl
    refine .inl ?_
    unfold LP.places
    rw [List.map_map, List.getElem?_map, List.getElem?_range (by omega)]; rfl
end Mine
end
section
open PySem PySem.W PyProof.Rows
set_option autoImplicit false
set_option linter.unusedVariables false
set_option maxRecDepth 100000
namespace Mine

noncomputable def r3 (P : LP) : Rho := upd (upd (upd (upd (upd (upd (upd (upd (upd (upd (upd (upd (upd (upd (fun _ => none) "size" (.d (.int P.N))) "fore" (.d (.str (ofL P.fore)))) "wide" (.d (.int P.n)))
  "octet" (.d (.int P.oct))) "figures" (.d (.str (ofL P.fig)))) "places" (.pl (P.places.map .int))) "text" (.d (.str (ofL P.tx)))) "letter" (.d (.str (ofL P.letter)))) "parts" (.pl (P.words.map .str))) "rows" (.pl (P.rows.map .str))) "told" (.k P.toldL))
  "counts" (.pl (P.counts.map .int))) "back" (.pl (P.bkI.map .int))) "kinds" (.pl (P.kindsI.map .int))

theorem slice_to_len (x : PySem.Str) (n : Nat) : (Txt.slice x none (some (n : Int))).length ≤ x.length := Txt.slice_le x _ _
theorem word_len {P : LP} (hP : P.Ok) {r : PySem.Str} (h : r ∈ P.rows) : r.length ≤ 20 := by
  have sm := hP.small
  obtain ⟨i, _, rfl⟩ := List.mem_map.mp h
  have := piece_len (P := P) (i := i)
  have := tag_len (P := P)
  rw [len_ofL]
  unfold LP.row
  simp only [List.length_append, List.length_cons]; omega
theorem segC {b : Base} (T : TopOk b) {P : LP} (hP : P.Ok) {A : Around} {L a : Addr} {pm code doc : Value} {s₀ : Shared} {M0 : List Addr} {n : Nat} (ok : CxOk b n (cL A pm code doc L a)) (hn : 8 ≤ n) {K : Rho → Mus → Prop} {R : LV → Prop}
    (h : Ex b (cL A pm code doc L a) s₀ M0 [] (r3 P) [] ((bodyOf (S 35)).drop 24) K R) :
    Ex b (cL A pm code doc L a) s₀ M0 [] (r2 P) [] ((bodyOf (S 35)).drop 16) K R := by
  unfold r2
  rw [hP.told_eq]
  have sm := hP.small
  have cb := hP.comb
  have hsz : 200000 ≤ sizeLine := by decide
  have hrl : P.rows.length = P.N := by unfold LP.rows; simp
  have hkl : P.keys.length = P.n + 1 := by unfold LP.keys; rw [List.length_map]; exact cb.kinds
  have htl : P.toldL.length = P.n + 1 := by unfold LP.toldL; rw [List.length_map]; exact cb.kinds
  have hnn : P.n * P.a ≤ 6 * 12 := Nat.mul_le_mul sm.2.2.2.2 sm.2.2.2.1
  -- counts
  refine Ex.ac ok (l := .pl (P.counts.map .int)) ?_ ?_
  · refine Ev.cast (Ev.cellS ok ["rows", "wide"] (xs := P.keys) ?_ (by omega) (fun k => .int ((P.rows.filter fun r => Txt.slice r none (some (P.n : Int)) == k).length : Nat)) (fun _ _ => rfl) fun C t k hk ok' => ?_) ?_
    · rw [← keys_eq]
      exact Src.dS ok (Ev.v ok)
    · refine Ev.cast (Ev.callB ok' (Ev.bi ok' T.base T.n_len) (.one (Ev.weak (Ev.compS ok' ["wide", "key"] (xs := P.rows) (Src.lS ok' (Ev.weak (Ev.v ok'))) (by omega) (fun r => Txt.slice r none (some (P.n : Int)) == k) .str fun C2 r hr ok2 => ⟨.one ?_, fun _ => ⟨rfl, Ev.v ok2⟩⟩))) (Cal.lenL _ ?_)) ?_
      · exact Te.cmp ok2 (Ev.sliceStr (lo := none) (hi := some (P.n : Int)) (Ev.v ok2) trivial (Ev.v ok2) (by have := word_len hP hr; omega)) (Ev.v ok2) (Cop.eqs _ _) rfl
      · rw [List.length_map]
        have := List.length_filter_le (fun r => Txt.slice r none (some (P.n : Int)) == k) P.rows
        omega
      · rw [List.length_map]
    · congr 1
      unfold LP.keys LP.counts
      rw [List.map_map, List.map_map]
      refine List.map_congr_left fun i hi => ?_
      simp only [Function.comp]
      rw [hP.cnt_rows (mem_firsts.mp hi).1]
  -- ways
  refine Ex.assignCompI ok ["counts"] (xs := rangeI 1 ((P.N : Int) + 1)) (Src.r2 ok (by decide) (by decide) (by omega) (by omega) (Ev.bi ok T.base T.n_range) (.two Ev.i (Ev.bin ok (Ev.v ok) Ev.i (Bop.add _ _)))) (by rw [rangeI_len]; omega)
    (fun i => (P.counts.map PyData.int).any fun y => PyData.eqv y (.int i)) .int (fun C i hi ok' => ⟨.one ?_, fun _ => ⟨rfl, Ev.v ok'⟩⟩) ?_
  · exact Te.cmp ok' (Ev.v ok') (Ev.weak (Ev.v ok')) (Cop.inL (.int i) (P.counts.map .int) (canLayAll_ints _) rfl (by rw [PyProof.Rows.depthAll_ints]; exact Nat.le_trans (Nat.min_le_left _ _) (by decide))) rfl
  rw [ways_eq]
  have hwl : P.waysI.length = P.ways.length := by unfold LP.waysI; rw [List.length_map]
  have hw3 : P.ways.length ≤ 3 ∧ (P.ways.length = 3 → ∃ x y : Nat, P.ways = [x, y, x + y]) := by
    have := cb.ways
    match hh : P.ways with
    | [] => exact ⟨by simp, fun q => by simp at q⟩
    | [_] => exact ⟨by simp, fun q => by simp at q⟩
    | [_, _] => exact ⟨by simp, fun q => by simp at q⟩
    | [x, y, z] =>
      rw [hh] at this
      have hz : z = x + y := Nat.eq_of_beq_eq_true this
      exact ⟨by simp, fun _ => ⟨x, y, by rw [hz]⟩⟩
    | _ :: _ :: _ :: _ :: _ => rw [hh] at this; cases this
  refine Ex.skip (Te.or (.cons (t := false) (u := false) ?_ fun _ => .cons (t := false) (u := false) ?_ fun _ => .cons (t := false) (u := false) ?_ fun _ => .nil)) ?_
  · refine Te.cast (Te.cmp ok (Ev.lenK ok (Ev.bi ok T.base T.n_len) (Ev.v ok) (by rw [htl]; omega) rfl) (Ev.bin ok (Ev.v ok) Ev.i (Bop.add _ _)) (Cop.ne _ _) rfl) ?_
    rw [htl]
    exact bne_eq_false_iff_eq.mpr (by omega)
  · refine Te.cast (Te.cmp ok (Ev.callB ok (Ev.bi ok T.base T.n_len) (.one (Ev.weak (Ev.v ok))) (Cal.lenL _ (by rw [List.length_map]; omega))) Ev.i (Cop.gt _ _) rfl) ?_
    exact decide_eq_false (by rw [List.length_map]; omega)
  · by_cases q : P.ways.length = 3
    · obtain ⟨x, y, hxy⟩ := hw3.2 q
      have e : P.waysI = [(x : Int), (y : Int), ((x + y : Nat) : Int)] := by unfold LP.waysI; rw [hxy]; rfl
      rw [e]
      refine Te.cast (Te.and (.cons (t := true) (u := false) ?_ fun _ => .cons (t := false) (u := true) ?_ fun _ => .nil)) rfl
      · exact Te.cast (Te.cmp ok (Ev.callB ok (Ev.bi ok T.base T.n_len) (.one (Ev.weak (Ev.v ok))) (Cal.lenL _ (by show 3 < 2 ^ 62; decide))) Ev.i (Cop.eq _ _) rfl) rfl
      · refine Te.cast (Te.cmp ok (Ev.sub ok (Ev.weak (Ev.v ok)) Ev.i (Gop.list _ 2 (.int ((x + y : Nat) : Int)) rfl (by decide)) (fun o i => ⟨_, rfl⟩)) (Ev.bin ok (Ev.sub ok (Ev.weak (Ev.v ok)) Ev.i (Gop.list _ 0 (.int (x : Int)) rfl (by decide)) (fun o i => ⟨_, rfl⟩)) (Ev.sub ok (Ev.weak (Ev.v ok)) Ev.i (Gop.list _ 1 (.int (y : Int)) rfl (by decide)) (fun o i => ⟨_, rfl⟩)) (Bop.add _ _)) (Cop.ne _ _) rfl) ?_
        exact bne_eq_false_iff_eq.mpr (by omega)
    · refine Te.cast (Te.and (.cons (t := false) (u := true) ?_ fun q => by cases q)) rfl
      refine Te.cast (Te.cmp ok (Ev.callB ok (Ev.bi ok T.base T.n_len) (.one (Ev.weak (Ev.v ok))) (Cal.lenL _ (by rw [List.length_map]; omega))) Ev.i (Cop.eq _ _) rfl) ?_
      exact beq_eq_false_iff_ne.mpr (by rw [List.length_map]; omega)
  -- turns
  have hti : ((P.a : Int) * P.n).fdiv P.N = (P.turns : Int) := by rw [Int.fdiv_eq_ediv_of_nonneg _ (by omega)]; rfl
  have htm : ((P.a : Int) * P.n).fmod P.N = ((P.a * P.n % P.N : Nat) : Int) := by rw [Int.fmod_eq_emod_of_nonneg _ (by omega)]; rfl
  refine Ex.ac ok (l := .d (.int P.turns)) ?_ ?_
  · exact Ev.cast (Ev.bin ok (Ev.bin ok (Ev.v ok) (Ev.v ok) (Bop.mul _ _ (mulOk_small (by omega) (by omega)))) (Ev.v ok) (Bop.fdiv _ _ (by omega) (PyProof.noPylong_small (by
      have := Int.natCast_mul P.a P.n
      have h2 : P.a * P.n = P.n * P.a := Nat.mul_comm _ _
      omega)))) (congrArg (fun x => LV.d (.int x)) hti)
  refine Ex.skip (Te.cast (Te.cmp ok (Ev.weak (Ev.cast (Ev.compS ok ["other", "turns"] (xs := P.keys) (by rw [← keys_eq]; exact Src.dS ok (Ev.v ok)) (by omega) (fun k => !([PyData.int P.turns, .int ((P.turns : Int) + 1)].any fun y => PyData.eqv y (.int (Txt.count k P.other)))) .str fun C k hk ok' => ⟨.one ?_, fun _ => ⟨rfl, Ev.v ok'⟩⟩) (l' := .pl []) ?_)) (Ev.listD .nil (by show 0 ≤ sizeLine; omega)) (Cop.ned (.list []) (.list []) rfl rfl) rfl) rfl) ?_
  · exact Te.cmp ok' (Ev.m ok' (Ev.v ok') (.one (Ev.v ok')) PySem.F.slot_str_count PySem.F.type_str_count (Cal.count _ _)) (Ev.listD (.cons (Ev.v ok') rfl (.cons (Ev.bin ok' (Ev.v ok') Ev.i (Bop.add _ _)) rfl .nil)) (by show 2 ≤ sizeLine; omega)) (Cop.notInL (.int (Txt.count k P.other)) [.int P.turns, .int ((P.turns : Int) + 1)] rfl rfl (Nat.le_trans (Nat.min_le_left _ _) (by show max 0 (max 0 0) ≤ 100; decide))) rfl
  · rw [List.filter_eq_nil_iff.mpr fun k hk => by rw [hP.keys_turns hk]; decide]; rfl
  refine Ex.skip (Te.cast (Te.cmp ok (Ev.callB ok (Ev.bi ok T.base T.n_len) (.one (Ev.weak (Ev.compS ok ["wide", "other", "turns"] (xs := P.rows) (Src.lS ok (Ev.weak (Ev.v ok))) (by omega) (fun r => (Txt.count (Txt.slice r none (some (P.n : Int))) P.other : Int) == (P.turns : Int) + 1) .str fun C r hr ok' => ⟨.one ?_, fun _ => ⟨rfl, Ev.v ok'⟩⟩))) (Cal.lenL _ ?_)) (Ev.bin ok (Ev.bin ok (Ev.v ok) (Ev.v ok) (Bop.mul _ _ (mulOk_small (by omega) (by omega)))) (Ev.v ok) (Bop.mod _ _ (by omega))) (Cop.ne _ _) rfl) ?_) ?_
  · exact Te.cmp ok' (Ev.m ok' (Ev.sliceStr (lo := none) (hi := some (P.n : Int)) (Ev.v ok') trivial (Ev.v ok') (by have := word_len hP hr; omega)) (.one (Ev.v ok')) PySem.F.slot_str_count PySem.F.type_str_count (Cal.count _ _)) (Ev.bin ok' (Ev.v ok') Ev.i (Bop.add _ _)) (Cop.eq _ _) rfl
  · rw [List.length_map, hP.cnt_more]
    have := Nat.mod_lt (P.a * P.n) (show 0 < P.N by omega)
    omega
  · rw [List.length_map, hP.cnt_more, htm]
    exact bne_eq_false_iff_eq.mpr rfl
  -- back
  have hbl := bkI_len (P := P)
  refine Ex.ac ok (l := .pl (P.bkI.map .int)) ?_ ?_
  · refine Ev.callB ok (Ev.bi ok T.base T.n_sorted) (.one (Ev.weak (Ev.cast (Ev.compI0 ok ["step", "size"] (xs := rangeI 0 ((P.n : Int) + 1)) (Src.r1 ok (by omega) (by omega) (Ev.bi ok T.base T.n_range) (.one (Ev.bin ok (Ev.v ok) Ev.i (Bop.add _ _)))) (by rw [rangeI_len]; omega) (fun j => .int ((-j * (P.a : Int)).fmod P.N)) (fun _ _ => rfl) fun C i hi ok' => ?_) ?_))) (Cal.sorted ((rangeI 0 ((P.n : Int) + 1)).map fun j => (-j * (P.a : Int)).fmod P.N) P.bkI (by rw [List.length_map, rangeI_len]; omega) hP.bk_perm bk_sorted)
    · obtain ⟨h0, h1⟩ := mem_rangeI hi
      exact Ev.bin ok' (Ev.bin ok' (Ev.neg (Ev.v ok')) (Ev.v ok') (Bop.mul _ _ (mulOk_small (by omega) (by omega)))) (Ev.v ok') (Bop.mod _ _ (by omega))
    · rw [List.map_map]; rfl
  -- kinds
  have hpl : P.places.length = P.T := by unfold LP.places; simp
  refine Ex.ac ok (l := .pl (P.kindsI.map .int)) ?_ (Ex.le ?_ h)
  · refine Ev.cast (Ev.cellI ok ["back", "places", "wide"] (xs := rangeI 0 P.N) (Src.r1 ok (by omega) (by omega) (Ev.bi ok T.base T.n_range) (.one (Ev.v ok))) (by rw [rangeI_len]; omega) (fun i => .int (P.ek i.toNat : Nat)) (fun _ _ => rfl) fun C t i hi ok' => ?_) ?_
    · obtain ⟨h0, h1⟩ := mem_rangeI hi
      obtain ⟨k, rfl⟩ : ∃ k : Nat, i = k := ⟨i.toNat, by omega⟩
      have hpn : P.n * k ≤ 6 * 13 := Nat.mul_le_mul sm.2.2.2.2 (by omega)
      refine Ev.cast (Ev.callB ok' (Ev.bi ok' T.base T.n_len) (.one (Ev.weak (Ev.compI ok' ["places", "wide", "i"] (xs := P.bkI) (Src.lI ok' (Ev.weak (Ev.v ok'))) (by omega) (fun x => decide (x ≤ (P.st k : Int))) .int fun C2 x hx ok2 => ⟨.one ?_, fun _ => ⟨rfl, Ev.v ok2⟩⟩))) (Cal.lenL _ ?_)) ?_
      · refine Te.cmp ok2 (Ev.v ok2) (Ev.sub ok2 (Ev.weak (Ev.v ok2)) (Ev.cast (Ev.bin ok2 (Ev.v ok2) (Ev.v ok2) (Bop.mul _ _ (mulOk_small (by omega) (by omega)))) (congrArg (fun x => LV.d (.int x)) (Int.natCast_mul P.n k).symm)) (Gop.list (P.places.map .int) (P.n * k) (.int (P.st k)) ?_ (by omega)) (fun o i => ⟨_, rfl⟩)) (Cop.le _ _) rfl
        rcases place_st (P := P) k (by omega) with h | h | h
        · exact h
        · have := hP.hn; omega
        · have := hP.he; omega
      · rw [List.length_map, kind_cnt]
        have := (cb.rng k).2
        omega
      · rw [List.length_map, kind_cnt]; rfl
    · congr 1
      unfold rangeI LP.kindsI
      rw [List.map_map, List.map_map, show ((P.N : Int) - 0).toNat = P.N by omega]
      refine List.map_congr_left fun k _ => ?_
      show PyData.int (P.ek ((0 : Int) + (k : Int)).toNat : Nat) = PyData.int (P.ek k : Nat)
      rw [Int.zero_add, Int.toNat_natCast]
  unfold r3
  exact Le.put (Le.put (Le.put (Le.put (Le.put (Le.put (Le.put (Le.put (Le.put (Le.put (Le.put (Le.put (Le.put (Le.put Le.none (by kernel_rfl)) (by kernel_rfl)) (by kernel_rfl)) (by kernel_rfl)) (by kernel_rfl)) (by kernel_rfl)) (by kernel_rfl)) (by kernel_rfl)) (by kernel_rfl)) (by kernel_rfl)) (by kernel_rfl)) (by kernel_rfl)) (by kernel_rfl)) (by kernel_rfl)
end Mine
end
section
open PySem PySem.W PyProof.Rows
set_option autoImplicit false
set_option linter.unusedVariables false
set_option maxRecDepth 100000
namespace Mine
namespace LP
variable (P : LP)
noncomputable def dueD (k : Nat) : List PyData := (firstsN P.ek k).map fun i => PyData.tuple [.str (ofL (P.piece i)), .str (ofL (P.unv (P.lastI i)))]
noncomputable def apI (k : Nat) : List Int := (firstsN P.ek k).map fun i => (P.gap i : Int)
end LP
variable {P : LP}
theorem lastN_max {e : Nat → Nat} {i : Nat} : ∀ m, (i < m → lastN e i m < m ∧ e (lastN e i m) = e i) ∧ ∀ j, j < m → e j = e i → j ≤ lastN e i m
  | 0 => ⟨fun h => absurd h (Nat.not_lt_zero _), fun j h => absurd h (Nat.not_lt_zero _)⟩
  | m + 1 => by
    have ih := lastN_max (e := e) (i := i) m
    show (_ → (if e m = e i then m else lastN e i m) < m + 1 ∧ e (if e m = e i then m else lastN e i m) = e i) ∧ ∀ j, j < m + 1 → e j = e i → j ≤ (if e m = e i then m else lastN e i m)
    by_cases h : e m = e i
    · rw [if_pos h]
      exact ⟨fun _ => ⟨Nat.lt_succ_self _, h⟩, fun j hj _ => by omega⟩
    · rw [if_neg h]
      refine ⟨fun hi => ?_, fun j hj hq => ih.2 j ?_ hq⟩
      · have : i ≠ m := fun q => h (by rw [q])
        have := ih.1 (by omega)
        exact ⟨by omega, this.2⟩
      · have : j ≠ m := fun q => h (by rw [← q]; exact hq)
        omega
theorem kinds_take {k : Nat} (hk : k ≤ P.N) : (P.kindsI.map PyData.int).take k = (List.range k).map fun j => PyData.int (P.ek j) := by
  unfold LP.kindsI
  rw [List.map_map, ← List.map_take, List.take_range, Nat.min_eq_left hk]; rfl
theorem new_kind (k : Nat) : (!(((List.range k).map fun j => PyData.int (P.ek j)).any fun y => PyData.eqv y (.int (P.ek k)))) = (List.range k).all fun j => !(Nat.beq (P.ek j) (P.ek k)) := by
  rw [List.any_map, List.not_any_eq_all_not]
  congr 1
  funext j
  simp only [Function.comp, eqv_int]
  congr 1
  cases hb : Nat.beq (P.ek j) (P.ek k)
  · refine beq_eq_false_iff_ne.mpr fun q => ?_
    have : P.ek j = P.ek k := by omega
    rw [this, Nat.beq_refl] at hb; cases hb
  · exact beq_iff_eq.mpr (by rw [Nat.eq_of_beq_eq_true hb])
theorem lastI_lt {i : Nat} (hi : i < P.N) : P.lastI i < P.N := (lastN_max P.N).1 hi |>.1
theorem last_mem {i : Nat} (hi : i < P.N) : (P.lastI i : Int) ∈ (rangeI 0 P.N).filter fun j => ((P.ek j.toNat : Int) == (P.ek i : Int)) := by
  have h := (lastN_max (e := P.ek) (i := i) P.N).1 hi
  refine List.mem_filter.mpr ⟨?_, ?_⟩
  · unfold rangeI
    refine List.mem_map.mpr ⟨P.lastI i, List.mem_range.mpr ?_, by omega⟩
    have : P.lastI i < P.N := h.1
    omega
  · rw [Int.toNat_natCast]
    exact beq_iff_eq.mpr (congrArg _ h.2)
theorem last_max {i : Nat} : ∀ j ∈ (rangeI 0 P.N).filter fun j => ((P.ek j.toNat : Int) == (P.ek i : Int)), j ≤ P.lastI i := by
  intro j hj
  obtain ⟨h1, h2⟩ := List.mem_filter.mp hj
  obtain ⟨h3, h4⟩ := mem_rangeI h1
  have := (lastN_max (e := P.ek) (i := i) P.N).2 j.toNat (by omega) (by have := eq_of_beq h2; omega)
  have : j.toNat ≤ P.lastI i := this
  omega
theorem due_all : (P.toldL.map fun p => PyData.tuple [.str p.1, p.2]) = P.dueD P.N := by
  unfold LP.toldL LP.dueD LP.firsts
  rw [List.map_map]; rfl
theorem LP.Ok.ap_all (hP : P.Ok) : P.apI P.N = P.counts := by
  unfold LP.apI LP.counts
  exact List.map_congr_left fun i hi => by rw [hP.comb.gaps i hi]
theorem cnt_pos {i : Nat} (hi : i < P.N) : 1 ≤ P.cnt i := by
  unfold LP.cnt cntN
  refine List.length_pos_of_mem (a := i) (List.mem_filter.mpr ⟨List.mem_range.mpr hi, Nat.beq_refl _⟩)
theorem LP.Ok.gap_int (hP : P.Ok) {i : Nat} (hi : i ∈ P.firsts) : (((P.bk ++ [P.N]).getD (P.ek i) 0 : Nat) : Int) - (P.bk.getD (P.ek i - 1) 0 : Nat) = (P.gap i : Int) := by
  have h1 := hP.comb.gaps i hi
  have h2 := cnt_pos (mem_firsts.mp hi).1
  have h3 : P.gap i = (P.bk ++ [P.N]).getD (P.ek i) 0 - P.bk.getD (P.ek i - 1) 0 := rfl
  omega
theorem piece_lt (hP : P.Ok) {i : Nat} : ∀ c ∈ P.piece i, c < 256 := fun c hc => by have := hP.tx_lt (piece_mem hc); omega
theorem num_lt (k : Nat) (h : k < 13) : ∀ c ∈ num k, c < 128 := by
  unfold num
  intro c hc
  split at hc
  · simp at hc; omega
  · simp at hc; omega
theorem unv_lt (hP : P.Ok) {i : Nat} (h : i < 13) : ∀ c ∈ P.unv i, c < 256 := by
  have ht := hP.tag_lt
  have hn := num_lt i h
  intro c hc
  have : c ∈ P.tag ∨ c = 61 ∨ c ∈ num i ∨ c = 34 := by
    unfold LP.unv LP.val at hc
    split at hc
    · simp only [List.mem_append, List.mem_cons] at hc
      rcases hc with q | q | q
      · exact .inl (List.mem_append_right _ q)
      · exact .inr (.inl q)
      · exact .inr (.inr (.inl q))
    · simp only [List.mem_append, List.mem_cons] at hc
      rcases hc with q | q | q | q
      · exact .inl q
      · exact .inr (.inl q)
      · exact .inr (.inr (.inl q))
      · unfold mark at q
        split at q
        · exact .inr (.inr (.inr (List.mem_singleton.mp q)))
        · cases q
  rcases this with q | q | q | q
  · have := ht c q; omega
  · omega
  · have := hn c q; omega
  · omega
theorem pairs_lay (l : List (List Nat × List Nat)) (h : ∀ p ∈ l, (∀ c ∈ p.1, c < 256) ∧ ∀ c ∈ p.2, c < 256) : SeqAt.shaped (.list (l.map fun p => PyData.tuple [.str (ofL p.1), .str (ofL p.2)])) = true := by
  unfold SeqAt.shaped
  rw [Bool.and_eq_true]
  constructor
  · show PyData.canLayAll0 _ = true
    induction l with
    | nil => rfl
    | cons x r ih =>
      have hx := h x (List.mem_cons_self ..)
      show ((PyData.strOk (ofL x.1) && (PyData.strOk (ofL x.2) && true)) && PyData.canLayAll0 (r.map fun p => PyData.tuple [.str (ofL p.1), .str (ofL p.2)])) = true
      rw [ih fun p hp => h p (List.mem_cons_of_mem _ hp), strOk_ofL hx.1, strOk_ofL hx.2]; rfl
  · refine decide_eq_true ?_
    show PyData.depthAll _ + 1 ≤ 64
    have : PyData.depthAll (l.map fun p => PyData.tuple [.str (ofL p.1), .str (ofL p.2)]) ≤ 1 := by
      clear h
      induction l with
      | nil => exact Nat.zero_le _
      | cons x r ih =>
        show max _ (PyData.depthAll (r.map fun p => PyData.tuple [.str (ofL p.1), .str (ofL p.2)])) ≤ 1
        exact Nat.max_le.mpr ⟨by show max 0 (max 0 0) + 1 ≤ 1; decide, ih⟩
    omega
theorem LP.Ok.due_shaped (hP : P.Ok) : SeqAt.shaped (.list (P.dueD P.N)) = true := by
  have sm := hP.small
  have := pairs_lay ((firstsN P.ek P.N).map fun i => (P.piece i, P.unv (P.lastI i))) fun p hp => by
    obtain ⟨i, hi, rfl⟩ := List.mem_map.mp hp
    exact ⟨piece_lt hP, unv_lt hP (by have := lastI_lt (mem_firsts.mp hi).1; omega)⟩
  rw [List.map_map] at this
  exact this
theorem unv_sum (i : Nat) : P.unv i = (if P.q = true ∧ i % 2 = 0 then [] else P.fore) ++ P.fig ++ [61] ++ num i ++ (if P.q = true ∧ i % 2 = 0 then [] else mark i) := by
  unfold LP.unv LP.val LP.tag
  split <;> simp
end Mine
end
section
open PySem PySem.W PyProof.Rows
set_option autoImplicit false
set_option linter.unusedVariables false
set_option maxRecDepth 100000
namespace Mine

noncomputable def r4 (P : LP) : Rho := upd (upd (upd (upd (upd (upd (upd (upd (fun _ => none) "size" (.d (.int P.N))) "fore" (.d (.str (ofL P.fore)))) "wide" (.d (.int P.n)))
  "octet" (.d (.int P.oct))) "figures" (.d (.str (ofL P.fig)))) "text" (.d (.str (ofL P.tx)))) "letter" (.d (.str (ofL P.letter)))) "parts" (.pl (P.words.map .str))
/-- in the loop -/
noncomputable def r5 (P : LP) (dA aA : Addr) : Rho := upd (upd (upd (upd (upd (upd (r4 P) "told" (.k P.toldL)) "counts" (.pl (P.counts.map .int))) "back" (.pl (P.bkI.map .int))) "kinds" (.pl (P.kindsI.map .int))) "due" (.r (.ref dA))) "apart" (.r (.ref aA))

theorem bk_some {P : LP} {k : Nat} (h : k < P.n + 1) : (P.bkI.map PyData.int)[k]? = some (.int (P.bk.getD k 0 : Nat)) := by
  have hb := bk_len (P := P)
  unfold LP.bkI
  rw [List.map_map, List.getElem?_map, List.getD_eq_getElem?_getD, List.getElem?_eq_getElem (by omega)]; rfl
theorem bkN_some {P : LP} {k : Nat} (h : k ≤ P.n + 1) : (P.bkI.map PyData.int ++ [.int P.N])[k]? = some (.int ((P.bk ++ [P.N]).getD k 0 : Nat)) := by
  have hb := bk_len (P := P)
  have e : P.bkI.map PyData.int ++ [.int P.N] = (P.bk ++ [P.N]).map fun (i : Nat) => PyData.int i := by
    unfold LP.bkI
    rw [List.map_map, List.map_append]; rfl
  rw [e, List.getElem?_map, List.getD_eq_getElem?_getD, List.getElem?_eq_getElem (by simp; omega)]; rfl
theorem kinds_some {P : LP} {k : Nat} (h : k < P.N) : (P.kindsI.map PyData.int)[k]? = some (.int (P.ek k)) := by
  unfold LP.kindsI
  rw [List.map_map, List.getElem?_map, List.getElem?_range h]; rfl

theorem ends_eqv {P : LP} (k : Nat) : PyData.eqv (.list [.str (ofL P.fore), .str (ofL (mark k))]) (.list [.str (PySem.Str.ofString "\""), .str (PySem.Str.ofString "\"")]) = decide (P.q = true ∧ k % 2 = 0) := by
  unfold LP.fore mark
  by_cases h1 : P.q = true
  · by_cases h2 : k % 2 = 0
    · rw [if_pos h1, if_pos h2, decide_eq_true ⟨h1, h2⟩]; decide +kernel
    · rw [if_pos h1, if_neg h2, decide_eq_false fun q => h2 q.2]; decide +kernel
  · by_cases h2 : k % 2 = 0
    · rw [if_neg h1, if_pos h2, decide_eq_false fun q => h1 q.1]; decide +kernel
    · rw [if_neg h1, if_neg h2, decide_eq_false fun q => h1 q.1]; decide +kernel

theorem segD {b : Base} (T : TopOk b) {P : LP} (hP : P.Ok) {A : Around} {L a : Addr} {pm code doc : Value} {s₀ : Shared} {M0 : List Addr} {n : Nat} (ok : CxOk b n (cL A pm code doc L a)) (hn : 8 ≤ n) {K : Rho → Mus → Prop} {R : LV → Prop}
    (h : Ex b (cL A pm code doc L a) s₀ M0 [] (r4 P) [] ((bodyOf (S 35)).drop 28) K R) :
    Ex b (cL A pm code doc L a) s₀ M0 [] (r3 P) [] ((bodyOf (S 35)).drop 24) K R := by
  have sm := hP.small
  have cb := hP.comb
  have hsz : 200000 ≤ sizeLine := by decide
  have hkl : P.kindsI.length = P.N := by unfold LP.kindsI; simp
  have hbl := bkI_len (P := P)
  have htxl : (ofL P.tx).length = P.T := by rw [len_ofL, tx_len]
  have hTe : P.T = P.N * P.n + P.e := rfl
  have hfig : P.fig.length = 2 := rfl
  have hfo := fore_len (P := P)
  refine Ex.newList ok (.inl (by kernel_rfl)) fun dA => ?_
  refine Ex.newList ok (.inl (by kernel_rfl)) fun aA => ?_
  refine Ex.sx (Sx.for ok (xs := (rangeI 0 P.N).map .int) (Src.r1 ok (by omega) (by omega) (Ev.bi ok T.base T.n_range) (.one (Ev.v ok))) (.inr ⟨by kernel_rfl, by kernel_rfl⟩) (by intro _; rfl) (by intro _ _; rfl)
    (fun k ρ' mus' => Le (r5 P dA aA) ρ' ∧ mus' = [(aA, .lst ((P.apI k).map .int)), (dA, .lst (P.dueD k))]) ⟨?_, rfl⟩ (by rintro k ρ' mus' ⟨_, rfl⟩; rfl) ?_ ?_)
  · unfold r5 r4
    exact Le.put (Le.put (Le.put (Le.put (Le.put (Le.put (Le.put (Le.put (Le.put (Le.put (Le.put (Le.put (Le.put (Le.put Le.none (by kernel_rfl)) (by kernel_rfl)) (by kernel_rfl)) (by kernel_rfl)) (by kernel_rfl)) (by kernel_rfl)) (by kernel_rfl)) (by kernel_rfl)) (by kernel_rfl)) (by kernel_rfl)) (by kernel_rfl)) (by kernel_rfl)) (by kernel_rfl)) (by kernel_rfl)
  · rintro G' I o k d ρ' mus' hk ⟨hle, rfl⟩
    have hkN : k < P.N := by
      have := (List.getElem?_eq_some_iff.mp hk).1
      rw [List.length_map, rangeI_len] at this; omega
    have hd : d = .int (k : Int) := by
      unfold rangeI at hk
      rw [List.map_map, List.getElem?_map, List.getElem?_range (by omega)] at hk
      have := Option.some.inj hk
      rw [← this]
      show PyData.int (0 + (k : Int)) = _
      rw [Int.zero_add]
    subst hd
    refine Ex.le (Le.upd hle) ?_
    have hek := cb.rng k
    have hwk : P.n * k ≤ 6 * 13 := Nat.mul_le_mul sm.2.2.2.2 (by omega)
    have hwk2 : (k + 1) * P.n ≤ P.N * P.n := Nat.mul_le_mul_right _ hkN
    have hwk3 : (k + 1) * P.n = P.n * k + P.n := by rw [Nat.succ_mul, Nat.mul_comm]
    refine Ex.ifThen (t := (List.range k).all fun j => !(Nat.beq (P.ek j) (P.ek k))) (Te.cast (Te.cmp ok (Ev.sub ok (Ev.weak (Ev.v ok)) (Ev.v ok) (Gop.list _ k (.int (P.ek k)) (kinds_some hkN) (by omega)) (fun o i => ⟨_, rfl⟩)) (Ev.weak (Ev.cast (Ev.sliceP (k := k) (Ev.weak (Ev.v ok)) (Ev.v ok) (by rw [List.length_map]; omega) (by rw [List.length_map]; omega)) (congrArg LV.pl (kinds_take (by omega))))) (Cop.notInL (.int (P.ek k)) ((List.range k).map fun j => PyData.int (P.ek j)) ?_ rfl ?_) rfl) (new_kind k)) (fun ht => ?_) (fun ht => ?_)
    · have := canLayAll_ints ((List.range k).map fun j => (P.ek j : Int))
      rw [List.map_map] at this
      exact this
    · have := PyProof.Rows.depthAll_ints ((List.range k).map fun j => (P.ek j : Int))
      rw [List.map_map] at this
      exact Nat.le_trans (Nat.min_le_left _ _) (by show PyData.depthAll ((List.range k).map (PyData.int ∘ fun j => (P.ek j : Int))) ≤ 100; rw [this]; decide)
    · have hf : firstsN P.ek (k + 1) = firstsN P.ek k ++ [k] := by rw [firsts_succ, if_pos ht]
      have hkf : k ∈ P.firsts := List.mem_filter.mpr ⟨List.mem_range.mpr hkN, ht⟩
      have hl13 : P.lastI k < P.N := lastI_lt hkN
      have hdueL : (P.dueD k).length ≤ sizeLine := by
        unfold LP.dueD firstsN
        rw [List.length_map]
        have := List.length_filter_le (fun i => (List.range i).all fun j => !(Nat.beq (P.ek j) (P.ek i))) (List.range k)
        rw [List.length_range] at this; omega
      have hapL : ((P.apI k).map PyData.int).length ≤ sizeLine := by
        unfold LP.apI firstsN
        rw [List.length_map, List.length_map]
        have := List.length_filter_le (fun i => (List.range i).all fun j => !(Nat.beq (P.ek j) (P.ek i))) (List.range k)
        rw [List.length_range] at this; omega
      have hdue1 : P.dueD k ++ [.tuple [.str (ofL (P.piece k)), .str (ofL (P.unv (P.lastI k)))]] = P.dueD (k + 1) := by
        unfold LP.dueD; rw [hf, List.map_append]; rfl
      have hap1 : (P.apI k).map PyData.int ++ [.int (P.gap k : Int)] = (P.apI (k + 1)).map .int := by
        unfold LP.apI; rw [hf, List.map_append, List.map_append]; rfl
      -- last
      refine Ex.a ok (l := .d (.int (P.lastI k))) ?_ ?_
      · refine Ev.callB ok (Ev.bi ok T.base T.n_max) (.one (Ev.weak (Ev.compI ok ["kinds", "i"] (xs := rangeI 0 P.N) (Src.r1 ok (by omega) (by omega) (Ev.bi ok T.base T.n_range) (.one (Ev.v ok))) (by rw [rangeI_len]; omega) (fun j => ((P.ek j.toNat : Int) == (P.ek k : Int))) .int fun C j hj ok' => ⟨.one ?_, fun _ => ⟨rfl, Ev.v ok'⟩⟩))) (Cal.max _ _ (last_mem hkN) last_max)
        obtain ⟨h0, h1⟩ := mem_rangeI hj
        obtain ⟨q, rfl⟩ : ∃ q : Nat, j = q := ⟨j.toNat, by omega⟩
        exact Te.cmp ok' (Ev.sub ok' (Ev.weak (Ev.v ok')) (Ev.v ok') (Gop.list _ q (.int (P.ek q)) (kinds_some (by omega)) (by omega)) (fun o i => ⟨_, rfl⟩)) (Ev.sub ok' (Ev.weak (Ev.v ok')) (Ev.v ok') (Gop.list _ k (.int (P.ek k)) (kinds_some hkN) (by omega)) (fun o i => ⟨_, rfl⟩)) (Cop.eq _ _) rfl
      have hmod : ((P.lastI k : Int).fmod 2) = ((P.lastI k % 2 : Nat) : Int) := by rw [Int.fmod_eq_emod_of_nonneg _ (by decide)]; rfl
      have hM := mark_ok (P.lastI k) (by omega)
      refine Ex.a ok (l := .pl [.str (ofL P.fore), .str (ofL (mark (P.lastI k)))]) ?_ ?_
      · exact Ev.listP (.cons (Ev.v ok) rfl (.cons (Ev.sub ok (Ev.listD (.cons Ev.s rfl (.cons Ev.s rfl .nil)) (by show 2 ≤ sizeLine; omega)) (Ev.cast (Ev.bin ok (Ev.v ok) Ev.i (Bop.mod _ 2 (by decide))) (congrArg (fun x => LV.d (.int x)) hmod)) (Gop.list _ (P.lastI k % 2) (.str (ofL (mark (P.lastI k)))) hM (by omega)) (fun o i => ⟨_, rfl⟩)) rfl .nil)) (by show 2 ≤ sizeLine; omega)
      have hus := unv_sum (P := P) (P.lastI k)
      have hee := ends_eqv (P := P) (P.lastI k)
      generalize hx : (if P.q = true ∧ P.lastI k % 2 = 0 then [] else P.fore) = x at hus
      generalize hy : (if P.q = true ∧ P.lastI k % 2 = 0 then [] else mark (P.lastI k)) = y at hus
      have hml : (mark (P.lastI k)).length ≤ 1 := by unfold mark; split <;> simp
      have hxl : x.length ≤ 1 := by
        rw [← hx]
        split
        · exact Nat.zero_le _
        · exact hfo
      have hyl : y.length ≤ 1 := by
        rw [← hy]
        split
        · exact Nat.zero_le _
        · exact hml
      have hsl : SeqAt.shaped (.list [.str (ofL P.fore), .str (ofL (mark (P.lastI k)))]) = true := by
        have := shaped_strs [P.fore, mark (P.lastI k)] (by
          intro w hw c hc
          rcases List.mem_cons.mp hw with rfl | hw
          · unfold LP.fore at hc; split at hc <;> simp at hc; omega
          · obtain rfl := List.mem_singleton.mp hw
            unfold mark at hc; split at hc <;> simp at hc; omega)
        exact this
      refine Ex.cons (K1 := fun ρ' mus' => Le (upd (upd (upd (r5 P dA aA) "i" (.d (.int (k : Int)))) "last" (.d (.int (P.lastI k)))) "ends" (.pl [.str (ofL x), .str (ofL y)])) ρ' ∧ mus' = (I, .obj o) :: [(aA, .lst ((P.apI k).map .int)), (dA, .lst (P.dueD k))])
        (Sx.ite (t := decide (P.q = true ∧ P.lastI k % 2 = 0)) (Te.cast (Te.cmp ok (Ev.weak (Ev.v ok)) (Ev.listD (.cons Ev.s rfl (.cons Ev.s rfl .nil)) (by show 2 ≤ sizeLine; omega)) (Cop.eqd (.list [.str (ofL P.fore), .str (ofL (mark (P.lastI k)))]) (.list [.str (PySem.Str.ofString "\""), .str (PySem.Str.ofString "\"")]) hsl (by decide +kernel)) rfl) hee) (fun q => ?_) (fun q => ?_)) ?_
      · have q := of_decide_eq_true q
        rw [if_pos q] at hx hy
        subst hx; subst hy
        refine Ex.a ok (l := .pl [.str (ofL []), .str (ofL [])]) (Ev.listP (.cons Ev.s rfl (.cons Ev.s rfl .nil)) (by show 2 ≤ sizeLine; omega)) (Ex.nil ⟨?_, rfl⟩)
        exact Le.upd (Le.past (Le.refl _) (by kernel_rfl))
      · have q := of_decide_eq_false q
        rw [if_neg q] at hx hy
        subst hx; subst hy
        exact Ex.nil ⟨Le.refl _, rfl⟩
      rintro ρ2 mus2 ⟨hle2, rfl⟩
      refine Ex.le hle2 ?_
      have hpl := piece_len (P := P) (i := k)
      have hnl : (num (P.lastI k)).length ≤ 2 := by unfold num; split <;> simp
      have hpiece : Txt.slice (ofL P.tx) (some ((P.n : Int) * k)) (some ((P.n : Int) * k + P.n)) = ofL (P.piece k) := by
        apply tl_inj
        have e : (P.n : Int) * (k : Int) = ((P.n * k : Nat) : Int) := (Int.natCast_mul _ _).symm
        rw [e, slice_plain _ ⟨by omega, by omega, by omega⟩, tl_ofL, tl_ofL, Int.toNat_natCast]
        unfold LP.piece
        rw [Nat.mul_comm k P.n]
        congr 1; omega
      refine Ex.appendM ok (l₁ := [(I, .obj o), (aA, .lst ((P.apI k).map .int))]) (l₂ := []) (a := dA) (d := .tuple [.str (ofL (P.piece k)), .str (ofL (P.unv (P.lastI k)))]) (by kernel_rfl) (by decide) (by rfl) (by rfl) (.one (Ev.tupleD (.cons (Ev.cast (Ev.sliceStr (lo := some ((P.n : Int) * k)) (hi := some ((P.n : Int) * k + P.n)) (Ev.v ok) ?_ ?_ ?_) (congrArg (fun x => LV.d (.str x)) hpiece)) rfl (.cons ?_ rfl .nil)) (by show 2 ≤ sizeLine; omega))) hdueL ?_
      · exact Ev.bin ok (Ev.v ok) (Ev.v ok) (Bop.mul _ _ (mulOk_small (by omega) (by omega)))
      · exact Ev.bin ok (Ev.bin ok (Ev.v ok) (Ev.v ok) (Bop.mul _ _ (mulOk_small (by omega) (by omega)))) (Ev.v ok) (Bop.add _ _)
      · omega
      · refine Ev.cast (Ev.bin ok (Ev.bin ok (Ev.bin ok (Ev.bin ok (Ev.sub ok (Ev.weak (Ev.v ok)) Ev.i (Gop.list [.str (ofL x), .str (ofL y)] 0 (.str (ofL x)) rfl (by decide)) (fun o i => ⟨_, rfl⟩)) (Ev.v ok) (Bop.cat _ _ ?_)) Ev.s (Bop.cat _ _ ?_))
          (Ev.cast (Ev.callT ok (Ev.bi ok T.base T.n_str) (.one (Ev.v ok)) (Cal.strI _ ?_)) (congrArg (fun x => LV.d (.str x)) (num_str (P.lastI k) (by omega)))) (Bop.cat _ _ ?_)) (Ev.sub ok (Ev.weak (Ev.v ok)) Ev.i (Gop.list [.str (ofL x), .str (ofL y)] 1 (.str (ofL y)) rfl (by decide)) (fun o i => ⟨_, rfl⟩)) (Bop.cat _ _ ?_)) ?_
        · rw [len_ofL, len_ofL]; omega
        · rw [ofL_app, len_ofL, List.length_append]; show _ + 1 ≤ _; omega
        · have : ∀ j : Nat, j ≤ 13 → ((j : Int)).natAbs.log2 < 1920 := by decide
          exact this _ (by omega)
        · show (ofL x ++ ofL P.fig ++ ofL [61]).length + _ ≤ _
          rw [ofL_app, ofL_app, len_ofL, len_ofL, List.length_append, List.length_append]; show _ + 1 + _ ≤ _; omega
        · show (ofL x ++ ofL P.fig ++ ofL [61] ++ ofL (num (P.lastI k))).length + _ ≤ _
          rw [ofL_app, ofL_app, ofL_app, len_ofL, len_ofL, List.length_append, List.length_append, List.length_append]; show _ + 1 + _ + _ ≤ _; omega
        · show LV.d (.str (ofL x ++ ofL P.fig ++ ofL [61] ++ ofL (num (P.lastI k)) ++ ofL y)) = _
          rw [ofL_app, ofL_app, ofL_app, ofL_app, hus]
      rw [hdue1]
      have hgap := hP.gap_int hkf
      have hek1 : (P.ek k : Int) - 1 = ((P.ek k - 1 : Nat) : Int) := by omega
      refine Ex.appendM ok (l₁ := [(I, .obj o)]) (l₂ := [(dA, .lst (P.dueD (k + 1)))]) (a := aA) (d := .int (P.gap k : Int)) (by kernel_rfl) (by decide) (by rfl) (by rfl) (.one (Ev.cast (Ev.bin ok (Ev.sub ok (Ev.weak (Ev.addP ok (Ev.v ok) (Ev.listP (.cons (Ev.v ok) rfl .nil) (by show 1 ≤ sizeLine; omega)) (by rw [List.length_map]; show _ + 1 ≤ _; omega))) (Ev.sub ok (Ev.weak (Ev.v ok)) (Ev.v ok) (Gop.list _ k (.int (P.ek k)) (kinds_some hkN) (by omega)) (fun o i => ⟨_, rfl⟩)) (Gop.list _ (P.ek k) _ (bkN_some hek.2) (by omega)) (fun o i => ⟨_, rfl⟩))
        (Ev.sub ok (Ev.weak (Ev.v ok)) (Ev.cast (Ev.bin ok (Ev.sub ok (Ev.weak (Ev.v ok)) (Ev.v ok) (Gop.list _ k (.int (P.ek k)) (kinds_some hkN) (by omega)) (fun o i => ⟨_, rfl⟩)) Ev.i (Bop.sub _ _)) (congrArg (fun x => LV.d (.int x)) hek1)) (Gop.list _ (P.ek k - 1) _ (bk_some (by omega)) (by omega)) (fun o i => ⟨_, rfl⟩)) (Bop.sub _ _)) (congrArg (fun x => LV.d (.int x)) hgap))) hapL ?_
      rw [hap1]
      refine Ex.nil (Ex.nil ⟨_, rfl, ?_, rfl⟩)
      exact Le.past (Le.past (Le.past (Le.refl _) (by kernel_rfl)) (by kernel_rfl)) (by kernel_rfl)
    · have hf : firstsN P.ek (k + 1) = firstsN P.ek k := by rw [firsts_succ, if_neg (by rw [ht]; decide), List.append_nil]
      refine Ex.nil ⟨_, rfl, Le.past (Le.refl _) (by kernel_rfl), ?_⟩
      unfold LP.apI LP.dueD
      rw [hf]
  · rintro ρ' mus' ⟨hle, rfl⟩
    rw [List.length_map, rangeI_len, show ((P.N : Int) - 0).toNat = P.N by omega]
    refine Ex.le hle ?_
    refine Ex.freeze (x := "apart") (l₁ := []) (l₂ := [(dA, .lst (P.dueD P.N))]) (by kernel_rfl) ?_
    refine Ex.freeze (x := "due") (l₁ := []) (l₂ := []) (by kernel_rfl) ?_
    have hst : P.toldL.length ≤ sizeLine := by unfold LP.toldL; rw [List.length_map, cb.kinds]; omega
    have sh1 := hP.due_shaped
    have sh2 := ke_shaped_ints P.counts
    refine Ex.skip (Te.or (.cons (t := false) (u := false) (Te.cast (Te.cmp ok (Ev.cast (Ev.itemsList ok (Ev.bi ok T.base T.n_list) (Ev.v ok) hst (by rfl) (by rfl)) (by rw [due_all])) (Ev.weak (Ev.v ok)) (Cop.ned _ _ sh1 sh1) rfl) ?_) fun _ => .cons (t := false) (u := false) (Te.cast (Te.cmp ok (Ev.weak (Ev.v ok)) (Ev.weak (Ev.v ok)) (Cop.ned (.list (P.counts.map .int)) (.list ((P.apI P.N).map .int)) sh2 (by rw [hP.ap_all]; exact sh2)) rfl) ?_) fun _ => .nil)) (Ex.le ?_ h)
    · rw [eqv_self sh1]; rfl
    · rw [hP.ap_all, eqv_self sh2]; rfl
    · unfold r4
      exact Le.put (Le.put (Le.put (Le.put (Le.put (Le.put (Le.put (Le.put Le.none (by kernel_rfl)) (by kernel_rfl)) (by kernel_rfl)) (by kernel_rfl)) (by kernel_rfl)) (by kernel_rfl)) (by kernel_rfl)) (by kernel_rfl)
end Mine
end
section
open PySem PySem.Sre
set_option autoImplicit false
set_option linter.unusedVariables false
namespace Mine
/-! the search for `=` and two figures of sixteen -/
noncomputable def codeN : Array Nat := #[14, 8, 1, 3, 3, 1, 1, 61, 0, 16, 61, 24, 16, 2, 2, 13, 11, 9, 0, 67043328, 126, 126, 0, 0, 0, 0, 0, 1, 1]
noncomputable def hexC (c : Nat) : Bool := (decide (48 ≤ c) && decide (c ≤ 57)) || (decide (65 ≤ c) && decide (c ≤ 70)) || (decide (97 ≤ c) && decide (c ≤ 102))
theorem bits : ∀ c, c < 256 → (codeN.getD (17 + (1 + c / 32)) 0).testBit (c % 32) = hexC c := by decide +kernel
theorem hex_big {c : Nat} (h : 256 ≤ c) : hexC c = false := by
  unfold hexC
  rw [decide_eq_false (show ¬ c ≤ 57 by omega), decide_eq_false (show ¬ c ≤ 70 by omega), decide_eq_false (show ¬ c ≤ 102 by omega)]
  simp
theorem acc_hex (c : Nat) (seen : Seen) : ∃ seen', accepts codeN 15 c seen = .ok (hexC c, seen') := by
  show ∃ seen', inSet codeN c 29 17 true seen = .ok (hexC c, seen')
  have e1 : ops[codeN.getD (17 + 0) 0]? = some .CHARSET := by rfl
  by_cases hc : c < 256
  · have hb := bits c hc
    cases hh : hexC c
    · rw [hh] at hb
      refine ⟨(seen.add (codeN.getD (17 + 0) 0)).add 0, ?_⟩
      unfold inSet
      simp only [e1, hb, Bool.and_false, Bool.false_eq_true, if_false]
      rfl
    · rw [hh] at hb
      refine ⟨seen.add (codeN.getD (17 + 0) 0), ?_⟩
      unfold inSet
      simp only [e1, hb, hc, decide_true, Bool.and_true, if_true]
  · rw [hex_big (by omega)]
    refine ⟨(seen.add (codeN.getD (17 + 0) 0)).add 0, ?_⟩
    unfold inSet
    simp only [e1, hc, decide_false, Bool.false_and, Bool.false_eq_true, if_false]
    rfl
theorem acc_eq (c : Nat) (seen : Seen) : accepts codeN 9 c seen = .ok (c == 61, seen) := by rfl

noncomputable def mk (text : Array Nat) (lim start last pc pos handed : Nat) (must out : Bool) (frames : List Sre.Frame) (weight : Nat) (answer : Option Bool) (seen : Seen) : M :=
  { code := codeN, text, lim, start, lastStart := last, mustAdvance := must, pc, pos, handed, outermost := out, marks := #[], frames, weight, answer, seen }

section
variable {text : Array Nat} {lim start last pos handed weight : Nat} {must out : Bool} {frames : List Sre.Frame} {seen : Seen}
theorem step_lit : ∃ seen', (mk text lim start last 9 pos handed must out frames weight none seen).step =
    (if pos < lim ∧ text.getD pos 0 = 61 then mk text lim start last 11 (pos + 1) handed must out frames weight none seen' else mk text lim start last 9 pos handed must out frames weight (some false) seen') := by
  refine ⟨seen.add 16, ?_⟩
  show (if 9 < codeN.size then M.exec (mk text lim start last 9 pos handed must out frames weight none seen) else M.stick (mk text lim start last 9 pos handed must out frames weight none seen) "code:ran-off") = _
  rw [if_pos (by decide)]
  show (if pos ≥ lim then M.say (mk text lim start last 9 pos handed must out frames weight none (seen.add 16)) false else
    match accepts codeN 9 (text.getD pos 0) (seen.add 16) with
    | .error why => M.stick (mk text lim start last 9 pos handed must out frames weight none (seen.add 16)) why
    | .ok (false, s) => M.say { mk text lim start last 9 pos handed must out frames weight none (seen.add 16) with seen := s } false
    | .ok (true, s) => { mk text lim start last 9 pos handed must out frames weight none (seen.add 16) with seen := s, pc := 9 + itemWidth codeN 9, pos := pos + 1 }) = _
  rw [acc_eq]
  by_cases h1 : pos ≥ lim
  · rw [if_pos h1, if_neg (by omega)]; rfl
  · rw [if_neg h1]
    cases h2 : text.getD pos 0 == 61
    · have : ¬ text.getD pos 0 = 61 := fun e => by rw [e] at h2; cases h2
      rw [if_neg (fun q => this q.2)]; rfl
    · have : text.getD pos 0 = 61 := eq_of_beq h2
      rw [if_pos ⟨by omega, this⟩]; rfl

noncomputable def kept0 : Sre.Kept := { lastmark := -1, lastindex := -1, whole := false, marks := #[] }
noncomputable def gbFrame (pos : Nat) (out : Bool) : Sre.Frame := { wait := .giveBack, pc := 11, pos, outermost := out, count := 2, kept := kept0 }
noncomputable def nsFrame (pos : Nat) (out : Bool) : Sre.Frame := { wait := .nextStart, pc := 9, pos, outermost := out }
theorem run_two (seen : Seen) : ∃ seen' n, Sre.run codeN text 15 2 pos 0 seen = .ok (n, seen') ∧ (n < 2 ↔ ¬ (hexC (text.getD pos 0) = true ∧ hexC (text.getD (pos + 1) 0) = true)) ∧ n ≤ 2 := by
  obtain ⟨s1, h1⟩ := acc_hex (text.getD pos 0) seen
  obtain ⟨s2, h2⟩ := acc_hex (text.getD (pos + 1) 0) s1
  unfold Sre.run
  rw [h1]
  cases e1 : hexC (text.getD pos 0)
  · exact ⟨s1, 0, rfl, by simp, by decide⟩
  · show ∃ seen' n, (if true = true then Sre.run codeN text 15 1 (pos + 1) (0 + 1) s1 else Except.ok (0, s1)) = Except.ok (n, seen') ∧ (n < 2 ↔ ¬ (true = true ∧ hexC (text.getD (pos + 1) 0) = true)) ∧ n ≤ 2
    rw [if_pos rfl]
    unfold Sre.run
    rw [h2]
    cases e2 : hexC (text.getD (pos + 1) 0)
    · exact ⟨s2, 1, rfl, by simp, by decide⟩
    · exact ⟨s2, 2, rfl, by simp, by decide⟩
theorem step_rep (hw : weight ≤ 100) : ∃ seen', (mk text lim start last 11 pos handed must out frames weight none seen).step =
    (if pos + 2 ≤ lim ∧ hexC (text.getD pos 0) = true ∧ hexC (text.getD (pos + 1) 0) = true then mk text lim start last 28 (pos + 2) (pos + 2) must out (gbFrame (pos + 2) out :: frames) (weight + 1) none seen'
     else mk text lim start last 11 pos handed must out frames weight (some false) seen') := by
  by_cases hr : pos + 2 ≤ lim
  · obtain ⟨s', n, h1, h2, h3⟩ := run_two (text := text) (pos := pos) ((seen.add 24).add 13)
    refine ⟨s', ?_⟩
    show (if 11 < codeN.size then M.exec (mk text lim start last 11 pos handed must out frames weight none seen) else M.stick (mk text lim start last 11 pos handed must out frames weight none seen) "code:ran-off") = _
    rw [if_pos (by decide)]
    show (if (2 : Int) > (lim : Int) - pos then M.say (mk text lim start last 11 pos handed must out frames weight none (seen.add 24)) false else
      match Sre.run codeN text 15 (min 2 ((lim : Int) - pos).toNat) pos 0 ((seen.add 24).add 13) with
      | .error why => M.stick (mk text lim start last 11 pos handed must out frames weight none (seen.add 24)) why
      | .ok (n, s) => if n < 2 then M.say (mk text lim start last 11 pos handed must out frames weight none s) false
        else M.afterRun (mk text lim start last 11 (pos + n) handed must out frames weight none s) .giveBack n (M.keep (mk text lim start last 11 (pos + n) handed must out frames weight none s) false)) = _
    rw [if_neg (by omega), show min 2 ((lim : Int) - pos).toNat = 2 by omega, h1]
    show (if n < 2 then M.say (mk text lim start last 11 pos handed must out frames weight none s') false
        else M.afterRun (mk text lim start last 11 (pos + n) handed must out frames weight none s') .giveBack n (M.keep (mk text lim start last 11 (pos + n) handed must out frames weight none s') false)) = _
    by_cases hn : n < 2
    · rw [if_pos hn, if_neg (fun q => h2.mp hn q.2)]; rfl
    · have hh : hexC (text.getD pos 0) = true ∧ hexC (text.getD (pos + 1) 0) = true := Classical.not_not.mp fun q => hn (h2.mpr q)
      have e : n = 2 := by omega
      subst e
      rw [if_neg hn, if_pos ⟨hr, hh⟩]
      show (if weight + 1 + 0 > 16777216 then M.stick (mk text lim start last 11 (pos + 2) handed must out frames weight none s') "frames:memory" else mk text lim start last 28 (pos + 2) (pos + 2) must out (gbFrame (pos + 2) out :: frames) (weight + 1) none s') = _
      rw [if_neg (by omega)]
  · refine ⟨seen.add 24, ?_⟩
    show (if 11 < codeN.size then M.exec (mk text lim start last 11 pos handed must out frames weight none seen) else M.stick (mk text lim start last 11 pos handed must out frames weight none seen) "code:ran-off") = _
    rw [if_pos (by decide)]
    show (if (2 : Int) > (lim : Int) - pos then M.say (mk text lim start last 11 pos handed must out frames weight none (seen.add 24)) false else
      match Sre.run codeN text 15 (min 2 ((lim : Int) - pos).toNat) pos 0 ((seen.add 24).add 13) with
      | .error why => M.stick (mk text lim start last 11 pos handed must out frames weight none (seen.add 24)) why
      | .ok (n, s) => if n < 2 then M.say (mk text lim start last 11 pos handed must out frames weight none s) false
        else M.afterRun (mk text lim start last 11 (pos + n) handed must out frames weight none s) .giveBack n (M.keep (mk text lim start last 11 (pos + n) handed must out frames weight none s) false)) = _
    rw [if_pos (by omega), if_neg (fun q => hr q.1)]; rfl
theorem step_succ (hp : (pos == start) = false) : (mk text lim start last 28 pos handed must out frames weight none seen).step = mk text lim start last 28 pos pos must out frames weight (some true) (seen.add 1) := by
  show (if 28 < codeN.size then M.exec (mk text lim start last 28 pos handed must out frames weight none seen) else M.stick (mk text lim start last 28 pos handed must out frames weight none seen) "code:ran-off") = _
  rw [if_pos (by decide)]
  show (if (out && ((false && pos != lim) || (must && pos == start))) = true then M.say (mk text lim start last 28 pos handed must out frames weight none (seen.add 1)) false else
    M.say { mk text lim start last 28 pos handed must out frames weight none (seen.add 1) with handed := pos } true) = _
  rw [hp]
  simp only [Bool.false_and, Bool.and_false, Bool.or_false, Bool.false_eq_true, if_false]
  rfl
theorem step_pop_give {pc p o} : (mk text lim start last pc pos handed must out (gbFrame p o :: frames) weight (some true) seen).step = mk text lim start last 11 p handed must o frames (weight - 1) (some true) seen := rfl
theorem step_pop_next {pc p o} : (mk text lim start last pc pos handed must out (nsFrame p o :: frames) weight (some true) seen).step = mk text lim start last 9 p handed must o frames (weight - 1) (some true) seen := rfl
theorem step_again {pc p o} (hw : weight ≤ 100) : (mk text lim start last pc pos handed must out (nsFrame p o :: frames) weight (some false) seen).step =
    (if p < last then mk text lim (p + 1) last 9 (p + 1) (p + 1) false false (nsFrame (p + 1) false :: frames) (weight - 1 + 1) none seen else mk text lim start last 9 p handed must o frames (weight - 1) (some false) seen) := by
  show (if p < last then M.attemptFrom { mk text lim start last 9 p handed must o frames (weight - 1) none seen with mustAdvance := false } (p + 1) false else M.say (mk text lim start last 9 p handed must o frames (weight - 1) none seen) false) = _
  by_cases h : p < last
  · rw [if_pos h, if_pos h]
    show (if weight - 1 + 1 + 0 > 16777216 then M.stick _ _ else mk text lim (p + 1) last 9 (p + 1) (p + 1) false false (nsFrame (p + 1) false :: frames) (weight - 1 + 1) none seen) = _
    rw [if_neg (by omega)]
  · rw [if_neg h, if_neg h]; rfl
theorem step_end {pc} (a : Bool) : (mk text lim start last pc pos handed must out [] weight (some a) seen).step = { mk text lim start last pc pos handed must out [] weight (some a) seen with outcome := some (if a then .matched else .failed) } := rfl
end

/-- so many steps -/
noncomputable def iter : Nat → M → M
  | 0, m => m
  | n + 1, m => iter n m.step
theorem iter_add : ∀ (a b : Nat) (m : M), iter (a + b) m = iter b (iter a m)
  | 0, b, m => by rw [Nat.zero_add]; rfl
  | a + 1, b, m => by rw [show a + 1 + b = a + b + 1 by omega]; exact iter_add a b m.step
theorem step_stop {m : M} (h : m.outcome.isSome = true) : m.step = m := by unfold M.step; rw [if_pos h]
theorem iter_stop : ∀ (n : Nat) {m : M}, m.outcome.isSome = true → iter n m = m
  | 0, m, _ => rfl
  | n + 1, m, h => by show iter n m.step = m; rw [step_stop h]; exact iter_stop n h
theorem runFor_iter : ∀ (n : Nat) (m : M), M.runFor n m = iter n m
  | 0, m => rfl
  | n + 1, m => by
    unfold M.runFor
    by_cases h : m.outcome.isSome = true
    · rw [if_pos h]; exact (iter_stop (n + 1) h).symm
    · rw [if_neg h]; exact runFor_iter n m.step

noncomputable def Reach (n : Nat) (m m' : M) : Prop := ∃ k, k ≤ n ∧ iter k m = m'
theorem Reach.refl (m : M) : Reach 0 m m := ⟨0, Nat.le_refl _, rfl⟩
theorem Reach.one {m m' : M} (h : m.step = m') : Reach 1 m m' := ⟨1, Nat.le_refl _, h⟩
theorem Reach.trans {a b : Nat} {m m' m'' : M} (x : Reach a m m') (y : Reach b m' m'') : Reach (a + b) m m'' := by
  obtain ⟨i, hi, rfl⟩ := x; obtain ⟨j, hj, rfl⟩ := y
  exact ⟨i + j, by omega, iter_add _ _ _⟩
theorem Reach.more {a b : Nat} {m m' : M} (x : Reach a m m') (h : a ≤ b) : Reach b m m' := let ⟨k, hk, e⟩ := x; ⟨k, by omega, e⟩

/-- `=` and two figures at a place -/
noncomputable def hit (text : Array Nat) (lim p : Nat) : Bool := decide (p + 3 ≤ lim) && (text.getD p 0 == 61) && hexC (text.getD (p + 1) 0) && hexC (text.getD (p + 2) 0)
/-- the first such place from one on, so many looked at -/
noncomputable def firstHit (text : Array Nat) (lim : Nat) : (n p : Nat) → Option Nat
  | 0, _ => none
  | n + 1, p => if hit text lim p then some p else firstHit text lim n (p + 1)

theorem search_run (text : Array Nat) (lim : Nat) : ∀ (n s handed : Nat) (must out : Bool) (seen : Seen), s + n = lim →
    ∃ m', Reach (5 * n + 10) (mk text lim s lim 9 s handed must out [nsFrame s out] 1 none seen) m' ∧
      match firstHit text lim (n + 1) s with
      | some p => m'.outcome = some .matched ∧ m'.start = p ∧ m'.handed = p + 3 ∧ m'.lastmark = -1 ∧ m'.lastindex = -1 ∧ m'.marks = #[]
      | none => m'.outcome = some .failed := by
  intro n
  induction n with
  | zero =>
    intro s handed must out seen hs
    obtain ⟨s1, h1⟩ := step_lit (text := text) (lim := lim) (start := s) (last := lim) (pos := s) (handed := handed) (weight := 1) (must := must) (out := out) (frames := [nsFrame s out]) (seen := seen)
    rw [if_neg (by omega)] at h1
    have h2 := step_again (text := text) (lim := lim) (start := s) (last := lim) (pos := s) (handed := handed) (weight := 1) (must := must) (out := out) (frames := []) (seen := s1) (pc := 9) (p := s) (o := out) (by decide)
    rw [if_neg (by omega)] at h2
    have hh : hit text lim s = false := by unfold hit; rw [decide_eq_false (by omega)]; rfl
    have hf : firstHit text lim (0 + 1) s = none := by unfold firstHit; rw [hh]; rfl
    rw [hf]
    exact ⟨_, (((Reach.one h1).trans (Reach.one h2)).trans (Reach.one (step_end false))).more (by omega), rfl⟩
  | succ n ih =>
    intro s handed must out seen hs
    obtain ⟨s1, h1⟩ := step_lit (text := text) (lim := lim) (start := s) (last := lim) (pos := s) (handed := handed) (weight := 1) (must := must) (out := out) (frames := [nsFrame s out]) (seen := seen)
    -- no hit here: the next place
    have next : ∀ (pc pos' : Nat) (seen' : Seen), hit text lim s = false → Reach 3 (mk text lim s lim 9 s handed must out [nsFrame s out] 1 none seen) (mk text lim s lim pc pos' handed must out [nsFrame s out] 1 (some false) seen') →
        ∃ m', Reach (5 * (n + 1) + 10) (mk text lim s lim 9 s handed must out [nsFrame s out] 1 none seen) m' ∧
          match firstHit text lim (n + 1 + 1) s with
          | some p => m'.outcome = some .matched ∧ m'.start = p ∧ m'.handed = p + 3 ∧ m'.lastmark = -1 ∧ m'.lastindex = -1 ∧ m'.marks = #[]
          | none => m'.outcome = some .failed := fun pc pos' seen' hh hr => by
      have h2 := step_again (text := text) (lim := lim) (start := s) (last := lim) (pos := pos') (handed := handed) (weight := 1) (must := must) (out := out) (frames := []) (seen := seen') (pc := pc) (p := s) (o := out) (by decide)
      rw [if_pos (by omega)] at h2
      obtain ⟨m', r, h⟩ := ih (s + 1) (s + 1) false false seen' (by omega)
      refine ⟨m', ((hr.trans (Reach.one h2)).trans r).more (by omega), ?_⟩
      have hf : firstHit text lim (n + 1 + 1) s = firstHit text lim (n + 1) (s + 1) := by conv => lhs; unfold firstHit; rw [hh]; simp
      rw [hf]; exact h
    by_cases h61 : s < lim ∧ text.getD s 0 = 61
    · rw [if_pos h61] at h1
      obtain ⟨s2, h2⟩ := step_rep (text := text) (lim := lim) (start := s) (last := lim) (pos := s + 1) (handed := handed) (weight := 1) (must := must) (out := out) (frames := [nsFrame s out]) (seen := s1) (by decide)
      by_cases hx : s + 1 + 2 ≤ lim ∧ hexC (text.getD (s + 1) 0) = true ∧ hexC (text.getD (s + 1 + 1) 0) = true
      · rw [if_pos hx] at h2
        have hh : hit text lim s = true := by
          unfold hit
          rw [decide_eq_true (by omega), h61.2, hx.2.1, show s + 2 = s + 1 + 1 from rfl, hx.2.2]; rfl
        have hf : firstHit text lim (n + 1 + 1) s = some s := by unfold firstHit; rw [hh]; rfl
        rw [hf]
        have h3 := step_succ (text := text) (lim := lim) (start := s) (last := lim) (pos := s + 1 + 2) (handed := s + 1 + 2) (weight := 1 + 1) (must := must) (out := out) (frames := [gbFrame (s + 1 + 2) out, nsFrame s out]) (seen := s2) (by simp; omega)
        refine ⟨_, ((((((Reach.one h1).trans (Reach.one h2)).trans (Reach.one h3)).trans (Reach.one step_pop_give)).trans (Reach.one step_pop_next)).trans (Reach.one (step_end true))).more (by omega), rfl, rfl, rfl, rfl, rfl, rfl⟩
      · rw [if_neg hx] at h2
        refine next 11 (s + 1) s2 ?_ (((Reach.one h1).trans (Reach.one h2)).more (by omega))
        unfold hit
        cases q : decide (s + 3 ≤ lim) && (text.getD s 0 == 61) && hexC (text.getD (s + 1) 0) && hexC (text.getD (s + 2) 0) with
        | false => rfl
        | true =>
          simp only [Bool.and_eq_true, decide_eq_true_eq] at q
          exact absurd ⟨by omega, q.1.2, q.2⟩ hx
    · rw [if_neg h61] at h1
      refine next 9 s s1 ?_ ((Reach.one h1).more (by omega))
      unfold hit
      cases q : decide (s + 3 ≤ lim) && (text.getD s 0 == 61) && hexC (text.getD (s + 1) 0) && hexC (text.getD (s + 2) 0) with
      | false => rfl
      | true =>
        simp only [Bool.and_eq_true, decide_eq_true_eq, beq_iff_eq] at q
        exact absurd ⟨by omega, q.1.1.2⟩ h61

/-- the whole search -/
theorem search_ends (text : Array Nat) (lim s : Nat) (must : Bool) (hs : s ≤ lim) : ∃ m', Reach (5 * lim + 20) (forSearch codeN text 0 s lim must) m' ∧
    match firstHit text lim (lim - s + 1) s with
    | some p => m'.outcome = some .matched ∧ m'.start = p ∧ m'.handed = p + 3 ∧ m'.lastmark = -1 ∧ m'.lastindex = -1 ∧ m'.marks = #[]
    | none => m'.outcome = some .failed := by
  by_cases h3 : lim - s < 3
  · have e : forSearch codeN text 0 s lim must = mk text lim s 0 9 s s must true [] 0 (some false) (({} : Seen).add 14) := by
      show (if (decide (s > lim) || decide (lim - s < 3)) = true then M.say (mk text lim s 0 9 s s must true [] 0 none (({} : Seen).add 14)) false else _) = _
      rw [if_pos (by simp; omega)]; rfl
    have hn : ∀ (n p : Nat), s ≤ p → firstHit text lim n p = none := by
      intro n
      induction n with
      | zero => intro p _; rfl
      | succ n ih =>
        intro p hp
        have hh : hit text lim p = false := by unfold hit; rw [decide_eq_false (by omega)]; rfl
        unfold firstHit
        rw [hh]
        exact ih (p + 1) (by omega)
    rw [hn _ s (Nat.le_refl _), e]
    exact ⟨_, (Reach.one (step_end false)).more (by omega), rfl⟩
  · have e : forSearch codeN text 0 s lim must = mk text lim s lim 9 s s must true [nsFrame s true] 1 none (({} : Seen).add 14) := by
      show (if (decide (s > lim) || decide (lim - s < 3)) = true then M.say (mk text lim s 0 9 s s must true [] 0 none (({} : Seen).add 14)) false else mk text lim s lim 9 s s must true [nsFrame s true] 1 none (({} : Seen).add 14)) = _
      rw [if_neg (by simp; omega)]
    rw [e]
    obtain ⟨m', r, h⟩ := search_run text lim (lim - s) s s must true (({} : Seen).add 14) (by omega)
    exact ⟨m', r.more (by omega), h⟩
end Mine
end
section
open PySem PySem.W PyProof.Rows PySem.Builtin PySem.Builtin.Re
set_option autoImplicit false
set_option linter.unusedVariables false
namespace Mine

section
variable {Md : Model} {A : Around} {E : Value → Shared → Prop} {s : Shared}
theorem drive_wp {Q : Sre.M → Shared → Prop} : ∀ (turns k : Nat) (m : Sre.M), (iter k m).outcome.isSome = true → k ≤ 4 * turns → 0 < turns → Q (iter k m) s → wpAny Md A (reDrive turns m) Q E s
  | 0, k, m, _, _, h0, _ => absurd h0 (Nat.lt_irrefl 0)
  | turns + 1, k, m, hk, hle, _, hQ => by
    unfold reDrive
    rw [show reTurnSteps = 4 from rfl, runFor_iter]
    dsimp only
    by_cases h4 : (iter 4 m).outcome.isSome = true
    · rw [if_pos h4]
      refine wpAny_pure ?_
      have : iter k m = iter 4 m := by
        rcases Nat.le_total 4 k with h | h
        · obtain ⟨j, rfl⟩ := Nat.exists_eq_add_of_le h
          rw [iter_add]; exact iter_stop j h4
        · obtain ⟨j, hj⟩ := Nat.exists_eq_add_of_le h
          rw [hj, iter_add]; exact (iter_stop j hk).symm
      rw [← this]; exact hQ
    · rw [if_neg h4]
      refine wpAny_bind (wpAny_rule ?_)
      have h4k : 4 < k := by
        refine Nat.lt_of_not_le fun q => h4 ?_
        obtain ⟨j, hj⟩ := Nat.exists_eq_add_of_le q
        rw [hj, iter_add, iter_stop j hk]; exact hk
      obtain ⟨j, rfl⟩ := Nat.exists_eq_add_of_le (Nat.le_of_lt h4k)
      have e : iter (4 + j) m = iter j (iter 4 m) := iter_add 4 j m
      rw [e] at hk hQ
      exact drive_wp turns j (iter 4 m) hk (by omega) (by omega) hQ
theorem rules_wp {Q : PUnit → Shared → Prop} (f : Nat → PUnit → Sem (ForInStep PUnit)) (hf : ∀ i (Q' : ForInStep PUnit → Shared → Prop), Q' (.yield PUnit.unit) s → wpAny Md A (f i PUnit.unit) Q' E s) : ∀ (l : List Nat), Q PUnit.unit s → wpAny Md A (forIn l PUnit.unit f) Q E s
  | [], h => by rw [List.forIn_nil]; exact wpAny_pure h
  | i :: r, h => by
    rw [List.forIn_cons]
    exact wpAny_bind (hf i _ (rules_wp f hf r h))
theorem end_wp {Q : Option Sre.M → Shared → Prop} {m m' : Sre.M} {n : Nat} (hr : Reach n m m') (hn : n ≤ 2 ^ 60) (h : (m'.outcome = some .matched ∧ Q (some m') s) ∨ (m'.outcome = some .failed ∧ Q none s)) : wpAny Md A (reRunToEnd m) Q E s := by
  obtain ⟨k, hk, rfl⟩ := hr
  have ho : (iter k m).outcome.isSome = true := by rcases h with h | h <;> rw [h.1] <;> rfl
  unfold reRunToEnd
  refine wpAny_bind (drive_wp (2 ^ 64) k m ho (by have : (2 : Nat) ^ 60 ≤ 4 * 2 ^ 64 := by decide
                                                  omega) (by decide) ?_)
  refine wpAny_bind (rules_wp _ (fun i Q' hq => ?_) _ ?_)
  · split
    · exact wpAny_bind (wpAny_rule (wpAny_pure hq))
    · exact wpAny_pure hq
  rcases h with ⟨h1, h2⟩ | ⟨h1, h2⟩
  · rw [h1]; exact wpAny_pure h2
  · rw [h1]; exact wpAny_pure h2
/-- what a search from a place gives -/
noncomputable def FoundAt (text : Array Nat) (st : Nat) (r : Option Sre.M) : Prop := match firstHit text text.size (text.size - st + 1) st with
  | some p => ∃ m, r = some m ∧ m.start = p ∧ m.handed = p + 3 ∧ m.lastmark = -1 ∧ m.lastindex = -1 ∧ m.marks = #[]
  | none => r = none
theorem next_wp {Q : Option Sre.M → Shared → Prop} {t : ReTarget} {st : Nat} {must : Bool} (h1 : t.code = codeN) (h2 : t.groups = 0) (h3 : t.lim = t.text.size) (hs : st ≤ t.text.size) (hsz : t.text.size < 2 ^ 40)
    (hQ : ∀ r, FoundAt t.text st r → Q r s) : wpAny Md A (reNextFound t st must) Q E s := by
  unfold reNextFound
  rw [h1, h2, h3]
  obtain ⟨m', hr, hm⟩ := search_ends t.text t.text.size st must hs
  refine end_wp hr (by omega) ?_
  unfold FoundAt at hQ
  revert hm hQ
  cases firstHit t.text t.text.size (t.text.size - st + 1) st with
  | none => intro hQ hm; exact .inr ⟨hm, hQ none rfl⟩
  | some p => intro hQ hm; exact .inl ⟨hm.1, hQ (some m') ⟨m', rfl, hm.2⟩⟩
end
end Mine
end
section
open PySem PySem.W PyProof.Rows PySem.Builtin PySem.Builtin.Re
set_option autoImplicit false
set_option linter.unusedVariables false
namespace Mine

theorem Room.in1 {n : Nat} {A : Around} (h : Room (n + 1) A) : Room n A.in1 := ⟨h.hand, by have := h.depth; show A.depth + n < _; omega, by have := h.units; show A.units + 1 + 3 * n + 200 < _; omega⟩

section
variable {b : Base} {A : Around} {E : Value → Shared → Prop} {s : Shared}
theorem fields_wp {a : Addr} {o : Obj} {vs : Array Value} {Q : Array Value → Shared → Prop} (ho : s.heap.get? a = some o) (hd : o.data = .fields vs) (hQ : Q vs s) : wpAny (model b.prog b.w) A (fieldsOf (.ref a)) Q E s := by
  unfold fieldsOf
  refine wpAny_bind (wpAny_load ho ?_)
  rw [hd]
  exact wpAny_pure hQ
theorem items_wp {a : Addr} {o : Obj} {vs : Array Value} {n : Nat} {Q : Array Int → Shared → Prop} (ho : s.heap.get? a = some o) (hd : o.data = .seq vs n) (hQ : Q (vs.map reRawOf) s) : wpAny (model b.prog b.w) A (reRawItems (.ref a)) Q E s := by
  unfold reRawItems
  exact wpAny_bind (wpAny_seqItems ho hd (wpAny_pure hQ))
theorem code_is : ((reCode.map fun i => Value.int i 0).toArray.map reRawOf).map (·.toNat) = codeN := by decide +kernel
noncomputable def target (a : Addr) (x : PySem.Str) (t : Tok) : ReTarget := { pattern := .ref a, string := .str x t, code := codeN, text := x.cps, kind := 0, groups := 0, pos := 0, lim := x.cps.size }
theorem whole_wp {a : Addr} {x : PySem.Str} {t : Tok} {Q : ReTarget → Shared → Prop} (hp : PatAt s.heap a) (hQ : Q (target a x t) s) : wpAny (model b.prog b.w) A (reWholeTarget (.ref a) (.str x t)) Q E s := by
  obtain ⟨c, y, t1, u, h1, h2⟩ := hp
  unfold reWholeTarget
  refine wpAny_bind (fields_wp h1 rfl ?_)
  refine wpAny_bind ?_
  unfold reTextOf
  refine wpAny_bind (wpAny_pure ?_)
  refine wpAny_pure ?_
  dsimp only
  rw [if_neg (by simp [reRawNat])]
  rw [if_neg (by simp [reRawNat])]
  refine wpAny_bind ?_
  unfold reNoCollectionInside
  rw [if_neg (by decide)]
  refine wpAny_pure ?_
  refine wpAny_bind (items_wp h2 rfl ?_)
  rw [code_is]
  exact wpAny_pure hQ

/-- the pieces gathered so far -/
structure Pcs (s₀ : Shared) (L : Addr) (xs : List PySem.Str) (s : Shared) : Prop where
  same : ∃ h tk, s = { s₀ with heap := h, toks := tk } ∧ s₀.toks ≤ tk
  keep : KeepsH s₀.heap s.heap
  hi : s₀.heap.objs.size ≤ L
  has : ∃ (l : List (PySem.Str × Tok)) (n : Nat), s.heap.get? L = some (plainList (strValues l).toArray n) ∧ l.map (·.1) = xs
theorem Pcs.grows {s₀ s s' : Shared} {L : Addr} {xs : List PySem.Str} (P : Pcs s₀ L xs s) (g : Grows s s') : Pcs s₀ L xs s' := by
  obtain ⟨h', tk', rfl, k, le⟩ := g
  obtain ⟨h, tk, e, le0⟩ := P.same
  subst e
  obtain ⟨l, n, hl, e⟩ := P.has
  exact ⟨⟨h', tk', rfl, Nat.le_trans le0 le⟩, P.keep.trans k, P.hi, l, n, k _ _ hl, e⟩
theorem Pcs.entry {s₀ s : Shared} {L : Addr} {xs : List PySem.Str} (P : Pcs s₀ L xs s) : Grows s₀ s := by
  obtain ⟨h, tk, rfl, le⟩ := P.same; exact ⟨h, tk, rfl, P.keep, le⟩
theorem push_wp {s₀ : Shared} {L : Addr} {xs : List PySem.Str} {y : PySem.Str} {t : Tok} {Q : Unit → Shared → Prop} (P : Pcs s₀ L xs s) (hn : xs.length ≤ sizeLine) (hQ : ∀ s', s.toks ≤ s'.toks → Pcs s₀ L (xs ++ [y]) s' → Q () s') :
    wpAny (model b.prog b.w) A (updateSeq L (·.push (.str y t))) Q E s := by
  obtain ⟨l, n, hl, e⟩ := P.has
  have hlen : l.length = xs.length := by rw [← e, List.length_map]
  have hsz : (strValues l).toArray.size = xs.length := by simp [strValues, hlen]
  refine wpAny_updateSeq (xs := (strValues l).toArray) (n := n) hl rfl ?_ (by omega) (by rw [Array.size_push]; omega)
  obtain ⟨h, tk, e0, le0⟩ := P.same
  subst e0
  refine hQ _ (Nat.le_refl _) ⟨⟨_, tk, rfl, le0⟩, fun z o q => ?_, P.hi, l ++ [(y, t)], n + 1, ?_, by rw [List.map_append, e]; rfl⟩
  · have hz : z ≠ L := Nat.ne_of_lt (Nat.lt_of_lt_of_le (Heap.lt_size q) P.hi)
    exact (Heap.get?_update_ne _ _ _ _ hz).trans (P.keep z o q)
  · have h1 := Heap.get?_update_self (Obj.mapSeq (·.push (.str y t))) hl rfl
    refine h1.trans ?_
    show some (Obj.mapSeq _ (plainList _ _)) = _
    unfold plainList Obj.mapSeq
    simp [strValues]

noncomputable def hexV (c : Nat) : Nat := if c < 58 then c - 48 else if c < 71 then c - 55 else c - 87
noncomputable def unhexAt (text : Array Nat) (p : Nat) : Nat := 16 * hexV (text.getD (p + 1) 0) + hexV (text.getD (p + 2) 0)
/-- what stands for the text from a place on -/
noncomputable def restN (text : Array Nat) : Nat → Nat → List Nat
  | 0, st => text.toList.drop st
  | n + 1, st => match firstHit text text.size (text.size - st + 1) st with
    | none => text.toList.drop st
    | some p => (text.toList.drop st).take (p - st) ++ unhexAt text p :: restN text n (p + 3)
theorem firstHit_spec (text : Array Nat) (lim : Nat) : ∀ (n st p : Nat), firstHit text lim n st = some p → st ≤ p ∧ hit text lim p = true
  | 0, st, p, h => by cases h
  | n + 1, st, p, h => by
    unfold firstHit at h
    by_cases hh : hit text lim st = true
    · rw [if_pos hh] at h; cases h; exact ⟨Nat.le_refl _, hh⟩
    · rw [if_neg hh] at h
      have := firstHit_spec text lim n (st + 1) p h
      exact ⟨by omega, this.2⟩
theorem hit_le {text : Array Nat} {lim p : Nat} (h : hit text lim p = true) : p + 3 ≤ lim := by
  unfold hit at h
  simp only [Bool.and_eq_true, decide_eq_true_eq] at h
  exact h.1.1.1
/-- the function that is called for each match -/
noncomputable def Back (b : Base) (f : Value) (x : PySem.Str) : Prop := ∀ (A : Around) (s : Shared) (E : Value → Shared → Prop) (m sp : Addr) (t : Tok) (p : Nat) (pat : Value), Room 3 A → 0 < s.toks → KeepsH b.h₀ s.heap →
  s.heap.get? m = some { cls := .type "re.Match", data := .fields #[.str x t, pat, rawInt 0, rawInt x.cps.size, rawInt (-1), .ref sp] } → s.heap.get? sp = some { cls := .type "tuple", data := .seq #[rawInt p, rawInt ((p + 3 : Nat) : Int)] 0 } →
  hit x.cps x.cps.size p = true → wpAny (model b.prog b.w) A (call f [.ref m] []) (fun z s' => Grows s s' ∧ ∃ t', z = .str ⟨#[unhexAt x.cps p]⟩ t') E s

theorem code_entry {id : String} {args : Args} {bi : Builtin} {R : Result → Shared → Prop} (hb : entryFor table id = some bi) (hpl : plainId id = true)
    (h : wpAny (model b.prog b.w) A.in1 (bi args) (fun fin s' => match fin with | .done f => R (.ok f) s' | .again c' => c'.quiet = true ∧ codeAny (model b.prog b.w) A c' R s') (fun e s' => R (.error e) s') s) :
    codeAny (model b.prog b.w) A (.builtin id args) R s := by
  refine codeAny_of_tree ?_
  rw [Around.under_plainId hpl]
  show wpAny _ _ (match entryFor table id with | some b => b args | none => unsupported ((withoutEnding? id "#data").getD id)) _ _ s
  rw [hb]; exact h
theorem sub_entry : entryFor table "re.Pattern.sub.loop" = some Builtin.«re.Pattern.sub.loop» := entryFor_of_tree (by kernel_rfl)
theorem sub_plain : plainId "re.Pattern.sub.loop" = true := by decide +kernel
noncomputable def flatS (xs : List PySem.Str) : List Nat := (xs.map tl).flatten
theorem flatS_snoc (xs : List PySem.Str) (y : PySem.Str) : flatS (xs ++ [y]) = flatS xs ++ tl y := by simp [flatS]

theorem pcs_str_sz {x : PySem.Str} (hx : x.cps.size < 1000000) {i j : Nat} : (⟨x.cps.extract i j⟩ : PySem.Str).length ≤ sizeLine := by
  have : (200000 : Nat) ≤ sizeLine := by decide
  have h2 : (16777216 : Nat) ≤ sizeLine := by decide
  show (x.cps.extract i j).size ≤ sizeLine
  rw [Array.size_extract]; omega
/-- one match: the function is called, its text goes to the pieces -/
theorem turn_wp {s₀ s : Shared} {L a : Addr} {f : Value} {x : PySem.Str} {t : Tok} {xs : List PySem.Str} {m : Sre.M} {p : Nat} {c' : Code} {Q : PySem.Fin → Shared → Prop} (cb : Back b f x) (hx : x.cps.size < 1000000) (hb : KeepsH b.h₀ s₀.heap) (h0 : 0 < s₀.toks) (hA : Room 4 A)
    (hm1 : m.start = p) (hm2 : m.handed = p + 3) (hm3 : m.lastindex = -1) (hh : hit x.cps x.cps.size p = true) (P : Pcs s₀ L xs s) (hn : xs.length ≤ sizeLine)
    (hQ : ∀ s', Pcs s₀ L (xs ++ [⟨#[unhexAt x.cps p]⟩]) s' → Q (.again c') s') :
    wpAny (model b.prog b.w) A.in1 (do
      let found ← reNewMatch (.ref a) (.str x t) 0 0 x.cps.size m
      let item ← holding [found] (if (1 == 1) = true then call f [found] else do let r ← reFound found; reExpand f r)
      if (item != Value.none) = true then do
          updateSeq L fun x => x.push item
          again c'
        else again c') Q E s := by
  refine wpAny_bind ?_
  unfold reNewMatch
  show wpAny _ _ (do newFields "re.Match" [.str x t, .ref a, rawInt 0, rawInt x.cps.size, rawInt m.lastindex, ← newTuple [rawInt m.start, rawInt m.handed]]) _ _ _
  refine wpAny_bind (wpAny_newTuple ?_ (by show 2 ≤ sizeLine; decide))
  refine wpAny_newObj_type ?_ (by first | size_fits | (show 6 ≤ sizeLine; decide))
  have G1 : Grows s { s with heap := s.heap.push { cls := .type "tuple", data := .seq [rawInt m.start, rawInt m.handed].toArray } } := Grows.push _ _
  have G2 : Grows s { s with heap := (s.heap.push { cls := .type "tuple", data := .seq [rawInt m.start, rawInt m.handed].toArray }).push { cls := .type "re.Match", dict := none, data := .fields [.str x t, .ref a, rawInt 0, rawInt x.cps.size, rawInt m.lastindex, .ref s.heap.objs.size].toArray } } := G1.trans (Grows.push _ _)
  have P2 := P.grows G2
  rw [if_pos (by decide)]
  refine wpAny_bind (wpAny_holding ?_)
  have hsp : ((s.heap.push { cls := .type "tuple", data := .seq [rawInt m.start, rawInt m.handed].toArray }).push { cls := .type "re.Match", dict := none, data := .fields [.str x t, .ref a, rawInt 0, rawInt x.cps.size, rawInt m.lastindex, .ref s.heap.objs.size].toArray }).get? s.heap.objs.size = some { cls := .type "tuple", data := .seq #[rawInt p, rawInt ((p + 3 : Nat) : Int)] 0 } := by
    refine Heap.get?_push_of_some _ ?_
    rw [Heap.get?_push_size _ rfl, hm1, hm2]
  have hmm : ((s.heap.push { cls := .type "tuple", data := .seq [rawInt m.start, rawInt m.handed].toArray }).push { cls := .type "re.Match", dict := none, data := .fields [.str x t, .ref a, rawInt 0, rawInt x.cps.size, rawInt m.lastindex, .ref s.heap.objs.size].toArray }).get? (s.heap.push { cls := .type "tuple", data := .seq [rawInt m.start, rawInt m.handed].toArray }).objs.size = some { cls := .type "re.Match", data := .fields #[.str x t, .ref a, rawInt 0, rawInt x.cps.size, rawInt (-1), .ref s.heap.objs.size] } := by
    rw [Heap.get?_push_size _ rfl, hm3]
  obtain ⟨h, tk, e, le⟩ := id P.same
  have pos2 : 0 < s.toks := by rw [e]; exact Nat.lt_of_lt_of_le h0 le
  refine wpAny_mono (cb A.in1 _ E _ s.heap.objs.size t p (.ref a) hA.in1 pos2 (hb.trans P2.keep) hmm hsp hh) (fun z s₃ g => ?_) fun _ _ x => x
  obtain ⟨g3, t', rfl⟩ := g
  have P3 := P2.grows g3
  rw [if_pos (by simp)]
  exact wpAny_bind (push_wp P3 hn fun s₄ _ P4 => wpAny_pure (hQ s₄ P4))

theorem glue_nil : ∀ ws : List (List Nat), glueL [] ws = ws.flatten
  | [] => rfl
  | [x] => by simp [glueL]
  | x :: y :: r => by rw [glueL, glue_nil (y :: r)]; simp
/-- the pieces joined -/
theorem fin_wp {s₀ s : Shared} {L : Addr} {x : PySem.Str} {xs : List PySem.Str} {Q : PySem.Fin → Shared → Prop} (hx : x.cps.size < 1000000) (P : Pcs s₀ L xs s) (hfl : (flatS xs).length ≤ 16777216) (hA : Room 4 A) {els2 : Value → Sem PySem.Fin}
    (hQ : ∀ s' t', Grows s₀ s' → Q (.done (.ret (.str (ofL (flatS xs)) t'))) s') :
    wpAny (model b.prog b.w) A.in1 (do
            let joiner ← reSlice x.cps 0 0 0
            let r ← seqItems? (Value.ref L)
            if (r.getD #[]).isEmpty = true then do
                let text ← pure joiner
                if false = true then els2 text else ret text
              else do
                let text ← call (Value.builtin (if (0 == 0) = true then "str.join" else "bytes.join")) [joiner, Value.ref L]
                if false = true then els2 text else ret text) Q E s := by
  refine wpAny_bind ?_
  show wpAny _ _ (mkStr ⟨x.cps.extract 0 0⟩) _ _ _
  refine wpAny_mkStr ?_ (pcs_str_sz hx)
  have G1 : Grows s { s with toks := s.toks + 1 } := Grows.toks _ _
  have P1 := P.grows G1
  obtain ⟨l, n, hl, e⟩ := P1.has
  refine wpAny_bind (wpAny_seqItems hl rfl ?_)
  have e0 : (⟨x.cps.extract 0 0⟩ : PySem.Str) = ⟨#[]⟩ := by congr 1; simp
  by_cases hem : ((some (strValues l).toArray).getD #[]).isEmpty = true
  · rw [if_pos hem]
    refine wpAny_bind (wpAny_pure ?_)
    rw [if_neg (by decide)]
    refine wpAny_pure ?_
    have : xs = [] := by
      rw [← e]
      have : l = [] := by
        cases l with
        | nil => rfl
        | cons a r => simp [strValues] at hem
      rw [this]; rfl
    subst this
    rw [e0]
    exact hQ _ _ P1.entry
  · rw [if_neg hem, if_pos (by decide)]
    refine wpAny_bind ?_
    have hJ : JoinOk ⟨#[]⟩ xs = true := by
      unfold JoinOk Builtin.Str.tooLong
      rw [StrLaws.joinTotal]
      have h1 : (xs.map (·.length)).sum = (flatS xs).length := by
        unfold flatS
        rw [List.length_flatten, List.map_map]
        congr 1
      rw [h1]
      have h2 : (⟨#[]⟩ : PySem.Str).length = 0 := rfl
      have h3 : (16777216 : Nat) ≤ sizeLine := by decide
      rw [h2, Nat.mul_zero, Nat.add_zero]
      simp <;> omega
    rw [e0]
    refine wpAny_le (SC.join (l := l) (x := ⟨#[]⟩) (texts := xs) ⟨_, hl, rfl, n, rfl⟩ e hJ fun t' k le => ?_)
    rw [if_neg (by decide)]
    refine wpAny_pure ?_
    have ej : Txt.join ⟨#[]⟩ xs = ofL (flatS xs) := by
      apply tl_inj
      rw [join_tl, tl_ofL]
      exact glue_nil _
    rw [ej]
    exact hQ _ _ (P1.entry.trans (Grows.toks _ _ le))
theorem loop_wp {s₀ : Shared} {L a : Addr} {f : Value} {x : PySem.Str} {t : Tok} (hp : PatAt b.h₀ a) (cb : Back b f x) (hx : x.cps.size < 1000000) (hb : KeepsH b.h₀ s₀.heap) (h0 : 0 < s₀.toks) {R : Result → Shared → Prop} (hA : Room 4 A) :
    ∀ (n st cnt : Nat) (must : Bool) (xs : List PySem.Str) (s : Shared), x.cps.size - st < n → st ≤ x.cps.size → Pcs s₀ L xs s → xs.length ≤ st → (flatS xs).length ≤ st →
      (∀ s' t', Grows s₀ s' → R (.ok (.ret (.str (ofL (flatS xs ++ restN x.cps n st)) t'))) s') →
      codeAny (model b.prog b.w) A (.builtin "re.Pattern.sub.loop" ⟨[.ref a, .str x t, f, rawInt 1, rawInt 0, rawInt cnt, rawInt st, rawInt st, .bool must, .ref L, .bool false], []⟩) R s := by
  intro n
  induction n with
  | zero => intro st cnt must xs s hn; exact absurd hn (Nat.not_lt_zero _)
  | succ n ih =>
    intro st cnt must xs s hn hst P hxs hfl hR
    refine code_entry sub_entry sub_plain ?_
    unfold Builtin.«re.Pattern.sub.loop»
    have hps : PatAt s.heap a := by
      obtain ⟨c, y, t1, u, h1, h2⟩ := hp
      exact ⟨c, y, t1, u, P.keep _ _ (hb _ _ h1), P.keep _ _ (hb _ _ h2)⟩
    refine wpAny_bind (whole_wp hps ?_)
    dsimp only
    rw [if_neg (by decide)]
    simp only [Int.toNat_natCast]
    refine wpAny_bind ?_
    rw [if_neg (by simp)]
    have hsl : (16777216 : Nat) ≤ sizeLine := by decide
    refine next_wp rfl rfl rfl hst (by show x.cps.size < _; omega) fun r hr => ?_
    have hr : FoundAt x.cps st r := hr
    unfold FoundAt at hr
    have hrest : restN x.cps (n + 1) st = match firstHit x.cps x.cps.size (x.cps.size - st + 1) st with
      | none => x.cps.toList.drop st
      | some p => (x.cps.toList.drop st).take (p - st) ++ unhexAt x.cps p :: restN x.cps n (p + 3) := rfl
    cases hf : firstHit x.cps x.cps.size (x.cps.size - st + 1) st with
    | none =>
      rw [hf] at hr hrest
      have hr : r = none := hr
      subst hr
      dsimp only
      by_cases hlt : st < (target a x t).lim
      · rw [if_pos hlt]
        refine wpAny_bind ?_
        show wpAny _ _ (mkStr ⟨x.cps.extract st x.cps.size⟩) _ _ _
        refine wpAny_mkStr ?_ (pcs_str_sz hx)
        refine wpAny_bind (push_wp (P.grows (Grows.toks _ _)) (by omega) fun s₂ _ P2 => ?_)
        have efl : flatS (xs ++ [⟨x.cps.extract st x.cps.size⟩]) = flatS xs ++ restN x.cps (n + 1) st := by
          rw [flatS_snoc, hrest]
          congr 1
          exact (StrLaws.strSub_toList x st x.cps.size).trans (List.take_of_length_le (by simp))
        refine fin_wp hx P2 ?_ hA fun s' t' g => ?_
        · rw [flatS_snoc, List.length_append]
          have : (tl (⟨x.cps.extract st x.cps.size⟩ : PySem.Str)).length = x.cps.size - st := by rw [tl_len]; show (x.cps.extract _ _).size = _; simp
          omega
        · have := hR s' t' g
          rw [← efl] at this
          exact this
      · rw [if_neg hlt]
        have hst2 : st = x.cps.size := by have : ¬ st < x.cps.size := hlt; omega
        refine fin_wp hx P (by omega) hA fun s' t' g => ?_
        have := hR s' t' g
        rw [hrest, List.drop_eq_nil_of_le (by simp; omega), List.append_nil] at this
        exact this
    | some p =>
      rw [hf] at hr hrest
      obtain ⟨m, rfl, m1, m2, m3, m4, m5⟩ := hr
      obtain ⟨hle, hh⟩ := firstHit_spec _ _ _ _ _ hf
      have hp3 := hit_le hh
      dsimp only
      -- the next turn
      have step : ∀ (ys : List PySem.Str) (s' : Shared), Pcs s₀ L (ys ++ [⟨#[unhexAt x.cps p]⟩]) s' → ys.length ≤ xs.length + 1 → flatS ys = flatS xs ++ (x.cps.toList.drop st).take (p - st) →
          codeAny (model b.prog b.w) A (.builtin "re.Pattern.sub.loop" ⟨[.ref a, .str x t, f, rawInt 1, rawInt 0, rawInt ((cnt : Int) + 1), rawInt m.handed, rawInt m.handed, .bool (m.handed == m.start), .ref L, .bool false], []⟩) R s' := fun ys s' P' hl hfy => by
        have hpl : ((x.cps.toList.drop st).take (p - st)).length ≤ p - st := List.length_take_le _ _
        rw [m2]
        refine ih (p + 3) (cnt + 1) _ _ s' (by omega) hp3 P' (by rw [List.length_append]; simp; omega) ?_ fun s'' t' g => ?_
        · rw [flatS_snoc, hfy, List.length_append, List.length_append]
          show _ + _ + 1 ≤ _
          omega
        · have := hR s'' t' g
          rw [hrest] at this
          rw [flatS_snoc, hfy]
          show R (.ok (.ret (.str (ofL (flatS xs ++ _ ++ [_] ++ restN x.cps n (p + 3))) t'))) s''
          simpa using this
      by_cases hlt : st < m.start
      · rw [if_pos hlt]
        refine wpAny_bind ?_
        show wpAny _ _ (mkStr ⟨x.cps.extract st m.start⟩) _ _ _
        refine wpAny_mkStr ?_ (pcs_str_sz hx)
        refine wpAny_bind (push_wp (P.grows (Grows.toks _ _)) (by omega) fun s₂ _ P2 => ?_)
        rw [if_neg (by decide)]
        refine turn_wp cb hx hb h0 hA m1 m2 m4 hh P2 (by rw [List.length_append]; simp; omega) fun s₃ P3 => ⟨plainId_quiet sub_plain _, step _ _ P3 (by simp) ?_⟩
        rw [flatS_snoc, m1]
        congr 1
        exact StrLaws.strSub_toList x st p
      · rw [if_neg hlt, if_neg (by decide)]
        have : p = st := by omega
        refine turn_wp cb hx hb h0 hA m1 m2 m4 hh P (by omega) fun s₃ P3 => ⟨plainId_quiet sub_plain _, step _ _ P3 (by omega) ?_⟩
        rw [this]; simp
end
end Mine
end
section
open PySem PySem.W PyProof.Rows PySem.Builtin PySem.Builtin.Re
set_option autoImplicit false
set_option linter.unusedVariables false
namespace Mine
theorem slot_sub : Slot "re.Pattern" "sub" "re.Pattern.sub" :=
  .of (owner := "re.Pattern") (n := "sub") (by rw [typeLookup_type, builtinLookup_eq_fast]; kernel_rfl) (by decide +kernel) (by decide +kernel) (by decide +kernel)
    (by first | exact .inl (by decide +kernel) | exact .inr (by decide +kernel)) (by rw [isSubtype_type]; kernel_rfl)
theorem slot_group : Slot "re.Match" "group" "re.Match.group" :=
  .of (owner := "re.Match") (n := "group") (by rw [typeLookup_type, builtinLookup_eq_fast]; kernel_rfl) (by decide +kernel) (by decide +kernel) (by decide +kernel)
    (by first | exact .inl (by decide +kernel) | exact .inr (by decide +kernel)) (by rw [isSubtype_type]; kernel_rfl)
theorem type_sub : typeOf (.builtin "re.Pattern.sub") = pure (.type "method_descriptor") := by show builtinType _ = _; rw [builtinType_eq_fast]; kernel_rfl
theorem type_group : typeOf (.builtin "re.Match.group") = pure (.type "method_descriptor") := by show builtinType _ = _; rw [builtinType_eq_fast]; kernel_rfl
theorem entry_sub : entryFor table "re.Pattern.sub" = some Builtin.«re.Pattern.sub» := entryFor_of_tree (by kernel_rfl)
theorem entry_group : entryFor table "re.Match.group" = some Builtin.«re.Match.group» := entryFor_of_tree (by kernel_rfl)
theorem args_sub (a b c : Value) : argsOk "re.Pattern.sub" ⟨[a, b, c], []⟩ := by unfold argsOk; kernel_rfl
theorem args_group (a b : Value) : argsOk "re.Match.group" ⟨[a, b], []⟩ := by unfold argsOk; kernel_rfl
theorem lk_fcall : typeLookup (.type "function") "__call__" = pure (some (.builtin "function.__call__")) := by rw [typeLookup_type, builtinLookup_eq_fast]; kernel_rfl
theorem pa_pattern : PlainAttrs "re.Pattern" := ⟨⟨"object.__getattribute__", by rw [typeLookup_type, builtinLookup_eq_fast]; kernel_rfl, by decide +kernel⟩, by rw [typeLookup_type, builtinLookup_eq_fast]; kernel_rfl⟩
theorem pa_match : PlainAttrs "re.Match" := ⟨⟨"object.__getattribute__", by rw [typeLookup_type, builtinLookup_eq_fast]; kernel_rfl, by decide +kernel⟩, by rw [typeLookup_type, builtinLookup_eq_fast]; kernel_rfl⟩

section
variable {b : Base} {A : Around} {E : Value → Shared → Prop} {s : Shared}
theorem sub_wp {a : Addr} {f : Value} {x : PySem.Str} {t : Tok} {R : Result → Shared → Prop} (hp : PatAt b.h₀ a) (cb : Back b f x) (hx : x.cps.size < 1000000) (hb : KeepsH b.h₀ s.heap) (h0 : 0 < s.toks) (hA : Room 4 A) (hf : s.TypeIs f "function")
    (hR : ∀ s' t', Grows s s' → R (.ok (.ret (.str (ofL (restN x.cps (x.cps.size + 1) 0)) t'))) s') :
    wpAny (model b.prog b.w) A.in1 (Builtin.«re.Pattern.sub» ⟨[.ref a, f, .str x t], []⟩) (fun fin s' => match fin with | .done fl => R (.ok fl) s' | .again c' => c'.quiet = true ∧ codeAny (model b.prog b.w) A c' R s') E s := by
  unfold Builtin.«re.Pattern.sub» reSubstitute
  have hps : PatAt s.heap a := by
    obtain ⟨c, y, t1, u, h1, h2⟩ := hp
    exact ⟨c, y, t1, u, hb _ _ h1, hb _ _ h2⟩
  refine wpAny_bind ?_
  show wpAny _ _ (reNamed "re.Pattern.sub" "sub" ["repl", "string", "count"] 2 [f, .str x t] []) _ _ _
  have hnm : reNamed "re.Pattern.sub" "sub" ["repl", "string", "count"] 2 [f, .str x t] [] = pure [some f, some (.str x t), none] := by rfl
  rw [hnm]
  refine wpAny_pure ?_
  dsimp only
  refine wpAny_bind (wpAny_pure ?_)
  refine wpAny_bind (wpAny_specialOf hf lk_fcall ?_)
  have hsome : (some (Value.builtin "function.__call__")).isSome = true := rfl
  rw [if_pos hsome]
  refine wpAny_bind (wpAny_pure ?_)
  rw [if_pos hsome]
  refine wpAny_bind (wpAny_pure ?_)
  dsimp only
  refine wpAny_bind (wpAny_holding (whole_wp hps ?_))
  rw [if_pos (by decide)]
  refine wpAny_bind ?_
  unfold reNotHeld
  refine wpAny_bind (wpAny_isInstance (typeIs_str _ _ _) F.sub_str_bytearray ?_)
  rw [if_neg (by decide)]
  refine wpAny_pure ?_
  refine wpAny_bind (wpAny_newList ?_ (by show 0 ≤ sizeLine; exact Nat.zero_le _))
  refine wpAny_pure ⟨plainId_quiet sub_plain _, ?_⟩
  have P : Pcs s s.heap.objs.size [] { s with heap := s.heap.push { cls := .type "list", data := .seq ([] : List Value).toArray } } :=
    ⟨⟨_, s.toks, rfl, Nat.le_refl _⟩, fun _ _ e => Heap.get?_push_of_some _ e, Nat.le_refl _, [], 0, Heap.get?_push_size _ rfl, rfl⟩
  exact loop_wp hp cb hx hb h0 hA (x.cps.size + 1) 0 0 false [] _ (by omega) (Nat.zero_le _) P (Nat.le_refl _) (Nat.le_refl _) fun s' t' g => hR s' t' g
end

section
variable {b : Base} {c : Cx} {Mu : List Addr} {ρ : Rho}
/-- the pattern's sub with a function of the text -/
theorem Ev.resub {n : Nat} (ok : CxOk b n c) (hn : 4 ≤ n) {e₀ e₁ e₂ : Expr} {ap pos : Pos} {a fa : Addr} {x : PySem.Str} (h0 : Ev b c Mu ρ e₀ (.r (.ref a))) (h1 : Ev b c Mu ρ e₁ (.r (.ref fa))) (h2 : Ev b c Mu ρ e₂ (.d (.str x)))
    (hp : PatAt b.h₀ a) (cb : Back b (.ref fa) x) (hx : x.cps.size < 1000000) (hf : ∃ o, b.h₀.get? fa = some o ∧ o.cls = .type "function") (hs : isStarred e₁ = false) (hs' : isStarred e₂ = false)
    (hbase : attributeBase e₀ "sub" c.env (eval e₀ c.env) = eval e₀ c.env) (hline : (ap.endLine == pos.line) = true) :
    Ev b c Mu ρ (.Call (.Attribute e₀ "sub" ap) [e₁, e₂] [] pos) (.d (.str (ofL (restN x.cps (x.cps.size + 1) 0)))) := .mk fun s E H =>
  wpAny_Call_method hbase (by rw [back2 _ _ _ _ hs hs']; rfl) hline pa_pattern slot_sub type_sub (wpAny_mono (h0.wp s E H) (fun v s₁ g₁ => by
    have ev : v = .ref a := g₁.2
    subst ev
    have H₁ := H.grows g₁.1
    obtain ⟨cc, y, t1, u, hp1, hp2⟩ := id hp
    have ho := H₁.base _ _ hp1
    refine ⟨⟨_, ho, rfl⟩, fun z ez => by cases ez; exact ⟨_, ho, rfl⟩, ?_⟩
    rw [back2 _ _ _ _ hs hs']
    refine Calls.callWith_builtin rfl (Calls.evalArgs_plain (Calls.spliced_cons (wpAny_mono (h1.wp s₁ E H₁) (fun v s₂ g₂ => Calls.spliced_cons (wpAny_mono (h2.wp s₂ E (H₁.grows g₂.1)) (fun w s₃ g₃ => Calls.spliced_nil ?_) fun _ _ x => x)) fun _ _ x => x)))
    have ev : v = .ref fa := g₂.2
    subst ev
    obtain ⟨t, rfl⟩ := Rep.str_inv g₃.2
    have G := (g₁.1.trans g₂.1).trans g₃.1
    have H₃ := H.grows G
    obtain ⟨of, hof, hcf⟩ := hf
    refine wpAny_call (codeAny_call_builtin_at (plainId_quiet slot_sub.plain _) entry_sub (slot_sub.check _ _ _ _ _ _ _ _ ⟨_, H₃.base _ _ hp1, rfl⟩ (args_sub _ _ _) ?_))
    rw [Around.under_plainId slot_sub.plain]
    exact sub_wp (t := t) (E := E) (R := fun r s' => match r with | .ok (.ret v) => Grows s s' ∧ RepL b Mu s'.heap v (.d (.str (ofL (restN x.cps (x.cps.size + 1) 0)))) | .ok _ => False | .error e => E e s')
      hp cb hx H₃.base H₃.pos (ok.room.le hn) ⟨_, H₃.base _ _ hof, hcf⟩ fun s' t' g => ⟨G.trans g, Rep.str _ _⟩) fun _ _ x => x)
end
end Mine
end
section
open PySem PySem.W PyProof.Rows PySem.Builtin
set_option autoImplicit false
set_option linter.unusedVariables false
set_option maxRecDepth 100000
namespace Mine
/-- a tree that only takes marks, run -/
noncomputable def runS {α : Type} (S : Setting) : Sem α → Nat → Option (α × Nat)
  | .pure a, tk => some (a, tk)
  | .rule _ k, tk => runS S (k ()) tk
  | .at _ k, tk => runS S (k ()) tk
  | .point _ k, tk => runS S (k ()) tk
  | .ask k, tk => runS S (k S) tk
  | .fresh k, tk => runS S (k tk) (tk + 1)
  | _, _ => none
theorem runS_wp {α : Type} {M : Model} {Γ : Ctx} {E : Value → Pos → Shared → Prop} (t : Sem α) : ∀ (Q : α → Pos → Shared → Prop) (p : Pos) (s : Shared) (a : α) (tk : Nat), runS ⟨M.prog, M.w.params⟩ t s.toks = some (a, tk) →
    (∀ p', Q a p' { s with toks := tk }) → Sem.wp M Γ t Q E p s := by
  induction t with
  | pure b => intro Q p s a tk h hq; simp only [runS, Option.some.injEq, Prod.mk.injEq] at h; obtain ⟨rfl, rfl⟩ := h; exact hq p
  | rule _ k ih => intro Q p s a tk h hq; exact ih () Q p s a tk h hq
  | «at» p₀ k ih => intro Q p s a tk h hq; exact ih () Q p₀ s a tk h hq
  | point _ k ih => intro Q p s a tk h hq; exact ih () Q p s a tk h hq
  | ask k ih => intro Q p s a tk h hq; exact ih _ Q p s a tk h hq
  | fresh k ih => intro Q p s a tk h hq; exact ih _ Q p { s with toks := s.toks + 1 } a tk h hq
  | _ => intro Q p s a tk h hq; cases h
theorem runS_any {α : Type} {M : Model} {A : Around} {E : Value → Shared → Prop} {t : Sem α} {Q : α → Shared → Prop} {s : Shared} {a : α} {tk : Nat} (h : runS ⟨M.prog, M.w.params⟩ t s.toks = some (a, tk)) (hq : Q a { s with toks := tk }) : wpAny M A t Q E s :=
  fun Γ p hΓ => runS_wp t _ p s a tk h fun _ => hq
noncomputable def hexes : List Nat := [48, 49, 50, 51, 52, 53, 54, 55, 56, 57, 65, 66, 67, 68, 69, 70, 97, 98, 99, 100, 101, 102]
theorem mem_hexes {c : Nat} (h : hexC c = true) : c ∈ hexes := by
  have hc : c < 128 := by
    unfold hexC at h
    simp only [Bool.or_eq_true, Bool.and_eq_true, decide_eq_true_eq] at h
    omega
  have key : ∀ c, c < 128 → hexC c = true → c ∈ hexes := by decide +kernel
  exact key c hc h
noncomputable def hexPairs : List (Nat × Nat) := hexes.flatMap fun a => hexes.map fun b => (a, b)
theorem all16 (S : Setting) (t u : Tok) (tk : Nat) : (hexPairs.map fun p => runS S (Builtin.«int.__new__» ⟨[.type "int", .str ⟨#[p.1, p.2]⟩ t, .int 16 u], []⟩) tk) = hexPairs.map fun p => some (.done (.ret (.int ((16 * hexV p.1 + hexV p.2 : Nat) : Int) tk)), tk + 1) := by kernel_rfl
theorem int16 (S : Setting) (t u : Tok) (tk : Nat) {c1 c2 : Nat} (h1 : hexC c1 = true) (h2 : hexC c2 = true) : runS S (Builtin.«int.__new__» ⟨[.type "int", .str ⟨#[c1, c2]⟩ t, .int 16 u], []⟩) tk = some (.done (.ret (.int ((16 * hexV c1 + hexV c2 : Nat) : Int) tk)), tk + 1) := by
  have hm : (c1, c2) ∈ hexPairs := List.mem_flatMap.mpr ⟨c1, mem_hexes h1, List.mem_map.mpr ⟨c2, mem_hexes h2, rfl⟩⟩
  exact List.map_inj_left.mp (all16 S t u tk) (c1, c2) hm
theorem typeCall_int_2 (a b : Value) : checkTypeCall "int" ⟨[a, b], []⟩ = pure () := by kernel_rfl
theorem newCall_int_2 (a b : Value) : checkBuiltinCall "int.__new__" ⟨[.type "int", a, b], []⟩ = pure () := by kernel_rfl
end Mine
end
section
open PySem PySem.W PyProof.Rows PySem.Builtin PySem.Builtin.Re
set_option autoImplicit false
set_option linter.unusedVariables false
set_option maxRecDepth 100000
namespace Mine
/-- a function of the text called with one value as it lies -/
theorem call_raw {b : Base} (B : BaseOk b) {a : Addr} {fd : FuncData} {body : List Stmt} (D : DefAt b a fd body) {n : Nat} {nm : PySem.Str} {u : Value} {l : LV} {P : Heap → Prop}
    (hbind : ∀ (s : Shared), KeepsH b.h₀ s.heap → BindsTo s fd ⟨[u], []⟩ [(nm, u)])
    (hcn : ((fd.scope.names.filter (·.2 == .cell)).map (·.1)).Nodup) (hk : fd.scope.names.lookup nm = some .local)
    (h : ∀ (A : Around) (L : Addr) (s₀ : Shared) (M0 : List Addr), P s₀.heap → CxOk b n ⟨A, callEnvC fd L a⟩ → Ex b ⟨A, callEnvC fd L a⟩ s₀ M0 [] (upd (fun _ => none) nm (.r u)) [] body (fun _ _ => False) (fun l' => l' = l))
    (A : Around) (Mu : List Addr) (s : Shared) (E : Value → Shared → Prop) (R : Room (n + 1) A) (hp : 0 < s.toks) (hhi : ∀ a ∈ Mu, b.h₀.get? a = Option.none) (hb : KeepsH b.h₀ s.heap) (hL : Lt Mu s.heap) (hP : P s.heap) :
    wpAny (model b.prog b.w) A (call (.ref a) [u] []) (fun z s' => Grows s s' ∧ RepL b Mu s'.heap z l) E s := by
  obtain ⟨o, ho, hd⟩ := D.at'
  have hkeys : ∀ m, (cellsFrom m fd.scope.names []).map (·.1) = ((fd.scope.names.filter (·.2 == .cell)).map (·.1)).reverse := fun m => by rw [cellsFrom_keys]; simp
  have hcn' : ∀ m, ((cellsFrom m fd.scope.names []).map (·.1)).Nodup := fun m => by rw [hkeys]; simpa [List.Nodup, List.pairwise_reverse, ne_comm] using hcn
  have hsome : ∀ m x, x ∈ (fd.scope.names.filter (·.2 == .cell)).map (·.1) → ((cellsFrom m fd.scope.names []).lookup x).isSome = true := fun m x hx => by
    have : x ∈ (cellsFrom m fd.scope.names []).map (·.1) := by rw [hkeys]; exact List.mem_reverse.mpr hx
    obtain ⟨⟨y, c⟩, hm, rfl⟩ := List.mem_map.mp this
    rw [lookup_of_mem (hcn' m) hm]; rfl
  refine wpAny_call ?_
  refine call_cells (by have := R.depth; omega) (hb _ _ ho) hd (B.nolimit.keeps hb) (D.code.keeps hb) D.body (hbind s hb) D.clo (fun x hx => ?_) (fun s₁ le X => ?_) D.co D.gen D.kind
  · obtain rfl := List.mem_singleton.mp hx
    exact .inl hk
  · have ok : CxOk b n ⟨A.deeper (callEnvC fd s.heap.objs.size a), callEnvC fd s.heap.objs.size a⟩ :=
      ⟨⟨R.hand, by have := R.depth; show A.depth + 1 + n < _; omega, by have := R.units; show A.units + 3 + 3 * n + 200 < _; omega⟩, D.kind, D.globals, D.builtins⟩
    have hloc : (callEnvC fd s.heap.objs.size a).locals = s.heap.objs.size := rfl
    have hcells : (callEnvC fd s.heap.objs.size a).cells = cellsFrom (s.heap.objs.size + 1) fd.scope.names [] := rfl
    obtain ⟨h1, tk, e1⟩ := X.toInCall.same
    subst e1
    have le : s.toks ≤ tk := le
    have keep : KeepsH s.heap h1 := fun z o e => X.toInCall.keep z o e
    have ns := X.toInCall.ns
    have cellm : ∀ z ∈ (callEnvC fd s.heap.objs.size a).cells.map (·.2), ∃ x, (callEnvC fd s.heap.objs.size a).cells.lookup x = some z := fun z hz => by
      obtain ⟨⟨x, z'⟩, hm, rfl⟩ := List.mem_map.mp hz
      exact ⟨x, lookup_of_mem (by rw [hcells]; exact hcn' _) hm⟩
    have lo : ∀ z ∈ (callEnvC fd s.heap.objs.size a).cells.map (·.2), s.heap.objs.size < z := fun z hz => by
      obtain ⟨⟨x, z'⟩, hm, rfl⟩ := List.mem_map.mp hz
      exact X.above x z' hm
    have st : Stays Mu ((callEnvC fd s.heap.objs.size a).locals :: (callEnvC fd s.heap.objs.size a).cells.map (·.2) ++ ([] : Mus).map (·.1) ++ Mu) s.heap h1 := fun z o hn e => ⟨fun hm => by
      simp only [List.map_nil, List.append_nil, List.cons_append, List.mem_cons, List.mem_append] at hm
      have := Heap.lt_size e
      rcases hm with h | h | h
      · rw [h, hloc] at this; exact Nat.lt_irrefl _ this
      · exact Nat.lt_irrefl _ (Nat.lt_trans this (lo z h))
      · exact hn h, keep z o e⟩
    have H : Held b ⟨A.deeper (callEnvC fd s.heap.objs.size a), callEnvC fd s.heap.objs.size a⟩ s Mu [] (upd (fun _ => none) nm (.r u)) [] { s with heap := h1, toks := tk } := by
      refine { same := ⟨h1, tk, rfl, le⟩, pos := hp, keep := keep, base := hb, m0 := ⟨hL, hhi⟩, ns := ⟨_, ns⟩, nsHi := Nat.le_refl _, cells := fun x z e => ?_, apart := ⟨fun x y z ex ey => ?_, fun z hz => Nat.le_of_lt (lo z hz)⟩, vars := fun x l e => ?_, lt := fun z hz => ?_, muts := (fun p hp => nomatch hp), musApart := List.nodup_nil, guard := (fun p hp => nomatch hp) }
      · have hm := mem_of_lookup e
        have hlt := X.above x z hm
        exact ⟨Nat.le_of_lt hlt, Nat.ne_of_gt hlt, _, X.cell x z e⟩
      · exact name_of_addr X.apart (mem_of_lookup ex) (mem_of_lookup ey)
      · unfold upd at e
        by_cases hx : x = nm
        · rw [if_pos hx] at e; cases e; subst hx
          refine ⟨u, .inl ⟨hk, _, ns, ?_⟩, rfl⟩
          have hk' : (callEnvC fd s.heap.objs.size a).kindOf x = some .local := hk
          simp [bindL, hk']
        · rw [if_neg hx] at e; cases e
      · simp only [List.map_nil, List.append_nil, List.cons_append, List.mem_cons, List.mem_append] at hz
        rcases hz with h | h | h
        · obtain ⟨o, es, ep, e, _⟩ := ns; rw [h]; exact ⟨o, e⟩
        · obtain ⟨x, hx⟩ := cellm z h
          obtain ⟨o, e, _⟩ := X.cell x z hx
          exact ⟨o, e⟩
        · obtain ⟨o, e⟩ := hL z h; exact ⟨o, keep z o e⟩
    refine wpAny_mono ((h _ _ s Mu hP ok).wp _ _ H) (fun f s' g => ?_) fun _ _ x => x
    cases f with
    | next => obtain ⟨_, _, hf, _⟩ := g; exact hf.elim
    | ret v => obtain ⟨l', rfl, g1, g2⟩ := g; exact ⟨g1, g2⟩
    | brk => exact g.elim
    | cont => exact g.elim

theorem Cal.int16 {b : Base} {c1 c2 : Nat} (h1 : hexC c1 = true) (h2 : hexC c2 = true) : Cal b (.type "int") [.str ⟨#[c1, c2]⟩, .int 16] (.d (.int ((16 * hexV c1 + hexV c2 : Nat) : Int))) := fun A Mu s E vs R L r => by
  obtain ⟨v, w, rfl, p, q⟩ := r.two_inv; obtain ⟨t, rfl⟩ := p.str_inv; obtain ⟨u, rfl⟩ := q.int_inv
  refine callType_new F.called_int F.newNe_int (typeCall_int_2 _ _) (newCall_int_2 _ _) (fun obj => F.initArgs_range_2 obj _ _) F.entry_int_new (S := (Made.int ((16 * hexV c1 + hexV c2 : Nat) : Int)).spec)
    (Meets.of_wp fun prog w A R s hs => runS_any (Mine.int16 _ t u s.toks h1 h2) ⟨_, rfl, hs⟩) (show (Made.int _).post _ s from ⟨rfl, Grows.toks _ _, Rep.int _ _⟩)
end Mine
end
section
open PySem PySem.W PyProof.Rows PySem.Builtin PySem.Builtin.Re
set_option autoImplicit false
set_option linter.unusedVariables false
set_option maxRecDepth 100000
namespace Mine
theorem unquote_fun {b : Base} (T : TopOk b) (x : PySem.Str) {c1 c2 : Nat} (hx : tl x = [61, c1, c2]) (h1 : hexC c1 = true) (h2 : hexC c2 = true) (hv : 16 * hexV c1 + hexV c2 ≤ 1114111) :
    ∃ f, b.mg "unquote" = some f ∧ Fun b f [.str x] 0 (.d (.str ⟨#[16 * hexV c1 + hexV c2]⟩)) := by
  refine T.f_unquote.fun T.base (names := ["s"]) (by decide +kernel) rfl (fun pm code doc vs hv => ?_) fun A L a pm code doc s₀ M0 ok => ?_
  · obtain ⟨v, rfl⟩ := one_of hv; kernel_rfl
  · have hl : x.length = 3 := by rw [← tl_len, hx]; rfl
    have hsl : Txt.slice x (some 1) (some 3) = ⟨#[c1, c2]⟩ := by
      apply tl_inj
      rw [slice_plain x (by omega), hx]; rfl
    refine Ex.r ?_
    have hsz : 200000 ≤ sizeLine := by decide
    have e1 := Ev.sliceStr (b := b) (c := ⟨A, callEnvC (fdOf 15 "unquote" pm code doc .none) L a⟩) (Mu := MuOf ⟨A, callEnvC (fdOf 15 "unquote" pm code doc .none) L a⟩ [] M0) (ρ := rhoOf ["s"] [.str x]) (value := .Name "s" ⟨19, 19, 19, 20⟩) (lower := some (.Constant (.int 1) 0 ⟨19, 21, 19, 22⟩)) (upper := some (.Constant (.int 3) 0 ⟨19, 23, 19, 24⟩)) (p := ⟨19, 21, 19, 24⟩) (pos := ⟨19, 19, 19, 25⟩) (x := x) (lo := some 1) (hi := some 3) (Ev.v ok) Ev.i Ev.i (by omega)
    rw [hsl] at e1
    exact Ev.callB ok (Ev.bi ok T.base T.n_chr) (.one (Ev.callT ok (Ev.bi ok T.base T.n_int) (.two e1 Ev.i) (Cal.int16 h1 h2))) (Cal.chr _ (by omega) (by omega))
theorem hexV_le {c : Nat} (h : hexC c = true) : hexV c ≤ 15 := by
  have : (hexes.all fun c => decide (hexV c ≤ 15)) = true := by decide
  exact of_decide_eq_true (List.all_eq_true.mp this c (mem_hexes h))
theorem hit_text {x : PySem.Str} {p : Nat} (h : hit x.cps x.cps.size p = true) : tl (Builtin.Str.strSub x p (p + 3)) = [61, x.cps.getD (p + 1) 0, x.cps.getD (p + 2) 0] ∧ hexC (x.cps.getD (p + 1) 0) = true ∧ hexC (x.cps.getD (p + 2) 0) = true := by
  unfold hit at h
  simp only [Bool.and_eq_true, decide_eq_true_eq, beq_iff_eq] at h
  obtain ⟨⟨⟨h1, h2⟩, h3⟩, h4⟩ := h
  refine ⟨?_, h3, h4⟩
  rw [strSub_tl, show p + 3 - p = 3 by omega]
  have l0 : p < (tl x).length := by show p < x.cps.toList.length; rw [Array.length_toList]; omega
  have l1 : p + 1 < (tl x).length := by show p + 1 < x.cps.toList.length; rw [Array.length_toList]; omega
  have l2 : p + 2 < (tl x).length := by show p + 2 < x.cps.toList.length; rw [Array.length_toList]; omega
  have e : ∀ i (hi : i < (tl x).length), (tl x)[i] = x.cps.getD i 0 := fun i hi => by
    have : i < x.cps.size := by simpa using hi
    simp [tl, Array.getD, this]
  rw [List.drop_eq_getElem_cons l0, List.drop_eq_getElem_cons l1, List.drop_eq_getElem_cons l2, e _ l0, e _ l1, e _ l2, h2]
  rfl
section
variable {b : Base} {A : Around} {E : Value → Shared → Prop} {s : Shared}
theorem group_wp {m sp : Addr} {x : PySem.Str} {t u : Tok} {p : Nat} {pat : Value} {Q : PySem.Fin → Shared → Prop}
    (hm : s.heap.get? m = some { cls := .type "re.Match", data := .fields #[.str x t, pat, rawInt 0, rawInt x.cps.size, rawInt (-1), .ref sp] }) (hs : s.heap.get? sp = some { cls := .type "tuple", data := .seq #[rawInt p, rawInt ((p + 3 : Nat) : Int)] 0 })
    (hx : x.cps.size < 1000000) (hQ : Q (.done (.ret (.str (Builtin.Str.strSub x p (p + 3)) s.toks))) { s with toks := s.toks + 1 }) : wpAny (model b.prog b.w) A (Builtin.«re.Match.group» ⟨[.ref m, .int 0 u], []⟩) Q E s := by
  unfold Builtin.«re.Match.group»
  refine wpAny_bind (wpAny_pure ?_)
  dsimp only
  have hfound : ∀ {Q' : ReFound → Shared → Prop}, Q' { fields := #[.str x t, pat, rawInt 0, rawInt x.cps.size, rawInt (-1), .ref sp], spans := #[rawInt p, rawInt ((p + 3 : Nat) : Int)].map reRawOf } s → wpAny (model b.prog b.w) A (reFound (.ref m)) Q' E s := fun h => by
    unfold reFound
    exact wpAny_bind (fields_wp hm rfl (wpAny_bind (items_wp hs rfl (wpAny_pure h))))
  refine wpAny_bind (hfound ?_)
  refine wpAny_bind ?_
  unfold reGroupNumber
  refine wpAny_bind (wpAny_pure ?_)
  rw [if_pos (by rfl)]
  refine wpAny_bind ?_
  unfold asIndex
  refine wpAny_bind (wpAny_pure (wpAny_pure ?_))
  dsimp only
  rw [if_neg (by simp)]
  refine wpAny_pure ?_
  refine wpAny_bind ?_
  unfold reGroupText
  dsimp only
  rw [if_neg (by simp [reRawOf, rawInt]; omega)]
  unfold reTextOf
  refine wpAny_bind (wpAny_bind (wpAny_pure (wpAny_pure ?_)))
  dsimp only
  have q1 : ((#[rawInt (p : Int), rawInt ((p + 3 : Nat) : Int)].map reRawOf).getD (2 * Int.toNat 0) (-1)).toNat = p := by simp [reRawOf, rawInt]
  have q2 : ((#[rawInt (p : Int), rawInt ((p + 3 : Nat) : Int)].map reRawOf).getD (2 * Int.toNat 0 + 1) (-1)).toNat = p + 3 := by simp [reRawOf, rawInt]; omega
  rw [q1, q2]
  show wpAny _ _ (mkStr ⟨x.cps.extract p (p + 3)⟩) _ _ _
  exact wpAny_mkStr (wpAny_pure hQ) (pcs_str_sz hx)
end
theorem um_back {b : Base} (T : TopOk b) (x : PySem.Str) (hx : x.cps.size < 1000000) : ∃ fa, b.mg "_unquote_match" = some (.ref fa) ∧ Back b (.ref fa) x := by
  obtain ⟨fa, pm, code, doc, e, D⟩ := T.f_um.def (by decide +kernel) (by decide +kernel) (by decide +kernel)
  refine ⟨fa, e, fun A s E m sp t p pat R hp hb hm hs hh => ?_⟩
  obtain ⟨hy, h1, h2⟩ := hit_text hh
  generalize hyy : Builtin.Str.strSub x p (p + 3) = y at hy
  have hv1 := hexV_le h1
  have hv2 := hexV_le h2
  obtain ⟨fu, hfu, Fu⟩ := unquote_fun T y hy h1 h2 (by omega)
  refine wpAny_mono (call_raw (l := .d (.str ⟨#[unhexAt x.cps p]⟩)) T.base D (nm := "match") (u := .ref m) (n := 2) (P := fun h => h.get? m = some { cls := .type "re.Match", data := .fields #[.str x t, pat, rawInt 0, rawInt x.cps.size, rawInt (-1), .ref sp] } ∧ h.get? sp = some { cls := .type "tuple", data := .seq #[rawInt p, rawInt ((p + 3 : Nat) : Int)] 0 })
    (fun s _ => BindsTo.of_eq (by kernel_rfl)) (by show (((scopeOf (S 21)).names.filter (·.2 == .cell)).map (·.1)).Nodup; decide +kernel) (by show (scopeOf (S 21)).names.lookup ("match" : PySem.Str) = some .local; decide +kernel) (fun A L s₀ M0 hP ok => ?_) A [] s E R hp (fun a h => by cases h) hb (fun a h => by cases h) ⟨hm, hs⟩) (fun z s' g => ⟨g.1, Rep.str_inv g.2⟩) fun _ _ x => x
  refine .mk fun s E H => ?_
  refine wpAny_execs_cons (wpAny_Assign_Name ?_ (by rfl))
  refine wpAny_Call_method (T := "re.Match") (id := "re.Match.group") (by rfl) (by rfl) (by rfl) pa_match slot_group type_group (wpAny_mono ((Ev.v (l := .r (.ref m)) ok).wp s E H.hold) (fun v s₁ g₁ => ?_) fun _ _ x => x)
  have ev : v = .ref m := g₁.2
  subst ev
  have H₁ := H.grows g₁.1
  have hm1 := H₁.keep _ _ hP.1
  have hs1 := H₁.keep _ _ hP.2
  refine ⟨⟨_, hm1, rfl⟩, fun z ez => by cases ez; exact ⟨_, hm1, rfl⟩, ?_⟩
  rw [back1 _ _ _ rfl]
  refine Calls.callWith_builtin rfl (Calls.evalArgs_plain (Calls.spliced_cons (wpAny_Constant_int (Calls.spliced_nil ?_))))
  refine wpAny_call_entry slot_group ⟨_, hm1, rfl⟩ entry_group (group_wp (s := { s₁ with toks := s₁.toks + 1 }) hm1 hs1 hx ⟨_, rfl, ?_⟩) (args_group _ _)
  rw [hyy]
  have H₂ := H₁.grows (s' := { s₁ with toks := s₁.toks + 1 + 1 }) (Grows.toks _ _ (by omega))
  refine storeK ok H₂ (.inl (by kernel_rfl)) (l := .d (.str y)) (Rep.str _ _) fun s₃ H₃ => ?_
  exact (Ex.r (Ev.callF ok (Ev.g ok T.base hfu) (.one (Ev.v ok)) Fu (by omega))).wp s₃ E H₃
end Mine
end
section
open PySem PySem.W PyProof.Rows
set_option autoImplicit false
set_option linter.unusedVariables false
set_option maxRecDepth 100000
namespace Mine
theorem hd_fun {b : Base} (T : TopOk b) (x : PySem.Str) (hx : x.length < 1000000) : ∃ f, b.mg "header_decode" = some f ∧ Fun b f [.str x] 4 (.d (.str (ofL (restN (Txt.replace x ⟨#[95]⟩ ⟨#[32]⟩).cps ((Txt.replace x ⟨#[95]⟩ ⟨#[32]⟩).cps.size + 1) 0)))) := by
  have hr : (Txt.replace x ⟨#[95]⟩ ⟨#[32]⟩).cps.size < 1000000 := by
    show (Txt.replace x ⟨#[95]⟩ ⟨#[32]⟩).length < 1000000
    rw [← tl_len, replace_tl x (by decide), List.length_map, tl_len]; exact hx
  refine T.f_hd.fun T.base (names := ["s"]) (by decide +kernel) rfl (fun pm code doc vs hv => ?_) fun A L a pm code doc s₀ M0 ok => ?_
  · obtain ⟨v, rfl⟩ := one_of hv; kernel_rfl
  · obtain ⟨ra, hra, hpat⟩ := T.g_re
    obtain ⟨fa, hfa, hback⟩ := um_back T (Txt.replace x ⟨#[95]⟩ ⟨#[32]⟩) hr
    refine Ex.a ok (l := .d (.str (Txt.replace x ⟨#[95]⟩ ⟨#[32]⟩))) (Ev.replaceC ok (by rfl) (by rfl) (Ev.v ok) (by decide +kernel) ?_) ?_
    · show x.length + (x.length + 1) * 1 ≤ 16777216; omega
    refine Ex.r (Ev.resub ok (by decide) (Ev.g ok T.base hra) (Ev.g ok T.base hfa) (Ev.v ok) hpat hback hr (T.c_um _ hfa) rfl rfl (by rfl) (by rfl))
end Mine
end
section
open PySem PySem.W PyProof.Rows
set_option autoImplicit false
set_option linter.unusedVariables false
set_option maxRecDepth 100000
namespace Mine

noncomputable def hitL : List Nat → Bool
  | x :: a :: b :: _ => x == 61 && hexC a && hexC b
  | _ => false
noncomputable def unhexL : List Nat → Nat
  | _ :: a :: b :: _ => 16 * hexV a + hexV b
  | _ => 0
/-- what header_decode makes of it, but for the blanks -/
noncomputable def dec : List Nat → List Nat
  | [] => []
  | x :: r => if hitL (x :: r) = true then unhexL (x :: r) :: dec (r.drop 2) else x :: dec r
termination_by l => l.length
decreasing_by
  · simp only [List.length_cons, List.length_drop]; omega
  · simp only [List.length_cons]; omega
theorem dec_cons (x : Nat) (r : List Nat) : dec (x :: r) = if hitL (x :: r) = true then unhexL (x :: r) :: dec (r.drop 2) else x :: dec r := by rw [dec]
theorem dec_nil : dec [] = [] := by rw [dec]
theorem dec_ne {x : Nat} {r : List Nat} (h : x ≠ 61) : dec (x :: r) = x :: dec r := by
  rw [dec_cons, if_neg]
  match r with
  | [] => exact fun h => nomatch h
  | [_] => exact fun h => nomatch h
  | a :: b :: q => unfold hitL; simp [h]
theorem dec_hex {a b : Nat} {r : List Nat} (h1 : hexC a = true) (h2 : hexC b = true) : dec (61 :: a :: b :: r) = (16 * hexV a + hexV b) :: dec r := by
  rw [dec_cons, if_pos (by unfold hitL; simp [h1, h2])]; rfl
theorem dec_no {a : Nat} {r : List Nat} (h1 : hexC a = false) : dec (61 :: a :: r) = 61 :: dec (a :: r) := by
  rw [dec_cons, if_neg]
  match r with
  | [] => exact fun h => nomatch h
  | b :: q => unfold hitL; simp [h1]
theorem dec_app : ∀ (l r : List Nat), 61 ∉ l → dec (l ++ r) = l ++ dec r
  | [], r, _ => rfl
  | x :: l, r, h => by
    rw [List.cons_append, dec_ne (fun q => h (q ▸ List.mem_cons_self ..)), dec_app l r fun q => h (List.mem_cons_of_mem _ q)]; rfl
theorem dec_free (l : List Nat) (h : 61 ∉ l) : dec l = l := by
  have := dec_app l [] h
  rw [List.append_nil, dec_nil, List.append_nil] at this
  exact this

section
variable {text : Array Nat}
theorem getD_list (p : Nat) : text.getD p 0 = (text.toList[p]?).getD 0 := by
  simp [Array.getD_eq_getD_getElem?]
theorem hit_drop (p : Nat) : hitL (text.toList.drop p) = hit text text.size p ∧ (hit text text.size p = true → unhexL (text.toList.drop p) = unhexAt text p) := by
  unfold hit unhexAt
  rw [getD_list, getD_list, getD_list]
  have hs : text.size = text.toList.length := (Array.length_toList).symm
  rw [hs]
  generalize text.toList = l
  by_cases h : p + 3 ≤ l.length
  · have e0 : l.drop p = l[p] :: l[p + 1] :: l[p + 2] :: l.drop (p + 3) := by
      rw [List.drop_eq_getElem_cons (by omega), List.drop_eq_getElem_cons (by omega), List.drop_eq_getElem_cons (by omega)]
    rw [e0, List.getElem?_eq_getElem (by omega), List.getElem?_eq_getElem (by omega), List.getElem?_eq_getElem (by omega)]
    refine ⟨?_, fun _ => rfl⟩
    unfold hitL
    rw [decide_eq_true h]; simp
  · rw [decide_eq_false h]
    refine ⟨?_, fun q => by simp at q⟩
    have hl : (l.drop p).length < 3 := by rw [List.length_drop]; omega
    match l.drop p, hl with
    | [], _ => rfl
    | [_], _ => rfl
    | [_, _], _ => rfl
    | _ :: _ :: _ :: _, q => simp at q; omega
theorem dec_miss {p : Nat} (hp : p < text.size) (h : hit text text.size p = false) : dec (text.toList.drop p) = text.toList.getD p 0 :: dec (text.toList.drop (p + 1)) := by
  have hl : p < text.toList.length := by rw [Array.length_toList]; exact hp
  have h1 := (hit_drop (text := text) p).1
  rw [List.drop_eq_getElem_cons hl] at h1 ⊢
  rw [dec_cons, h1, h, if_neg (by decide)]
  congr 1
  rw [List.getD_eq_getElem?_getD, List.getElem?_eq_getElem hl]; rfl
theorem dec_hit {p : Nat} (h : hit text text.size p = true) : dec (text.toList.drop p) = unhexAt text p :: dec (text.toList.drop (p + 3)) := by
  have hp : p + 3 ≤ text.size := by
    unfold hit at h
    simp only [Bool.and_eq_true, decide_eq_true_eq] at h
    exact h.1.1.1
  have hl : p < text.toList.length := by rw [Array.length_toList]; omega
  obtain ⟨h1, h2⟩ := hit_drop (text := text) p
  have h2 := h2 h
  rw [List.drop_eq_getElem_cons hl] at h1 h2 ⊢
  rw [dec_cons, h1, h, if_pos rfl, h2, List.drop_drop]
theorem dec_run (st : Nat) : ∀ k, (∀ q, st ≤ q → q < st + k → hit text text.size q = false) → st + k ≤ text.size → dec (text.toList.drop st) = (text.toList.drop st).take k ++ dec (text.toList.drop (st + k))
  | 0, _, _ => by simp
  | k + 1, h, hs => by
    have ih := dec_run st k (fun q h1 h2 => h q h1 (by omega)) (by omega)
    have hl : st + k < text.toList.length := by rw [Array.length_toList]; omega
    rw [ih, dec_miss (p := st + k) (by omega) (h _ (by omega) (by omega)), List.take_add_one, List.getElem?_drop, List.getElem?_eq_getElem hl]
    simp only [Option.toList_some, List.append_assoc, List.singleton_append]
    rw [List.getD_eq_getElem?_getD, List.getElem?_eq_getElem hl]; rfl
theorem first_none (lim : Nat) : ∀ (n st : Nat), firstHit text lim n st = none → ∀ q, st ≤ q → q < st + n → hit text lim q = false
  | 0, st, _, q, h1, h2 => by omega
  | n + 1, st, h, q, h1, h2 => by
    unfold firstHit at h
    split at h
    · cases h
    · rename_i hh
      by_cases e : q = st
      · rw [e]; exact Bool.not_eq_true _ |>.mp hh
      · exact first_none lim n (st + 1) h q (by omega) (by omega)
theorem first_some (lim : Nat) : ∀ (n st p : Nat), firstHit text lim n st = some p → ∀ q, st ≤ q → q < p → hit text lim q = false
  | 0, st, p, h, q, h1, h2 => by cases h
  | n + 1, st, p, h, q, h1, h2 => by
    unfold firstHit at h
    split at h
    · cases h; omega
    · rename_i hh
      by_cases e : q = st
      · rw [e]; exact Bool.not_eq_true _ |>.mp hh
      · exact first_some lim n (st + 1) p h q (by omega) h2
theorem rest_dec : ∀ (n st : Nat), st ≤ text.size → text.size - st < n → restN text n st = dec (text.toList.drop st)
  | 0, st, _, h => by omega
  | n + 1, st, hs, h => by
    unfold restN
    cases hf : firstHit text text.size (text.size - st + 1) st with
    | none =>
      dsimp only
      rw [dec_run st (text.size - st) (fun q h1 h2 => first_none _ _ _ hf q h1 (by omega)) (by omega), show st + (text.size - st) = text.size by omega]
      have e : text.toList.drop text.size = [] := List.drop_eq_nil_iff.mpr (by rw [Array.length_toList]; exact Nat.le_refl _)
      rw [List.take_of_length_le (by rw [List.length_drop, Array.length_toList]; exact Nat.le_refl _), e, dec_nil, List.append_nil]
    | some p =>
      dsimp only
      obtain ⟨h1, h2⟩ := firstHit_spec _ _ _ _ _ hf
      have hp : p + 3 ≤ text.size := by
        unfold hit at h2
        simp only [Bool.and_eq_true, decide_eq_true_eq] at h2
        exact h2.1.1.1
      rw [rest_dec n (p + 3) hp (by omega), dec_run st (p - st) (fun q h3 h4 => first_some _ _ _ _ hf q h3 (by omega)) (by omega), show st + (p - st) = p by omega, dec_hit h2]
end
theorem hd_dec (x : PySem.Str) : restN (Txt.replace x ⟨#[95]⟩ ⟨#[32]⟩).cps ((Txt.replace x ⟨#[95]⟩ ⟨#[32]⟩).cps.size + 1) 0 = dec ((tl x).map fun a => if a = 95 then 32 else a) := by
  rw [rest_dec _ 0 (Nat.zero_le _) (by omega), List.drop_zero]
  congr 1
  exact replace_tl x (by decide)
end Mine
end
section
open PySem PySem.W PyProof.Rows
set_option autoImplicit false
set_option linter.unusedVariables false
set_option maxRecDepth 100000
namespace Mine

noncomputable def under (l : List Nat) : List Nat := l.map fun a => if a = 95 then 32 else a
theorem under_app (a b : List Nat) : under (a ++ b) = under a ++ under b := List.map_append
theorem under_free {l : List Nat} (h : 95 ∉ l) : under l = l := by
  unfold under
  conv => rhs; rw [← List.map_id l]
  exact List.map_congr_left fun a ha => if_neg (fun (q : a = 95) => h (q ▸ ha))
theorem under_61 {l : List Nat} (h : 61 ∉ l) : 61 ∉ under l := fun q => by
  obtain ⟨a, ha, e⟩ := List.mem_map.mp q
  split at e
  · cases e
  · exact h (e ▸ ha)
theorem words_under (x : PySem.Str) : tl (Txt.join ⟨#[32]⟩ (Txt.split x ⟨#[95]⟩)) = under (tl x) := by
  rw [join_tl, split_one _ (by decide)]
  exact glue_cut 95 32 (tl x) (x.length + 1) (by rw [tl_len]; omega)
namespace LP
variable (P : LP)
noncomputable def markL : List Nat := if P.q = true then 61 :: P.eol else [P.oct, 39]
end LP
variable {P : LP}
theorem hexV_digit : ∀ k : Nat, k < 16 → hexC (hexDigit k) = true ∧ hexV (hexDigit k) = k := by decide
theorem LP.Ok.eol_95 (hP : P.Ok) : 95 ∉ (61 :: P.eol) := by
  have := hP.ht
  have h1 := (hexDigit_ne (k := P.oct / 16) (by omega)).2.2.2
  have h2 := (hexDigit_ne (k := P.oct % 16) (by omega)).2.2.2
  unfold LP.eol LP.fore LP.fig
  split
  · simp; omega
  · simp; omega
theorem LP.Ok.dec_soft (hP : P.Ok) (r : List Nat) : dec (61 :: P.eol ++ r) = P.markL ++ dec r := by
  have := hP.ht
  have n1 := hexDigit_ne (k := P.oct / 16) (by omega)
  have n2 := hexDigit_ne (k := P.oct % 16) (by omega)
  have v1 := hexV_digit (P.oct / 16) (by omega)
  have v2 := hexV_digit (P.oct % 16) (by omega)
  unfold LP.markL LP.eol LP.fore LP.fig
  by_cases q : P.q = true
  · rw [if_pos q, if_pos q]
    show dec (61 :: 34 :: hexDigit (P.oct / 16) :: hexDigit (P.oct % 16) :: 39 :: r) = 61 :: 34 :: hexDigit (P.oct / 16) :: hexDigit (P.oct % 16) :: 39 :: dec r
    rw [dec_no (by decide), dec_ne (by decide), dec_ne n1.2.1, dec_ne n2.2.1, dec_ne (by decide)]
  · rw [if_neg q, if_neg q]
    show dec (61 :: hexDigit (P.oct / 16) :: hexDigit (P.oct % 16) :: 39 :: r) = P.oct :: 39 :: dec r
    rw [dec_hex v1.1 v2.1, v1.2, v2.2, dec_ne (by decide), show 16 * (P.oct / 16) + P.oct % 16 = P.oct by omega]
theorem LP.Ok.tx_61 (hP : P.Ok) : 61 ∉ P.tx := fun h => plain_61 (hP.tx_good h).1 rfl
theorem LP.Ok.dec_rows (hP : P.Ok) (r : List Nat) (W : Nat) : ∀ ks : List Nat, dec (under (ks.flatMap fun k => (P.tx.drop (k * W)).take W ++ 61 :: P.eol) ++ r) = (ks.flatMap fun k => under ((P.tx.drop (k * W)).take W) ++ P.markL) ++ dec r
  | [] => rfl
  | k :: ks => by
    rw [List.flatMap_cons, List.flatMap_cons, under_app, under_app, under_free hP.eol_95]
    have h61 : 61 ∉ under ((P.tx.drop (k * W)).take W) := under_61 fun q => hP.tx_61 (List.mem_of_mem_drop (List.mem_of_mem_take q))
    rw [List.append_assoc, List.append_assoc, dec_app _ _ h61, hP.dec_soft, hP.dec_rows r W ks]
    simp only [List.append_assoc]
theorem dec_quoted {c : Nat} (h : blank c = true) : dec (tl (quoted c)) = [c] ∧ under (tl (quoted c)) = tl (quoted c) ∧ under [c] = [c] := by
  have : c = 32 ∨ c = 9 := by unfold blank at h; simpa using h
  rcases this with rfl | rfl
  · refine ⟨?_, by decide, by decide⟩
    show dec [61, 50, 48] = [32]
    rw [dec_hex (by decide) (by decide), dec_nil]; rfl
  · refine ⟨?_, by decide, by decide⟩
    show dec [61, 48, 57] = [9]
    rw [dec_hex (by decide) (by decide), dec_nil]; rfl
theorem LP.Ok.tx_two (hP : P.Ok) : 2 ≤ P.tx.length := by rw [tx_len]; unfold LP.T; have := hP.he; omega
theorem eol_last : blank ((P.eol.getLast?).getD 0) = false ∧ P.eol ≠ [] := by
  rw [eol_tag, getLast_app (by simp)]
  exact ⟨by decide, by simp⟩
theorem LP.Ok.letter_lett (hP : P.Ok) : lettL (dueL P.tx P.eol P.n) = P.letter := enc_lett _ _ _ hP.tx_two hP.hn.1 eol_last.1 eol_last.2
theorem LP.Ok.decoded (hP : P.Ok) : dec (under P.letter) = glueL P.markL ((pcs P.tx P.n).map under) := by
  have hfl := full_le P.tx P.n (by have := hP.hn; omega)
  have hrhs : glueL P.markL ((pcs P.tx P.n).map under) = ((List.range (fullL P.tx P.n)).flatMap fun k => under ((P.tx.drop (k * P.n)).take P.n) ++ P.markL) ++ under (P.tx.drop (fullL P.tx P.n * P.n)) := by
    unfold pcs
    rw [List.map_append, List.map_cons, List.map_nil, glue_snoc, List.map_map, List.flatMap_map]; rfl
  have h61 : 61 ∉ under (P.tx.drop (fullL P.tx P.n * P.n)) := under_61 fun q => hP.tx_61 (List.mem_of_mem_drop q)
  rw [hrhs, ← hP.letter_lett]
  unfold dueL
  by_cases hnil : P.tx.drop (fullL P.tx P.n * P.n) = []
  · rw [hnil, List.append_nil]
    have hpos : 0 < fullL P.tx P.n := by
      rcases Nat.eq_zero_or_pos (fullL P.tx P.n) with h | h
      · rw [h, Nat.zero_mul, List.drop_zero] at hnil
        have := hP.tx_two
        rw [hnil] at this; simp at this
      · exact h
    obtain ⟨m, hm⟩ : ∃ m, fullL P.tx P.n = m + 1 := ⟨fullL P.tx P.n - 1, by omega⟩
    have hlett : lettL ((List.range (fullL P.tx P.n)).flatMap fun k => (P.tx.drop (k * P.n)).take P.n ++ 61 :: P.eol) = (List.range (fullL P.tx P.n)).flatMap fun k => (P.tx.drop (k * P.n)).take P.n ++ 61 :: P.eol := by
      rw [hm, List.range_succ, List.flatMap_append, List.flatMap_cons, List.flatMap_nil, List.append_nil, ← List.append_assoc, lett_app _ _ (by simp)]
      congr 1
      unfold lettL
      rw [List.getLast?_cons_of_ne_nil eol_last.2, eol_last.1]; rfl
    rw [hlett]
    have := hP.dec_rows [] P.n (List.range (fullL P.tx P.n))
    rw [List.append_nil, dec_nil] at this
    exact this
  · have hlt : fullL P.tx P.n * P.n < P.tx.length := by
      exact Nat.lt_of_not_le fun q => hnil (List.drop_eq_nil_iff.mpr q)
    rw [lett_app _ _ hnil, under_app, hP.dec_rows]
    congr 1
    unfold lettL
    rw [getLast_drop hlt]
    by_cases hb : blank ((P.tx.getLast?).getD 0) = true
    · rw [if_pos hb, under_app, (dec_quoted hb).2.1]
      have h1 : P.tx.drop (fullL P.tx P.n * P.n) = (P.tx.drop (fullL P.tx P.n * P.n)).dropLast ++ [(P.tx.getLast?).getD 0] := by
        have h2 := List.dropLast_concat_getLast hnil
        have h3 : (P.tx.drop (fullL P.tx P.n * P.n)).getLast hnil = (P.tx.getLast?).getD 0 := by
          rw [← getLast_drop hlt, List.getLast?_eq_some_getLast hnil]; rfl
        rw [h3] at h2
        exact h2.symm
      have h61' : 61 ∉ under (P.tx.drop (fullL P.tx P.n * P.n)).dropLast := under_61 fun q => hP.tx_61 (List.mem_of_mem_drop (List.mem_of_mem_take (dropLast_take (P.tx.drop (fullL P.tx P.n * P.n)) ▸ q)))
      rw [dec_app _ _ h61', (dec_quoted hb).1]
      conv => rhs; rw [h1, under_app, (dec_quoted hb).2.2]
    · rw [if_neg hb, dec_free _ h61]
end Mine
end
section
open PySem PySem.W PyProof.Rows
set_option autoImplicit false
set_option linter.unusedVariables false
set_option maxRecDepth 100000
namespace Mine

theorem cut_lens (c : Nat) : ∀ (l : List Nat) (k : Nat), (cutL c l k).length ≤ l.length + 1 ∧ ∀ w ∈ cutL c l k, w.length ≤ l.length
  | [], _ => by unfold cutL; exact ⟨Nat.le_refl _, fun w hw => by rw [List.mem_singleton.mp hw]; exact Nat.le_refl _⟩
  | a :: r, 0 => by unfold cutL; exact ⟨by simp, fun w hw => by rw [List.mem_singleton.mp hw]; exact Nat.le_refl _⟩
  | a :: r, k + 1 => by
    unfold cutL
    split
    · have ih := cut_lens c r k
      refine ⟨by simpa using ih.1, fun w hw => ?_⟩
      rcases List.mem_cons.mp hw with rfl | hw
      · exact Nat.zero_le _
      · have := ih.2 w hw; simp only [List.length_cons]; omega
    · have ih := cut_lens c r (k + 1)
      match hh : cutL c r (k + 1) with
      | [] => exact absurd hh (cutL_ne c r (k + 1))
      | h :: t =>
        rw [hh] at ih
        refine ⟨by show (preH [a] (h :: t)).length ≤ _; unfold preH; simp only [List.length_cons] at ih ⊢; omega, fun w hw => ?_⟩
        unfold preH at hw
        rcases List.mem_cons.mp hw with rfl | hw
        · have := ih.2 h (List.mem_cons_self ..); simp only [List.length_append, List.length_cons, List.length_nil]; omega
        · have := ih.2 w (List.mem_cons_of_mem _ hw); simp only [List.length_cons]; omega
theorem split_lens (x : PySem.Str) : (Txt.split x ⟨#[95]⟩).length ≤ x.length + 1 ∧ ∀ w ∈ Txt.split x ⟨#[95]⟩, w.length ≤ x.length := by
  have h := cut_lens 95 (tl x) (x.length + 1)
  have e := split_one x (c := 95) (by decide)
  rw [← e, tl_len] at h
  refine ⟨by have := h.1; rwa [List.length_map] at this, fun w hw => ?_⟩
  have := h.2 (tl w) (List.mem_map.mpr ⟨w, hw, rfl⟩)
  rwa [tl_len] at this
theorem flat_len {α : Type} (f : α → List Nat) (B : Nat) : ∀ l : List α, (∀ x ∈ l, (f x).length ≤ B) → (l.flatMap f).length ≤ l.length * B
  | [], _ => by simp
  | x :: r, h => by
    have ih := flat_len f B r fun y hy => h y (List.mem_cons_of_mem _ hy)
    have hx := h x (List.mem_cons_self ..)
    rw [List.flatMap_cons, List.length_append, List.length_cons, Nat.succ_mul]
    omega
theorem full_small (x : List Nat) (W : Nat) (hW : 3 ≤ W) : fullL x W * 3 ≤ x.length := Nat.le_trans (Nat.mul_le_mul_left _ hW) (full_le x W (by omega))
theorem pcs_len (x : List Nat) (W : Nat) : (pcs x W).length = fullL x W + 1 := by unfold pcs; simp
theorem pcs_each (x : List Nat) (W : Nat) : ∀ w ∈ pcs x W, w.length ≤ x.length ∧ ∀ c ∈ w, c ∈ x := by
  intro w hw
  unfold pcs at hw
  rcases List.mem_append.mp hw with h | h
  · obtain ⟨k, _, rfl⟩ := List.mem_map.mp h
    refine ⟨?_, fun c hc => List.mem_of_mem_drop (List.mem_of_mem_take hc)⟩
    rw [List.length_take, List.length_drop]; omega
  · obtain rfl := List.mem_singleton.mp h
    refine ⟨?_, fun c hc => List.mem_of_mem_drop hc⟩
    rw [List.length_drop]; omega
theorem pcs_join (x : List Nat) (W : Nat) (sep : PySem.Str) (hW : 3 ≤ W) (hx : x.length ≤ 500) (hs : sep.length ≤ 10) : JoinOk sep ((pcs x W).map ofL) = true := by
  have h1 := full_small x W hW
  refine joinOk_one sep (by omega) _ _ 500 (fun w hw => by rw [len_ofL]; have := (pcs_each x W w hw).1; omega) ?_
  rw [pcs_len]
  have : (fullL x W + 1) * (500 + sep.length) ≤ 170 * 510 := Nat.mul_le_mul (by omega) (by omega)
  omega
theorem due_len (x eol : List Nat) (W : Nat) (hW : 3 ≤ W) (hx : x.length ≤ 500) (he : eol.length ≤ 10) : (dueL x eol W).length ≤ 150000 := by
  have h1 := full_small x W hW
  unfold dueL
  have h2 := flat_len (fun k => (x.drop (k * W)).take W ++ 61 :: eol) 600 (List.range (fullL x W)) fun k _ => by
    rw [List.length_append, List.length_take, List.length_drop, List.length_cons]; omega
  rw [List.length_range] at h2
  rw [List.length_append, List.length_drop]
  have : fullL x W * 600 ≤ 167 * 600 := Nat.mul_le_mul_right _ (by omega)
  omega
theorem pieces_eq (x : List Nat) (W : Nat) (h : 2 ≤ x.length) (hW : 0 < W) : piecesOf (ofL x) W = (pcs x W).map ofL := by
  apply map_tl_inj
  rw [pieces_tl x W h hW, map_tl_ofL]
theorem due_join (x eol : List Nat) (W : Nat) (h : 2 ≤ x.length) (hW : 0 < W) : Txt.join (ofL (61 :: eol)) ((pcs x W).map ofL) = ofL (dueL x eol W) := by
  apply tl_inj
  rw [← pieces_eq x W h hW, due_tl x eol W h hW, tl_ofL]
theorem due_pos (x eol : List Nat) (W : Nat) (h : 2 ≤ x.length) : 0 < (dueL x eol W).length := by
  unfold dueL
  rw [List.length_append]
  rcases Nat.eq_zero_or_pos (fullL x W) with q | q
  · rw [q, Nat.zero_mul, List.drop_zero]; omega
  · obtain ⟨m, hm⟩ : ∃ m, fullL x W = m + 1 := ⟨fullL x W - 1, by omega⟩
    rw [hm, List.range_succ, List.flatMap_append, List.length_append, List.flatMap_cons, List.length_append, List.length_append, List.length_cons]
    omega
theorem letter_of (x eol : List Nat) (W : Nat) (h : 2 ≤ x.length) : letterOf (ofL (dueL x eol W)) = ofL (lettL (dueL x eol W)) := by
  apply tl_inj
  rw [letter_tl _ (by rw [len_ofL]; exact due_pos x eol W h), tl_ofL, tl_ofL]
/-- both functions: a text in pieces, and the letter of them -/
theorem letter_fun2 {b : Base} (T : TopOk b) (x eol : List Nat) (W : Nat) (h : 2 ≤ x.length) (hx : x.length ≤ 500) (hW : 3 ≤ W) (he : eol.length ≤ 9) (hb : blank ((eol.getLast?).getD 0) = false) (hne : eol ≠ []) :
    ∃ f, b.mg "_law_letter" = some f ∧ Fun b f [.list (((pcs x W).map ofL).map .str), .str (ofL (61 :: eol))] 0 (.d (.str (ofL (encL x eol W)))) := by
  have hsz : 200000 ≤ sizeLine := by decide
  have hd := due_len x eol W hW hx (by omega)
  have hj := due_join x eol W h (by omega)
  obtain ⟨f, hf, F⟩ := letter_fun T ((pcs x W).map ofL) (ofL (61 :: eol)) (pcs_join x W _ hW hx (by rw [len_ofL]; simp; omega)) (by rw [hj, len_ofL]; omega) (by rw [hj]; exact last_some _ (by rw [len_ofL]; exact due_pos x eol W h))
  rw [hj, letter_of x eol W h, enc_lett x eol W h hW hb hne] at F
  exact ⟨f, hf, F⟩
theorem pieces_fun2 {b : Base} (T : TopOk b) (x : List Nat) (W : Nat) (h : 2 ≤ x.length) (hx : x.length ≤ 500) (hW : 3 ≤ W) (hW2 : W < 1000) :
    ∃ f, b.mg "_law_pieces" = some f ∧ Fun b f [.str (ofL x), .int W] 0 (.pl (((pcs x W).map ofL).map .str)) := by
  obtain ⟨f, hf, F⟩ := pieces_fun T (ofL x) W (by omega) (by omega) (by rw [len_ofL]; omega) (last_some _ (by rw [len_ofL]; omega))
  rw [pieces_eq x W h (by omega)] at F
  exact ⟨f, hf, F⟩
theorem encode_fun1' {b : Base} (T : TopOk b) (x : List Nat) (hx : ∀ c ∈ x, bodyPlain c = true) (h0 : 2 ≤ x.length) (hl : x.length < 10000) :
    ∃ f, b.mg "body_encode" = some f ∧ Fun b f [.str (ofL x)] 1 (.d (.str (ofL (encL x [10] 75)))) := by
  obtain ⟨f, hf, F⟩ := encode_fun1 T (ofL x) (by rw [tl_ofL]; exact hx) (by rw [len_ofL]; exact h0) (by rw [len_ofL]; exact hl)
  have e : Txt.join ⟨#[10]⟩ (encAll (ofL x) ⟨#[10]⟩ 75) = ofL (encL x [10] 75) := by
    apply tl_inj
    rw [tl_ofL]
    exact enc_tl x [10] 75 (by omega)
  rw [e] at F
  exact ⟨f, hf, F⟩
theorem mul4 (x : List Nat) : Txt.mul (ofL x) 4 = ofL (x ++ x ++ x ++ x) := by
  unfold Txt.mul
  rw [if_neg (by decide)]
  by_cases h : (((4 : Int) == 1 || (ofL x).length == 0) = true)
  · rw [if_pos h]
    have : x = [] := by
      rw [len_ofL] at h
      simpa using h
    rw [this]; rfl
  · rw [if_neg h]
    apply tl_inj
    rw [tl_ofL]
    show (((((#[] : Array Nat) ++ (ofL x).cps) ++ (ofL x).cps) ++ (ofL x).cps) ++ (ofL x).cps).toList = _
    simp [ofL]
theorem mul4_ok (x : List Nat) (h : x.length ≤ 1000) : MulOk (ofL x) 4 := by
  refine ⟨by decide, fun _ _ => ?_, fun _ _ => ?_⟩
  · rw [len_ofL]
    have : ((2 : Int) ^ 63 - 1) / 4 = 2305843009213693951 := by decide
    omega
  · rw [len_ofL]
    unfold Builtin.Str.tooLong
    have h2 : 200000 ≤ sizeLine := by decide
    show decide (x.length * 4 > sizeLine) = false
    exact decide_eq_false (by omega)
theorem LP.Ok.two_ticks {P : LP} (hP : P.Ok) : Txt.splitMax (ofL (39 :: 39 :: P.letter)) tick 2 = [ofL [], ofL [], ofL P.letter] := by
  apply map_tl_inj
  have := splitMax_one (ofL (39 :: 39 :: P.letter)) (c := 39) (by decide) 2
  rw [show ((2 : Nat) : Int) = 2 from rfl] at this
  rw [show tick = ⟨#[39]⟩ from rfl, this, tl_ofL]
  show cutL 39 (39 :: 39 :: P.letter) 2 = [tl (ofL []), tl (ofL []), tl (ofL P.letter)]
  rw [tl_ofL, tl_ofL]
  have e1 := cut_sep (c := 39) [] (39 :: P.letter) 1 (by simp)
  have e2 := cut_sep (c := 39) [] P.letter 0 (by simp)
  rw [cutL_zero] at e2
  exact e1.trans (congrArg _ e2)
end Mine
end
section
open PySem PySem.W PyProof.Rows
set_option autoImplicit false
set_option linter.unusedVariables false
set_option maxRecDepth 100000
namespace Mine

noncomputable def r6 (P : LP) : Rho := upd (upd (fun _ => none) "letter" (.d (.str (ofL P.letter)))) "parts" (.pl (P.words.map .str))
theorem LP.Ok.letter_lt {P : LP} (hP : P.Ok) : ∀ c ∈ P.letter, c < 256 := by
  rw [hP.letter_words]
  have : ∀ ws : List (List Nat), (∀ w ∈ ws, ∀ c ∈ w, c < 256) → ∀ c ∈ glueL [39] ws, c < 256 := by
    intro ws
    induction ws with
    | nil => intro _ c hc; cases hc
    | cons x r ih =>
      intro h c hc
      cases r with
      | nil => exact h x (List.mem_cons_self ..) c hc
      | cons y r =>
        have hc : c ∈ x ++ [39] ++ glueL [39] (y :: r) := hc
        simp only [List.mem_append] at hc
        rcases hc with (q | q) | q
        · exact h x (List.mem_cons_self ..) c q
        · obtain rfl := List.mem_singleton.mp q; decide
        · exact ih (fun w hw => h w (List.mem_cons_of_mem _ hw)) c q
  exact this _ hP.words_lt
theorem fore_empty {P : LP} : (ofL P.fore == (PySem.Str.ofString "")) = !P.q := by
  unfold LP.fore
  cases P.q <;> decide +kernel
theorem segE {b : Base} (T : TopOk b) {P : LP} (hP : P.Ok) {A : Around} {L a : Addr} {pm code doc : Value} {s₀ : Shared} {M0 : List Addr} {n : Nat} (ok : CxOk b n (cL A pm code doc L a)) (hn : 8 ≤ n) {K : Rho → Mus → Prop} {R : LV → Prop}
    (h : Ex b (cL A pm code doc L a) s₀ M0 [] (r6 P) [] ((bodyOf (S 35)).drop 34) K R) :
    Ex b (cL A pm code doc L a) s₀ M0 [] (r4 P) [] ((bodyOf (S 35)).drop 28) K R := by
  have sm := hP.small
  have hsz : 200000 ≤ sizeLine := by decide
  have htwo := hP.tx_two
  have htl := tx_len (P := P)
  have hel := eol_len (P := P)
  have hfo := fore_len (P := P)
  have hll := hP.letter_len
  have hfig : P.fig.length = 2 := rfl
  have hn3 := hP.hn
  refine Ex.a ok (l := .d (.str (ofL (61 :: P.eol)))) ?_ ?_
  · refine Ev.cast (Ev.bin ok (Ev.bin ok (Ev.bin ok Ev.s (Ev.v ok) (Bop.cat _ _ ?_)) (Ev.v ok) (Bop.cat _ _ ?_)) Ev.s (Bop.cat _ _ ?_)) ?_
    · show 1 + (ofL P.fore).length ≤ _; rw [len_ofL]; omega
    · show (ofL [61] ++ ofL P.fore).length + _ ≤ _
      rw [ofL_app, len_ofL, len_ofL, List.length_append]; show 1 + _ + _ ≤ _; omega
    · show (ofL [61] ++ ofL P.fore ++ ofL P.fig).length + 1 ≤ _
      rw [ofL_app, ofL_app, len_ofL, List.length_append, List.length_append]; show 1 + _ + _ + 1 ≤ _; omega
    · show LV.d (.str (ofL [61] ++ ofL P.fore ++ ofL P.fig ++ ofL [39])) = _
      rw [ofL_app, ofL_app, ofL_app]
      unfold LP.eol
      simp
  obtain ⟨fp, hfp, Fp⟩ := pieces_fun2 T P.tx P.n htwo (by omega) hn3.1 (by omega)
  refine Ex.a ok (l := .pl (((pcs P.tx P.n).map ofL).map .str)) (Ev.callF ok (Ev.g ok T.base hfp) (.two (Ev.v ok) (Ev.v ok)) Fp (by omega)) ?_
  obtain ⟨fl, hfl, Fl⟩ := letter_fun2 T P.tx P.eol P.n htwo (by omega) hn3.1 (by omega) eol_last.1 eol_last.2
  have e1 : encL P.tx P.eol P.n = P.letter := rfl
  rw [e1] at Fl
  have h2t := hP.two_ticks
  obtain ⟨fd, hfd, Fd⟩ := decode_fun T (ofL (39 :: 39 :: P.letter)) (by rw [len_ofL]; simp; omega) (by rw [h2t]; show 3 < 2 ^ 62; decide)
  have hdec : decoded (ofL (39 :: 39 :: P.letter)) = .pl (([[], [], P.letter].map ofL).map .str) := by
    unfold decoded
    rw [h2t, if_neg (by show ¬ 3 ≤ 2; decide)]; rfl
  rw [hdec] at Fd
  have hsh : SeqAt.shaped (.list (([[], [], P.letter].map ofL).map .str)) = true := shaped_strs _ fun w hw c hc => by
    rcases List.mem_cons.mp hw with rfl | hw
    · cases hc
    · rcases List.mem_cons.mp hw with rfl | hw
      · cases hc
      · obtain rfl := List.mem_singleton.mp hw; exact hP.letter_lt c hc
  refine Ex.skip (Te.or (.cons (t := false) (u := false) (Te.cast (Te.cmp ok (Ev.v ok) (Ev.callF ok (Ev.g ok T.base hfl) (.two (Ev.weak (Ev.v ok)) (Ev.v ok)) Fl (by omega)) (Cop.nes _ _) rfl) (bne_eq_false_iff_eq.mpr rfl)) fun _ => .cons (t := false) (u := false) (Te.cast (Te.cmp ok (Ev.weak (Ev.callF ok (Ev.g ok T.base hfd) (.one (Ev.cast (Ev.bin ok Ev.s (Ev.v ok) (Bop.cat _ _ ?_)) ?_)) Fd (by omega))) (Ev.listD (.cons Ev.s rfl (.cons Ev.s rfl (.cons (Ev.v ok) rfl .nil))) (by show 3 ≤ sizeLine; omega)) (Cop.ned _ _ hsh hsh) rfl) ?_) fun _ => .nil)) ?_
  · show 2 + (ofL P.letter).length ≤ _; rw [len_ofL]; omega
  · show LV.d (.str (ofL [39, 39] ++ ofL P.letter)) = _
    rw [ofL_app]; rfl
  · exact congrArg not (eqv_self hsh)
  -- the long text
  have hx4 : (P.tx ++ P.tx ++ P.tx ++ P.tx).length = 4 * P.T := by simp [htl]; omega
  obtain ⟨fe, hfe, Fe⟩ := encode_fun1' T (P.tx ++ P.tx ++ P.tx ++ P.tx) (fun c hc => by
    simp only [List.mem_append] at hc
    rcases hc with ((q | q) | q) | q <;> exact (hP.tx_good q).1) (by omega) (by omega)
  obtain ⟨fp4, hfp4, Fp4⟩ := pieces_fun2 T (P.tx ++ P.tx ++ P.tx ++ P.tx) 75 (by omega) (by omega) (by decide) (by decide)
  obtain ⟨fl4, hfl4, Fl4⟩ := letter_fun2 T (P.tx ++ P.tx ++ P.tx ++ P.tx) [10] 75 (by omega) (by omega) (by decide) (by decide) (by decide) (by decide)
  have hm4 := mul4 P.tx
  have m4 : ∀ {p1 p2 p3 : Pos} {k : Nat} {ρ : Rho}, ρ "text" = some (.d (.str (ofL P.tx))) → Ev b (cL A pm code doc L a) (MuOf (cL A pm code doc L a) [] M0) ρ (.BinOp (.Name "text" p1) .Mult (.Constant (.int 4) k p2) p3) (.d (.str (ofL (P.tx ++ P.tx ++ P.tx ++ P.tx)))) := fun hr =>
    Ev.cast (Ev.bin ok (Ev.v ok hr) Ev.i (Bop.smul _ 4 (mul4_ok P.tx (by omega)))) (congrArg (fun x => LV.d (.str x)) hm4)
  refine Ex.skip (Te.cast (Te.cmp ok (Ev.callF ok (Ev.g ok T.base hfe) (.one (m4 (by kernel_rfl))) Fe (by omega)) (Ev.callF ok (Ev.g ok T.base hfl4) (.two (Ev.weak (Ev.callF ok (Ev.g ok T.base hfp4) (.two (m4 (by kernel_rfl)) Ev.i) Fp4 (by omega))) Ev.s) Fl4 (by omega)) (Cop.nes _ _) rfl) (bne_eq_false_iff_eq.mpr rfl)) ?_
  -- header_decode
  have hto := hP.ht
  refine Ex.a ok (l := .d (.str (ofL P.markL))) (Ev.ifexp (t := !P.q) (Te.cast (Te.cmp ok (Ev.v ok) Ev.s (Cop.eqs _ _) rfl) fore_empty) (fun q => ?_) (fun q => ?_)) ?_
  · have hq : P.q = false := by simpa using q
    refine Ev.cast (Ev.bin ok (Ev.callB ok (Ev.bi ok T.base T.n_chr) (.one (Ev.v ok)) (Cal.chr P.oct (by omega) (by omega))) Ev.s (Bop.cat _ _ (by show 1 + 1 ≤ sizeLine; omega))) ?_
    unfold LP.markL
    rw [if_neg (by rw [hq]; decide)]
    rfl
  · have hq : P.q = true := by simpa using q
    unfold LP.markL
    rw [if_pos hq]
    exact Ev.v ok
  have hml : P.markL.length ≤ 5 := by unfold LP.markL; split <;> simp; omega
  obtain ⟨fh, hfh, Fh⟩ := hd_fun T (ofL P.letter) (by rw [len_ofL]; omega)
  rw [hd_dec, tl_ofL] at Fh
  have hfin : ofL (dec (under P.letter)) = Txt.join (ofL P.markL) ((pcs P.tx P.n).map fun p => Txt.join ⟨#[32]⟩ (Txt.split (ofL p) ⟨#[95]⟩)) := by
    apply tl_inj
    rw [tl_ofL, hP.decoded, join_tl, tl_ofL, List.map_map]
    congr 1
    refine List.map_congr_left fun p _ => ?_
    show under p = tl (Txt.join ⟨#[32]⟩ (Txt.split (ofL p) ⟨#[95]⟩))
    rw [words_under, tl_ofL]
  have hpl := pcs_len P.tx P.n
  have hfs := full_small P.tx P.n hn3.1
  have hj2 : JoinOk (ofL P.markL) ((pcs P.tx P.n).map fun p => Txt.join ⟨#[32]⟩ (Txt.split (ofL p) ⟨#[95]⟩)) = true := by
    refine joinOk_one _ (by rw [len_ofL]; omega) _ _ 100 (fun p hp => ?_) ?_
    · rw [← tl_len, words_under, tl_ofL]
      unfold under
      rw [List.length_map]
      have := (pcs_each _ _ p hp).1; omega
    · rw [len_ofL, hpl]
      have : (fullL P.tx P.n + 1) * (100 + P.markL.length) ≤ 40 * 105 := Nat.mul_le_mul (by omega) (by omega)
      omega
  refine Ex.skip (Te.cast (Te.cmp ok (Ev.callF ok (Ev.g ok T.base hfh) (.one (Ev.v ok)) Fh (by omega)) (Ev.m ok (Ev.v ok) (.one (Ev.weak (Ev.cast (Ev.compS0 ok [] (xs := (pcs P.tx P.n).map ofL) (Src.lS ok (Ev.weak (Ev.v ok))) (by rw [List.length_map, hpl]; omega) (fun p => .str (Txt.join ⟨#[32]⟩ (Txt.split p ⟨#[95]⟩))) (fun _ _ => rfl) fun C p hp ok' => ?_) ?_))) PySem.F.slot_str_join PySem.F.type_str_join (Cal.join _ _ hj2)) (Cop.nes _ _) rfl) ?_) (Ex.le ?_ h)
  · have hpl2 : p.length ≤ 100 := by
      obtain ⟨w, hw, rfl⟩ := List.mem_map.mp hp
      rw [len_ofL]
      have := (pcs_each _ _ w hw).1; omega
    have hsl := split_lens p
    have hjp : JoinOk ⟨#[32]⟩ (Txt.split p ⟨#[95]⟩) = true := by
      have := joinOk_one ⟨#[32]⟩ (by decide) (Txt.split p ⟨#[95]⟩) id 100 (fun w hw => by have := hsl.2 w hw; exact Nat.le_trans this hpl2) (by
        have h1 : (⟨#[32]⟩ : PySem.Str).length = 1 := rfl
        rw [h1]
        omega)
      rwa [List.map_id] at this
    exact Ev.m ok' Ev.s (.one (Ev.weak (Ev.m ok' (Ev.v ok') (.one Ev.s) PySem.F.slot_str_split PySem.F.type_str_split (Cal.split p ⟨#[95]⟩ (by decide) (by omega))))) PySem.F.slot_str_join PySem.F.type_str_join (Cal.join _ _ hjp)
  · rw [List.map_map, List.map_map]; rfl
  · exact bne_eq_false_iff_eq.mpr hfin
  unfold r6
  exact Le.put (Le.put Le.none (by kernel_rfl)) (by kernel_rfl)
end Mine
end
section
open PySem PySem.W PyProof.Rows
set_option autoImplicit false
set_option linter.unusedVariables false
set_option maxRecDepth 100000
namespace Mine
section
variable {prog : Program} {w : World} {A : Around} {E : Value → Shared → Prop} {s : Shared}
theorem same_wp {id : String} {p q : Addr} {o1 o2 : Obj} {e1 e2 : DictEntry} {n1 n2 : Nat} {k v : PySem.Str} {u1 u2 : Tok} {Q : Bool → Shared → Prop} (hp : s.heap.get? p = some o1) (hq : s.heap.get? q = some o2)
    (d1 : o1.data = .dict #[e1] n1) (d2 : o2.data = .dict #[e2] n2) (s1 : (p == sysModules) = false) (s2 : (q == sysModules) = false)
    (k1 : (strKind prog w).is k e1.key = true) (h1 : e1.hash = (strKind prog w).hash k) (k2 : KeysOf (strKind prog w) #[e2]) (k2' : (strKind prog w).is k e2.key = true) (v1 : e1.val = .str v u1) (v2 : e2.val = .str v u2)
    (hQ : Q true s) : wpAny (model prog w) A (Builtin.Dict.samePairs id p q) Q E s := by
  unfold Builtin.Dict.samePairs Builtin.Dict.showsAll
  rw [s1, s2]
  refine wpAny_bind (wpAny_of_eq (a := ()) (by rfl) ?_)
  refine wpAny_bind (wpAny_of_eq (a := ()) (by rfl) ?_)
  refine wpAny_bind (wpAny_dictEntries hp d1 ?_)
  dsimp only
  refine wpAny_bind (wpAny_dictEntries hq d2 ?_)
  rw [if_neg (by simp)]
  refine wpAny_bind (wpAny_dictEpoch hp d1 ?_)
  rw [Std.Legacy.Range.forIn_eq_forIn_range']
  simp only [Std.Legacy.Range.size, Nat.sub_zero, Nat.add_sub_cancel, Nat.div_one]
  rw [show List.range' 0 (#[e1] : Array DictEntry).size 1 = [0] from rfl, List.forIn_cons]
  refine wpAny_bind (wpAny_bind (wpAny_bind (wpAny_dictEntries hp d1 ?_)))
  rw [show (#[e1] : Array DictEntry)[0]? = some e1 from rfl]
  dsimp only
  rw [h1, v1]
  refine wpAny_bind (wpAny_holding (wpAny_bind (wpAny_dictFind_of k1 hq d2 k2 ?_)))
  rw [show (#[e2].findIdx? fun e => (strKind prog w).is k e.key) = some 0 by simp [Array.findIdx?, Array.findIdx?.loop, k2']]
  dsimp only
  refine wpAny_bind (wpAny_dictEntries hq d2 ?_)
  rw [show (#[e2] : Array DictEntry)[0]? = some e2 from rfl]
  dsimp only
  rw [v2]
  refine wpAny_holding (SeqAt.EqAt.str_str v u1 v u2 prog w _ _ ?_)
  rw [if_neg (by simp)]
  refine wpAny_bind (wpAny_dictEpoch hp d1 ?_)
  rw [if_neg (by simp)]
  refine wpAny_pure ?_
  dsimp only
  rw [List.forIn_nil]
  exact wpAny_pure (wpAny_pure hQ)
theorem dict_eq_wp {p q : Addr} {o1 o2 : Obj} {e1 e2 : DictEntry} {n1 n2 : Nat} {k v : PySem.Str} {u1 u2 : Tok} {Q : PySem.Fin → Shared → Prop} (hp : s.heap.get? p = some o1) (hq : s.heap.get? q = some o2) (c2 : o2.cls = .type "dict")
    (d1 : o1.data = .dict #[e1] n1) (d2 : o2.data = .dict #[e2] n2) (s1 : (p == sysModules) = false) (s2 : (q == sysModules) = false)
    (k1 : (strKind prog w).is k e1.key = true) (h1 : e1.hash = (strKind prog w).hash k) (k2 : KeysOf (strKind prog w) #[e2]) (k2' : (strKind prog w).is k e2.key = true) (v1 : e1.val = .str v u1) (v2 : e2.val = .str v u2)
    (hQ : Q (.done (.ret (.bool true))) s) : wpAny (model prog w) A (Builtin.«dict.__eq__» ⟨[.ref p, .ref q], []⟩) Q E s := by
  show wpAny (model prog w) A (do
    let (self, other) ← Builtin.Dict.dictSlotArgs "__eq__" ⟨[.ref p, .ref q], []⟩
    if !(← isInstance other (.type "dict")) then rule s!"dict.{"__eq__"}.not-a-dict"; return ← PySem.ret .notImplemented
    PySem.ret (.bool ((← Builtin.Dict.samePairs s!"dict.{"__eq__"}" (← PySem.Builtin.Dict.addrOf self) (← PySem.Builtin.Dict.addrOf other)) == true))) Q E s
  refine wpAny_bind (wpAny_of_eq (a := (Value.ref p, Value.ref q)) (by rfl) ?_)
  dsimp only
  refine wpAny_bind (wpAny_isInstance (T := "dict") ⟨o2, hq, c2⟩ PySem.F.sub_dict_dict ?_)
  rw [if_neg (by decide)]
  refine wpAny_bind (wpAny_of_eq (a := p) (by rfl) ?_)
  refine wpAny_bind (wpAny_of_eq (a := q) (by rfl) ?_)
  refine wpAny_bind (m := Builtin.Dict.samePairs _ p q) (wpAny_mono (same_wp (Q := fun t s' => t = true ∧ s' = s) hp hq d1 d2 s1 s2 k1 h1 k2 k2' v1 v2 ⟨rfl, rfl⟩) (fun t s' g => ?_) fun _ _ x => x)
  obtain ⟨rfl, rfl⟩ := g
  exact wpAny_pure hQ
theorem one_entry {h : Heap} {a : Addr} {k v : PySem.Str} {kvs : List (PySem.Str × Value)} {Mu : List Addr} (hd : h.DictOf (strKind prog w) a kvs) (hk : kvs.map (·.1) = [k]) (hv : RepAll Mu h (kvs.map (·.2)) [.str v]) :
    ∃ o e n u, h.get? a = some o ∧ o.cls = .type "dict" ∧ o.data = .dict #[e] n ∧ (strKind prog w).is k e.key = true ∧ e.hash = (strKind prog w).hash k ∧ KeysOf (strKind prog w) #[e] ∧ e.val = .str v u := by
  obtain ⟨o, es, ep, ho, hx, hdat, hko, hp, _⟩ := hd
  have hl : kvs.length = 1 := by have := congrArg List.length hk; simpa using this
  obtain ⟨⟨k', x⟩, rfl⟩ := List.length_eq_one_iff.mp hl
  obtain rfl : k' = k := by simpa using hk
  obtain ⟨y, r, e1, hy, _⟩ := hv.cons_inv
  have ex : x = y := by simpa using congrArg (·.head?) e1
  subst ex
  obtain ⟨u, rfl⟩ := Rep.str_inv hy
  have hel : es.toList.length = 1 := hp.length
  obtain ⟨e, hes⟩ := List.length_eq_one_iff.mp hel
  have he : es = #[e] := by rw [← Array.toList_inj, hes]
  subst he
  have hp : Pairs (strKind prog w) [e] [(k', .str v u)] := hp
  cases hp with
  | cons h1 h2 hrest =>
    obtain ⟨k2, h3, h4⟩ := hko e (by simp)
    obtain rfl : k2 = k' := (strKind prog w).inj _ _ _ h3 h1
    exact ⟨o, e, ep, u, ho, hx.1, hdat, h3, h4, hko, h2⟩
end
theorem Ev.cmpK {b : Base} {c : Cx} {Mu : List Addr} {ρ : Rho} {n : Nat} (ok : CxOk b n c) {l r : Expr} {pos : Pos} {k v : PySem.Str} (hl : Ev b c Mu ρ l (.k [(k, .str v)])) (hr : Ev b c Mu ρ r (.k [(k, .str v)]))
    (hm : behindInMarks .Eq r = false) : Ev b c Mu ρ (.Compare l [.Eq] [r] pos) (.d (.bool true)) := .mk fun s E H =>
  wpAny_Compare1 (wpAny_mono (hl.wp s E H) (fun x s₁ g₁ => wpAny_mono (hr.wp s₁ E (H.grows g₁.1)) (fun y s₂ g₂ => by
    have q1 := RepL.keeps g₂.1.keeps g₁.2
    obtain ⟨p, rfl, _, np, kvs1, hd1, hk1, hv1⟩ := q1
    obtain ⟨q, rfl, _, nq, kvs2, hd2, hk2, hv2⟩ := g₂.2
    obtain ⟨o1, e1, n1, u1, a1, a2, a3, a4, a5, a6, a7⟩ := one_entry hd1 hk1 hv1
    obtain ⟨o2, e2, n2, u2, b1, b2, b3, b4, b5, b6, b7⟩ := one_entry hd2 hk2 hv2
    show wpAny _ _ (richCompare .Eq (.ref p) (.ref q)) _ _ _
    refine wpAny_richCompare_same_room (T := "dict") ⟨o1, a1, a2⟩ ⟨o2, b1, b2⟩ PySem.F.slot_dict_eq (wpAny_call_entry PySem.F.slot_dict_eq ⟨o1, a1, a2⟩ PySem.F.entry_dict_eq (dict_eq_wp a1 b1 b2 a3 b3 np nq a4 a5 b6 b4 a7 b7 ⟨_, rfl, (fun z => nomatch z), g₁.1.trans g₂.1, Rep.bool _⟩) (PySem.F.args_dict_eq_2 _ _)) (by have := ok.room.units; omega)) fun _ _ x => x) fun _ _ x => x) hm
end Mine
end
section
open PySem PySem.W PyProof.Rows
set_option autoImplicit false
set_option linter.unusedVariables false
set_option maxRecDepth 100000
namespace Mine
/-- {k: v} of two texts -/
theorem Ev.dict1 {b : Base} {c : Cx} {Mu : List Addr} {ρ : Rho} {n : Nat} (ok : CxOk b n c) (hsys : ∃ o, b.h₀.get? sysModules = some o) {ke ve : Expr} {pos : Pos} {k v : PySem.Str} (hk : Ev b c Mu ρ ke (.d (.str k))) (hv : Ev b c Mu ρ ve (.d (.str v))) :
    Ev b c Mu ρ (.Dict [some ke] [ve] pos) (.k [(k, .str v)]) := .mk fun s E H => by
  refine wpAny_Dict_walk (knd := strKind b.prog b.w) rfl rfl (by simp) (by show 1 ≤ 15; decide) ?_
  have G0 : Grows s { s with heap := s.heap.push { cls := .type "dict", data := .dict #[] } } := Grows.push _ _
  have H0 := H.grows G0
  refine pairTrees_cons_walk (wpAny_mono (hk.wp _ E H0) (fun kv s₁ g₁ => wpAny_mono (hv.wp s₁ E (H0.grows g₁.1)) (fun vv s₂ g₂ => pairTrees_nil_walk ?_) fun _ _ x => x) fun _ _ x => x)
  obtain ⟨t, rfl⟩ := Rep.str_inv (RepL.keeps (b := b) (l := .d (.str k)) g₂.1.keeps g₁.2 : Rep Mu s₂.heap kv (.str k))
  obtain ⟨u, rfl⟩ := Rep.str_inv g₂.2
  have G2 := (G0.trans g₁.1).trans g₂.1
  have hD : s₂.heap.DictOf (strKind b.prog b.w) s.heap.objs.size [] := by
    obtain ⟨o, es, ep, e1, r⟩ := Heap.DictOf.new (knd := strKind b.prog b.w) s.heap
    exact ⟨o, es, ep, (g₁.1.trans g₂.1).keeps _ _ e1, r⟩
  refine ⟨[(k, .str v u)], ?_, hD, fun h' hm hs => ?_⟩
  · exact ⟨strKind_is _ _ _ _, rfl, trivial⟩
  · have nsm : (s.heap.objs.size == sysModules) = false := by
      obtain ⟨o, e⟩ := hsys
      have := Heap.lt_size (H.base _ _ e)
      simpa using Nat.ne_of_gt this
    have kk : KeepsH s.heap h' := fun a o e => by
      have ha := Heap.lt_size e
      rw [hs.2 a (Nat.ne_of_lt ha)]
      exact G2.keeps a o e
    obtain ⟨hh, tk, e2, _, le⟩ := G2
    subst e2
    refine ⟨Grows.of (s := s) kk (Nat.le_trans le (Nat.le_add_right _ _)), s.heap.objs.size, rfl, notin_size H.lt, nsm, [(k, .str v u)], ?_, rfl, RepAll.cons (Rep.str _ _) RepAll.nil⟩
    have e : merged ([] : List (PySem.Str × Value)) [(k, .str v u)] = [(k, .str v u)] := by simp [merged, stored]
    rw [e] at hm
    exact hm
end Mine
end
section
open PySem PySem.W PyProof.Rows
set_option autoImplicit false
set_option linter.unusedVariables false
set_option maxRecDepth 100000
namespace Mine
theorem Ex.try {b : Base} {c : Cx} {s₀ : Shared} {M0 : List Addr} {G : List (Addr × Obj)} {ρ : Rho} {mus : Mus} {body orelse rest : List Stmt} {h₀ : ExceptHandler} {hs : List ExceptHandler} {pos : Pos} {K : Rho → Mus → Prop} {R : LV → Prop}
    (h : Ex b c s₀ M0 G ρ mus body (fun _ _ => False) R) : Ex b c s₀ M0 G ρ mus (.Try body (h₀ :: hs) orelse [] pos :: rest) K R :=
  Ex.cons (K1 := fun _ _ => False) (.mk fun s E H => wpAny_Try_except (wpAny_mono (h.wp s _ H) (fun f s₁ g => by
    cases f with
    | next => obtain ⟨_, _, q, _⟩ := g; exact q.elim
    | ret v => exact g
    | brk => exact g
    | cont => exact g) fun _ _ x => x)) fun _ _ q => q.elim
theorem pair_fun {b : Base} (T : TopOk b) {x k v : PySem.Str} (h : KV x k v) : ∃ f, b.mg "_law_pair" = some f ∧ Fun b f [.str x] 1 (.k [(k, .str (unq v))]) := by
  refine T.f_pair.fun T.base (names := ["line"]) (by decide +kernel) rfl (fun pm code doc vs hv => ?_) fun A L a pm code doc s₀ M0 ok => ?_
  · obtain ⟨v, rfl⟩ := one_of hv; kernel_rfl
  · obtain ⟨f, hf, F⟩ := parse_fun T [(x, k, v)] (fun p hp => by obtain rfl := List.mem_singleton.mp hp; exact h) (by show 1 ≤ 1000; decide)
    have e : parsedOf [(x, k, v)] = [(k, .str (unq v))] := by simp [parsedOf, putKV, putS]
    rw [e] at F
    exact Ex.try (Ex.r (Ev.callF ok (Ev.g ok T.base hf) (.one (Ev.listD (.cons (Ev.v ok) rfl .nil) (by show 1 ≤ sizeLine; decide))) F (by omega)))
end Mine
end
section
open PySem PySem.W PyProof.Rows
set_option autoImplicit false
set_option linter.unusedVariables false
set_option maxRecDepth 100000
namespace Mine
/-- a call of a function of the text, its body still to be shown -/
theorem call_held {b : Base} (B : BaseOk b) {a : Addr} {fd : FuncData} {body : List Stmt} (D : DefAt b a fd body) {n : Nat} {names : List PySem.Str} {dv : List Value} {ds dd : List PyData}
    (hdv : ∀ Mu h, RepAll Mu h dv dd) (hbind : ∀ (s : Shared) (vs : List Value), KeepsH b.h₀ s.heap → vs.length = ds.length → BindsTo s fd ⟨vs, []⟩ (names.zip (vs ++ dv)))
    (hn : names.Nodup) (hl : names.length = (ds ++ dd).length) (hcn : ((fd.scope.names.filter (·.2 == .cell)).map (·.1)).Nodup)
    (hk : ∀ x ∈ names, fd.scope.names.lookup x = some .local ∨ (fd.scope.names.lookup x = some .cell ∧ x ∈ (fd.scope.names.filter (·.2 == .cell)).map (·.1)))
    {A : Around} {Mu : List Addr} {s : Shared} {Q : Value → Shared → Prop} {E : Value → Shared → Prop} {vs : List Value} (R : Room (n + 1) A) (hp : 0 < s.toks) (hhi : ∀ a ∈ Mu, b.h₀.get? a = Option.none) (hb : KeepsH b.h₀ s.heap) (hL : Lt Mu s.heap) (ra : RepAll Mu s.heap vs ds)
    (h : ∀ s₁, CxOk b n ⟨A.deeper (callEnvC fd s.heap.objs.size a), callEnvC fd s.heap.objs.size a⟩ → Held b ⟨A.deeper (callEnvC fd s.heap.objs.size a), callEnvC fd s.heap.objs.size a⟩ s Mu [] (rhoOf names (ds ++ dd)) [] s₁ →
      wpAny (model b.prog b.w) (A.deeper (callEnvC fd s.heap.objs.size a)) (execs body (callEnvC fd s.heap.objs.size a)) (fun f s' => Q (match f with | .ret v => v | _ => .none) s')
        (fun e s' => wpAny (model b.prog b.w) (A.deeper (callEnvC fd s.heap.objs.size a)) (leaving (callEnvC fd s.heap.objs.size a) e) (fun _ s'' => E e s'') (fun e' s'' => E e' s'') s') s₁) :
    wpAny (model b.prog b.w) A (call (.ref a) vs []) Q E s := by
  obtain ⟨o, ho, hd⟩ := D.at'
  have hvl : vs.length = ds.length := ra.length
  have ra' : RepAll Mu s.heap (vs ++ dv) (ds ++ dd) := ra.append (hdv Mu s.heap)
  have hkeys : ∀ m, (cellsFrom m fd.scope.names []).map (·.1) = ((fd.scope.names.filter (·.2 == .cell)).map (·.1)).reverse := fun m => by rw [cellsFrom_keys]; simp
  have hcn' : ∀ m, ((cellsFrom m fd.scope.names []).map (·.1)).Nodup := fun m => by rw [hkeys]; simpa [List.Nodup, List.pairwise_reverse, ne_comm] using hcn
  have hsome : ∀ m x, x ∈ (fd.scope.names.filter (·.2 == .cell)).map (·.1) → ((cellsFrom m fd.scope.names []).lookup x).isSome = true := fun m x hx => by
    have : x ∈ (cellsFrom m fd.scope.names []).map (·.1) := by rw [hkeys]; exact List.mem_reverse.mpr hx
    obtain ⟨⟨y, c⟩, hm, rfl⟩ := List.mem_map.mp this
    rw [lookup_of_mem (hcn' m) hm]; rfl
  refine wpAny_call ?_
  refine call_cells (by have := R.depth; omega) (hb _ _ ho) hd (B.nolimit.keeps hb) (D.code.keeps hb) D.body (hbind s vs hb hvl) D.clo (fun x hx => ?_) (fun s₁ le X => ?_) D.co D.gen D.kind
  · have hx1 : x.1 ∈ names := (List.of_mem_zip (show (x.1, x.2) ∈ names.zip (vs ++ dv) from hx)).1
    exact (hk x.1 hx1).imp id fun ⟨h1, h2⟩ => ⟨h1, hsome _ _ h2⟩
  · have ok : CxOk b n ⟨A.deeper (callEnvC fd s.heap.objs.size a), callEnvC fd s.heap.objs.size a⟩ :=
      ⟨⟨R.hand, by have := R.depth; show A.depth + 1 + n < _; omega, by have := R.units; show A.units + 3 + 3 * n + 200 < _; omega⟩, D.kind, D.globals, D.builtins⟩
    have hloc : (callEnvC fd s.heap.objs.size a).locals = s.heap.objs.size := rfl
    have hcells : (callEnvC fd s.heap.objs.size a).cells = cellsFrom (s.heap.objs.size + 1) fd.scope.names [] := rfl
    obtain ⟨h1, tk, e1⟩ := X.toInCall.same
    subst e1
    have le : s.toks ≤ tk := le
    have keep : KeepsH s.heap h1 := fun z o e => X.toInCall.keep z o e
    have ns := X.toInCall.ns
    have cellm : ∀ z ∈ (callEnvC fd s.heap.objs.size a).cells.map (·.2), ∃ x, (callEnvC fd s.heap.objs.size a).cells.lookup x = some z := fun z hz => by
      obtain ⟨⟨x, z'⟩, hm, rfl⟩ := List.mem_map.mp hz
      exact ⟨x, lookup_of_mem (by rw [hcells]; exact hcn' _) hm⟩
    have lo : ∀ z ∈ (callEnvC fd s.heap.objs.size a).cells.map (·.2), s.heap.objs.size < z := fun z hz => by
      obtain ⟨⟨x, z'⟩, hm, rfl⟩ := List.mem_map.mp hz
      exact X.above x z' hm
    have st : Stays Mu ((callEnvC fd s.heap.objs.size a).locals :: (callEnvC fd s.heap.objs.size a).cells.map (·.2) ++ ([] : Mus).map (·.1) ++ Mu) s.heap h1 := fun z o hn e => ⟨fun hm => by
      simp only [List.map_nil, List.append_nil, List.cons_append, List.mem_cons, List.mem_append] at hm
      have := Heap.lt_size e
      rcases hm with h | h | h
      · rw [h, hloc] at this; exact Nat.lt_irrefl _ this
      · exact Nat.lt_irrefl _ (Nat.lt_trans this (lo z h))
      · exact hn h, keep z o e⟩
    have H : Held b ⟨A.deeper (callEnvC fd s.heap.objs.size a), callEnvC fd s.heap.objs.size a⟩ s Mu [] (rhoOf names (ds ++ dd)) [] { s with heap := h1, toks := tk } := by
      refine { same := ⟨h1, tk, rfl, le⟩, pos := hp, keep := keep, base := hb, m0 := ⟨hL, hhi⟩, ns := ⟨_, ns⟩, nsHi := Nat.le_refl _, cells := fun x z e => ?_, apart := ⟨fun x y z ex ey => ?_, fun z hz => Nat.le_of_lt (lo z hz)⟩, vars := fun x l e => ?_, lt := fun z hz => ?_, muts := (fun p hp => nomatch hp), musApart := List.nodup_nil, guard := (fun p hp => nomatch hp) }
      · have hm := mem_of_lookup e
        have hlt := X.above x z hm
        exact ⟨Nat.le_of_lt hlt, Nat.ne_of_gt hlt, _, X.cell x z e⟩
      · exact name_of_addr X.apart (mem_of_lookup ex) (mem_of_lookup ey)
      · unfold rhoOf at e
        obtain ⟨d, hd', rfl⟩ := Option.map_eq_some_iff.mp e
        obtain ⟨v, rv, b1, b2⟩ := bind_name (callEnvC fd s.heap.objs.size a).kindOf x d names (vs ++ dv) (ds ++ dd) (fun _ => none) (fun _ => none) hn ra' hl hd'
        have hx1 : x ∈ names := (List.of_mem_zip (PySem.mem_of_lookup hd')).1
        refine ⟨v, ?_, rv.mono st⟩
        rcases hk x hx1 with hkl | ⟨hkc, hm⟩
        · exact .inl ⟨hkl, _, ns, b1 hkl⟩
        · obtain ⟨z, hz⟩ := Option.isSome_iff_exists.mp (hsome (s.heap.objs.size + 1) x hm)
          have := X.cell x z hz
          rw [b2 (by show fd.scope.names.lookup x ≠ _; rw [hkc]; decide)] at this
          exact .inr ⟨hkc, z, hz, this⟩
      · simp only [List.map_nil, List.append_nil, List.cons_append, List.mem_cons, List.mem_append] at hz
        rcases hz with h | h | h
        · obtain ⟨o, es, ep, e, _⟩ := ns; rw [h]; exact ⟨o, e⟩
        · obtain ⟨x, hx⟩ := cellm z h
          obtain ⟨o, e, _⟩ := X.cell x z hx
          exact ⟨o, e⟩
        · obtain ⟨o, e⟩ := hL z h; exact ⟨o, keep z o e⟩
    exact h _ ok H
/-- two names, one item: ValueError -/
theorem few_raise {prog : Program} {w : World} {A : Around} {E : Value → Shared → Prop} {s : Shared} {l : Addr} {x : Value} {Q : List Value → Shared → Prop} (hh : A.handled = none) (hl : s.heap.IsList l #[x])
    (hE : ∀ h' tk e, Heap.NewExc s.heap h' e "ValueError" → E (.ref e) { s with heap := h', toks := tk }) : wpAny (model prog w) A (unpackItems (.ref l) 2 none) Q E s := by
  have hlt : l ≠ s.heap.objs.size := by obtain ⟨o, ho, _⟩ := hl; exact Nat.ne_of_lt (Heap.lt_size ho)
  unfold unpackItems
  refine wpAny_bind ?_
  unfold notIterableAtAll
  refine wpAny_bind (wpAny_specialOf hl.typeIs slot_list_iter.lookup ?_)
  refine wpAny_pure ?_
  simp only [Bool.false_eq_true, if_false]
  refine wpAny_bind (wpAny_holding (wpAny_pyIter_list hl ?_))
  refine wpAny_bind (wpAny_holding ?_)
  show wpAny _ _ (pyNext (.ref s.heap.objs.size) >>= _) _ _ _
  refine wpAny_bind (wpAny_pyNext_list_item (i := 0) (x := x) (items := #[x]) ⟨_, Heap.get?_push_size _ rfl, rfl, rfl⟩ (hl.push _) rfl fun h₁ hit₁ hs₁ => ?_)
  have hl₁ : h₁.IsList l #[x] := (hl.push _).extBut hs₁.extBut hlt
  refine wpAny_bind (wpAny_holding ?_)
  show wpAny _ _ (pyNext (.ref s.heap.objs.size) >>= _) _ _ _
  refine wpAny_bind (wpAny_pyNext_list_end hh hit₁ hl₁ (by rfl) fun h₂ he₂ => ?_)
  refine wpAny_pure (wpAny_pure ?_)
  rw [if_pos (show [x].length < 2 from Nat.lt_succ_self 1), show [x].length = 1 from rfl]
  have old : ∀ z o, s.heap.get? z = some o → h₂.get? z = some o := fun z o e => he₂ z o (Nat.ne_of_lt (Heap.lt_size e)) (hs₁.extBut z o (Nat.ne_of_lt (Heap.lt_size e)) (Heap.get?_push_of_some _ e))
  have fin : ∀ h' tk e, Heap.NewExc h₂ h' e "ValueError" → E (.ref e) { s with heap := h', toks := tk } := fun h' tk e X => by
    refine hE h' tk e ⟨fun z o q => X.keeps z o (old z o q), ?_, X.there⟩
    cases q : s.heap.get? e with
    | none => rfl
    | some o =>
      have := old e o q
      rw [X.new] at this
      cases this
  refine wpAny_bind (wpAny_rule ?_)
  exact wpAny_bind (raiseError_exc excClass_ValueError hh fin (by decide +kernel))
end Mine
end
section
open PySem PySem.W PyProof.Rows
set_option autoImplicit false
set_option linter.unusedVariables false
set_option maxRecDepth 100000
namespace Mine
section
variable {b : Base} {c : Cx} {s₀ : Shared} {M0 : List Addr} {G : List (Addr × Obj)} {ρ : Rho} {mus : Mus} {s : Shared} {Q : Flow → Shared → Prop} {E : Value → Shared → Prop}
theorem wp_newDict {n : Nat} (ok : CxOk b n c) {x : PySem.Str} {px lp pos : Pos} {rest : List Stmt} (H : Held b c s₀ M0 G ρ mus s)
    (hx : c.env.kindOf x = some .local ∨ (c.env.kindOf x = some .cell ∧ (c.env.cells.lookup x).isSome = true)) (hsys : ∃ o, b.h₀.get? sysModules = some o)
    (hr : ∀ a s', Held b c s₀ M0 G (upd ρ x (.r (.ref a))) ((a, .dct []) :: mus) s' → wpAny (model b.prog b.w) c.A (execs rest c.env) Q E s') :
    wpAny (model b.prog b.w) c.A (execs (.Assign [.Name x px] (.Dict [] [] lp) pos :: rest) c.env) Q E s := by
  refine wpAny_execs_cons (wpAny_Assign_Name ?_ rfl)
  rw [eval_Dict_empty]
  refine wpAny_bind (wpAny_standAt (wpAny_newObj_type ?_))
  have nsm : (s.heap.objs.size == sysModules) = false := by
    obtain ⟨o, e⟩ := hsys
    have := Heap.lt_size (H.keep _ _ (H.base _ _ e))
    simpa using Nat.ne_of_gt this
  have H' := H.newMut (o := { cls := .type "dict", data := .dict #[] }) (m := .dct []) ⟨nsm, [], Heap.DictOf.new _, rfl, RepAll.nil⟩ (Heap.get?_push_size _ rfl)
  exact storeK ok H' hx (l := .r (.ref s.heap.objs.size)) rfl fun s' H'' => hr _ s' H''

/-- a for whose first turn raises -/
theorem wp_forRaise {n : Nat} (ok : CxOk b n c) {x : PySem.Str} {px : Pos} {iter : Expr} {body rest : List Stmt} {pos : Pos} {d : PyData} {ds : List PyData} (H : Held b c s₀ M0 G ρ mus s)
    (src : Src b c (MuOf c mus M0) ρ iter (d :: ds))
    (hx : c.env.kindOf x = some .local ∨ (c.env.kindOf x = some .cell ∧ (c.env.cells.lookup x).isSome = true)) (hs : ∀ v, foldedSetIterable iter c.env v = pure v)
    (hlt : ∀ it v, letOwnedTupleGo (.Name x px) it v = pure ()) (hE : PassesOwn (model b.prog b.w) c.A c.env E)
    (turn : ∀ (I : Addr) (o : Obj) s', Held b c s₀ M0 G (upd ρ x (.d d)) ((I, .obj o) :: mus) s' → wpAny (model b.prog b.w) c.A (execs body c.env) (fun _ _ => False) E s') :
    wpAny (model b.prog b.w) c.A (execs (.For (.Name x px) iter body [] pos :: rest) c.env) Q E s := by
  refine wpAny_execs_cons (wpAny_For (wpAny_mono (src.wp s E H.hold) (fun xv s₁ h₁ => wpAny_mono h₁ (fun it s₂ h₂ => ?_) fun _ _ x => x) fun _ _ x => x) hs)
  obtain ⟨g2, I, fp, P, St, rfl, hI0, W, hst, hfp, hmu, hP, hlive⟩ := h₂
  have hI : s.heap.get? I = Option.none := above_none hI0
  obtain ⟨o₀, ho₀⟩ := hlive _ _ hst
  have hIlo : s₀.heap.objs.size ≤ I := by
    obtain ⟨m, o, es, ep, e, _⟩ := H.ns
    exact Nat.le_of_lt (Nat.lt_of_le_of_lt H.nsHi (hI0 _ _ e))
  have H₂ := H.addMut g2 hI hIlo ho₀
  refine codeAny_forLoop (fun k s' => Held b c s₀ M0 G ρ ((I, .obj o₀) :: mus) s' ∧ St 0 s'.heap) ?_ 0 ⟨H₂, hst⟩ (hlt _)
  rintro k s₃ ⟨H₃, st₃⟩
  refine wpAny_le (W.item 0 _ _ _ (Nat.succ_pos _) st₃ fun v h₄ tk hPv st₄ hk le => ?_)
  obtain ⟨d', hd, av⟩ := hP 0 v hPv
  obtain rfl : d = d' := by simpa using hd
  obtain ⟨o₄, ho₄⟩ := hlive _ _ st₄
  have H₄ := H₃.mutate (l₁ := []) (m' := .obj o₄) (h' := h₄) (tk := tk) le (fun z o hz e => hk z o (by simpa using hz) e) ⟨_, ho₄⟩ ho₄
  refine wpAny_assign_Name (storeK ok H₄ hx (l := .d d) (av _ _) fun s₅ H₅ => ?_)
  exact wpAny_mono (wpAny_passesOwn hE (turn I o₄ s₅ H₅)) (fun f s₆ g => g.elim) fun _ _ x => x

/-- k, v = a list of one -/
theorem wp_unpackRaise {n : Nat} (ok : CxOk b n c) {x y : PySem.Str} {px py tp pos : Pos} {k : Nat} {e : Expr} {d : PyData} {rest : List Stmt} (H : Held b c s₀ M0 G ρ mus s)
    (he : Ev b c (MuOf c mus M0) ρ e (.d (.list [d])))
    (hsw : swapsWithSole [.Tuple [.Name x px, .Name y py] k tp] e pos.line c.env = pure false) (hst : swappedStores [.Tuple [.Name x px, .Name y py] k tp] e c.env = pure none)
    (hE : ∀ s₁ h' tk ex, Held b c s₀ M0 G ρ mus s₁ → Heap.NewExc s₁.heap h' ex "ValueError" → E (.ref ex) { s₁ with heap := h', toks := tk }) :
    wpAny (model b.prog b.w) c.A (execs (.Assign [.Tuple [.Name x px, .Name y py] k tp] e pos :: rest) c.env) Q E s := by
  refine wpAny_execs_cons (wpAny_Assign_stores ?_ hsw hst)
  show wpAny _ _ _ (fun v s₁ => wpAny _ _ (PySem.assign (Expr.Tuple [Expr.Name x px, Expr.Name y py] k tp) c.env v) _ _ s₁) _ _
  refine wpAny_mono (he.wp s E H.hold) (fun v s₁ g => ?_) fun _ _ x => x
  have H₁ := H.grows g.1
  obtain ⟨a, vs, rfl, hm, hl, ra, e⟩ := Rep.isList g.2
  obtain ⟨v₁, ev, r1⟩ := ra.one_inv
  have hvs : vs = #[v₁] := by rw [← Array.toList_inj, ev]
  subst hvs
  rw [PyProof.Rows.assign_Tuple]
  refine wpAny_bind (wpAny_standAt ?_)
  unfold unpack
  rw [show (assignEach [Expr.Name x px, Expr.Name y py] c.env).length = 2 from rfl, show (assignEach [Expr.Name x px, Expr.Name y py] c.env).findIdx? (·.1) = none from rfl]
  exact wpAny_bind (wpAny_holding (few_raise ok.room.hand hl fun h' tk ex X => hE s₁ h' tk ex H₁ X))
end
end Mine
end
section
open PySem PySem.W PyProof.Rows
set_option autoImplicit false
set_option linter.unusedVariables false
set_option maxRecDepth 100000
namespace Mine
theorem split_none {x : PySem.Str} (h : 61 ∉ tl x) : Txt.splitMax x eqT 1 = [x] := by
  apply map_tl_inj
  have := splitMax_one x (c := 61) (by decide) 1
  rw [show ((1 : Nat) : Int) = 1 from rfl] at this
  rw [show eqT = ⟨#[61]⟩ from rfl, this, cut_alone (tl x) 1 h]; rfl
/-- a new exception leaves a frame -/
theorem flies {b : Base} {M : Model} {A : Around} {base : Heap} {env : Env} {outer : List Env} {L e : Addr} {s : Shared} {h₁ h' : Heap} {tk : Nat} {Q : Unit → Shared → Prop} {E : Value → Shared → Prop}
    (hfr : A.frames = some (env :: outer)) (hf : env.frame = some L) (hk : env.scope.kind ≠ .module) (hb : base.StaysIn h₁) (ho : h₁.FunFrames base outer) (hL : base.get? L = none) (hns : ∃ m, h₁.Ns L m)
    (X : Heap.NewExc h₁ h' e "ValueError") (hQ : ∀ h'' a0, Heap.FlyingW base outer e (.type "ValueError") a0 h'' → h₁.UpToSlots h'' → Q () { s with heap := h'', toks := tk }) :
    wpAny M A (leaving env (.ref e)) Q E { s with heap := h', toks := tk } := by
  obtain ⟨ob, t, he, hc, hd⟩ := X.there
  have hen : base.get? e = none := by
    cases q : base.get? e with
    | none => rfl
    | some o => have := hb e o q; rw [X.new] at this; cases this
  have hfun : h'.FunFrames base (env :: outer) := by
    obtain ⟨m, o, es, ep, eo, ed, _⟩ := hns
    exact ⟨hk, ⟨L, o, hf, hL, X.keeps _ _ eo, fun vs q => by rw [ed] at q; cases q⟩, ho.of_keeps fun z o q _ => ⟨o, X.keeps z o q, rfl⟩⟩
  refine wpAny_leaving_firstW (base := base) (a0 := t) hfr hfun hf he (fun z o q => X.keeps z o (hb z o q)) hen hd rfl rfl fun h'' hL => ?_
  obtain ⟨k1, ⟨_, _, k2⟩, k3, k4⟩ := hL
  rw [hc] at k3
  exact hQ h'' t ⟨k1, hen, k2, k3⟩ ((Heap.UpToSlots.of_keeps X.keeps).trans k4)
theorem parse_raise {b : Base} (T : TopOk b) {x : PySem.Str} (hx : 61 ∉ tl x) (hxl : x.length + 2 ≤ sizeLine) {a : Addr} {pm code doc : Value} (D : DefAt b a (fdOf 27 "parse_keqv_list" pm code doc .none) (bodyOf (S 27)))
    {A : Around} {outer : List Env} {base : Heap} {Mu : List Addr} {s : Shared} {v : Value} {Q : Value → Shared → Prop} {E : Value → Shared → Prop} (hfr : A.frames = some outer) (hbase : base.StaysIn s.heap) (hfun : s.heap.FunFrames base outer)
    (R : Room 1 A) (hp : 0 < s.toks) (hhi : ∀ a ∈ Mu, b.h₀.get? a = Option.none) (hb : KeepsH b.h₀ s.heap) (hL : Lt Mu s.heap) (rv : Rep Mu s.heap v (.list [.str x]))
    (hE : ∀ h' tk e a0, Heap.FlyingW base outer e (.type "ValueError") a0 h' → s.heap.UpToSlots h' → E (.ref e) { s with heap := h', toks := tk }) :
    wpAny (model b.prog b.w) A (call (.ref a) [v] []) Q E s := by
  refine call_held T.base D (n := 0) (names := ["l"]) (dv := []) (dd := []) (ds := [.list [.str x]]) (fun _ _ => RepAll.nil) (fun s vs _ hv => BindsTo.of_eq ?_) (by decide +kernel) rfl (by show (((scopeOf (S 27)).names.filter (·.2 == .cell)).map (·.1)).Nodup; decide +kernel) (fun y hy => ?_) R hp hhi hb hL (RepAll.cons rv RepAll.nil) fun s₁ ok H => ?_
  · obtain ⟨u, rfl⟩ := one_of hv; kernel_rfl
  · obtain rfl := List.mem_singleton.mp hy
    exact .inl (by show (scopeOf (S 27)).names.lookup ("l" : PySem.Str) = some .local; decide +kernel)
  refine wp_newDict ok H (.inl (by kernel_rfl)) T.sys fun d s₂ H₂ => ?_
  refine wp_forRaise ok (d := .str x) (ds := []) H₂ (Src.lS (xs := [x]) ok (Ev.v ok)) (.inl (by kernel_rfl)) (by intro _; rfl) (by intro _ _; rfl) PassesOwn.leaving fun I o s₃ H₃ => ?_
  refine wp_unpackRaise ok (d := .str x) H₃ ?_ (by rfl) (by rfl) fun s₄ h' tk e H₄ X => ?_
  · have := Cal.splitMax (b := b) x eqT 1 (by decide) (by decide) hxl
    rw [split_none hx] at this
    exact Ev.weak (Ev.m ok (Ev.v ok) (.two Ev.s Ev.i) PySem.F.slot_str_split PySem.F.type_str_split this)
  · have kk : KeepsH s.heap s₄.heap := H₄.keep
    refine flies (b := b) (s := s₄) (base := base) (outer := outer) (L := s.heap.objs.size) (Around.frames_deeper hfr) rfl (by show (scopeOf (S 27)).kind ≠ .module; decide +kernel) (fun z o q => kk z o (hbase z o q)) (hfun.of_keeps fun z o q _ => ⟨o, kk z o q, rfl⟩) ?_ H₄.ns X fun h'' a0 F U => ?_
    · cases q : base.get? s.heap.objs.size with
      | none => rfl
      | some o => exact absurd (Heap.lt_size (hbase _ _ q)) (Nat.lt_irrefl _)
    · obtain ⟨hh, t, e4, _⟩ := H₄.same
      have := hE h'' tk e a0 F ((Heap.UpToSlots.of_keeps kk).trans U)
      rw [e4]
      exact this
end Mine
end
section
open PySem PySem.W PyProof.Rows
set_option autoImplicit false
set_option linter.unusedVariables false
set_option maxRecDepth 100000
namespace Mine
theorem pair_none {b : Base} (T : TopOk b) {x : PySem.Str} (hx : 61 ∉ tl x) (hxl : x.length + 2 ≤ sizeLine) : ∃ a, b.mg "_law_pair" = some (.ref a) ∧ (∃ o fd, b.h₀.get? a = some o ∧ o.data = .func fd) ∧
    ∀ {A : Around} {outer : List Env} {base : Heap} {Mu : List Addr} {s : Shared} {v : Value} {E : Value → Shared → Prop}, A.frames = some outer → base.StaysIn s.heap → KeepsH b.h₀ base → s.heap.FunFrames base outer → 
      Room 2 A → 0 < s.toks → (∀ a ∈ Mu, b.h₀.get? a = Option.none) → Lt Mu s.heap → Rep Mu s.heap v (.str x) →
      wpAny (model b.prog b.w) A (call (.ref a) [v] []) (fun z s' => z = .none ∧ ∃ h' tk, s' = { s with heap := h', toks := tk } ∧ base.StaysIn h' ∧ s.heap.UpToSlots h') E s := by
  obtain ⟨ap, pm, code, doc, hmg, D⟩ := T.f_pair.def (by decide +kernel) (by decide +kernel) (by decide +kernel)
  obtain ⟨ak, pm2, code2, doc2, hmk, Dk⟩ := T.f_pk.def (by decide +kernel) (by decide +kernel) (by decide +kernel)
  obtain ⟨ok, hok, hkd⟩ := Dk.at'
  refine ⟨ap, hmg, let ⟨o, h1, h2⟩ := D.at'; ⟨o, _, h1, h2⟩, fun {A outer base Mu s v E} hfr hbase hb0 hfun R hp hhi hL rv => ?_⟩
  have hb : KeepsH b.h₀ s.heap := fun z o q => hbase z o (hb0 z o q)
  refine call_held T.base D (n := 1) (names := ["line"]) (dv := []) (dd := []) (ds := [.str x]) (fun _ _ => RepAll.nil) (fun s vs _ hv => BindsTo.of_eq ?_) (by decide +kernel) rfl (by show (((scopeOf (S 32)).names.filter (·.2 == .cell)).map (·.1)).Nodup; decide +kernel) (fun y hy => ?_) R hp hhi hb hL (RepAll.cons rv RepAll.nil) fun s₁ cx H => ?_
  · obtain ⟨u, rfl⟩ := one_of hv; kernel_rfl
  · obtain rfl := List.mem_singleton.mp hy
    exact .inl (by show (scopeOf (S 32)).names.lookup ("line" : PySem.Str) = some .local; decide +kernel)
  generalize henv : callEnvC (fdOf 32 "_law_pair" pm code doc .none) s.heap.objs.size ap = env at *
  have hfrm : env.frame = some s.heap.objs.size := by rw [← henv]; rfl
  have hgl : env.globals = mainGlobals := cx.globals
  have hbu : env.builtins = builtinsNs := cx.builtins
  have hkd0 : env.kindOf "ValueError" = some .globalImplicit := by rw [← henv]; kernel_rfl
  have hkp : env.kindOf "parse_keqv_list" = some .globalImplicit := by rw [← henv]; kernel_rfl
  have hkl : env.kindOf "line" = some .local := by rw [← henv]; kernel_rfl
  have hfr' : (A.deeper env).frames = some (env :: outer) := Around.frames_deeper hfr
  have kk : KeepsH s.heap s₁.heap := H.keep
  have hLn : base.get? s.heap.objs.size = none := by
    cases q : base.get? s.heap.objs.size with
    | none => rfl
    | some o => exact absurd (Heap.lt_size (hbase _ _ q)) (Nat.lt_irrefl _)
  refine wpAny_execs_cons (wpAny_Try_except ?_)
  refine wpAny_execs_cons (wpAny_Return_some (wpAny_Call_NameR (wpAny_mono ((Ev.g (ρ := rhoOf ["line"] [.str x]) cx T.base hmk hkp).wp s₁ _ H.hold) (fun g s₂ g₁ => ?_) fun _ _ x => x)))
  have eg : g = .ref ak := g₁.2
  subst eg
  refine Calls.callWith_function (o := ok) (fd := fdOf 27 "parse_keqv_list" pm2 code2 doc2 .none) (wpAny_mono (evalArgs_wp (.one (Ev.listD (.cons (Ev.v (ρ := rhoOf ["line"] [.str x]) cx) rfl .nil) (by show 1 ≤ sizeLine; decide))) _ s₂ _ (H.hold.grows g₁.1)) (fun a s₃ g₂ => ?_) fun _ _ x => x)
  obtain ⟨g2, hkw, ra⟩ := g₂
  have G3 := g₁.1.trans g2
  have H₃ := H.grows G3
  refine ⟨⟨H₃.hold.base _ _ hok, hkd⟩, ?_⟩
  rw [hkw]
  obtain ⟨v₁, ev, r1⟩ := ra.one_inv
  rw [ev]
  have k3 : KeepsH s.heap s₃.heap := H₃.keep
  have fun3 : s₃.heap.FunFrames base (env :: outer) := by
    obtain ⟨m, o, es, ep, eo, ed, _⟩ := H₃.ns
    have hloc : env.locals = s.heap.objs.size := by rw [← henv]; rfl
    refine ⟨by rw [cx.kind]; decide, ⟨s.heap.objs.size, o, hfrm, hLn, hloc ▸ eo, fun vs q => by rw [ed] at q; cases q⟩, hfun.of_keeps fun z o q _ => ⟨o, k3 z o q, rfl⟩⟩
  refine parse_raise T hx hxl Dk hfr' (fun z o q => k3 z o (hbase z o q)) fun3 (cx.room.le (Nat.le_refl _)) H₃.hold.pos H₃.hold.hi H₃.hold.base H₃.hold.lt r1 fun h' tk e a0 F U => ?_
  refine wpAny_looks_onW hfr' hfrm F fun h4 held4 u4 => ?_
  refine wpAny_landsW held4 fun h5 fly5 u5 => ?_
  have hb5 : KeepsH b.h₀ h5 := fun z o q => fly5.1 z o (hb0 z o q)
  obtain ⟨ob, hob, hobc⟩ := fly5.there
  refine wpAny_handleBy_builtin (X := "ValueError") (T := "ValueError") (b := true) PySem.F.isExc_ValueError PySem.F.notTuple_ValueError (by rw [isSubtype_type]; kernel_rfl) ?_
  refine Calls.Name_function_global cx.kind hkd0 (Calls.loadGlobal_builtin (by rw [hgl]; exact T.base.g.keeps hb5) T.n_ve.1 (by rw [hbu]; exact T.base.bb.keeps hb5) T.n_ve.2 ⟨rfl, ⟨ob, hob, hobc⟩, ?_⟩) (by decide)
  rw [if_pos rfl]
  refine lands_againW fly5 fun h6 fly6 u6 => ?_
  refine wpAny_execs_cons (wpAny_Return_some (wpAny_Constant_none ?_))
  refine ⟨rfl, ?_⟩
  obtain ⟨hh, t, e4, _⟩ := H₃.same
  refine ⟨h6, tk, by rw [e4], fly6.1, ?_⟩
  exact ((((Heap.UpToSlots.of_keeps k3).trans U).trans u4).trans u5).trans u6
end Mine
end
section
open PySem PySem.W PyProof.Rows
set_option autoImplicit false
set_option linter.unusedVariables false
set_option maxRecDepth 100000
namespace Mine
namespace LP
variable (P : LP)
noncomputable def lastW : List Nat := (P.ends.getLast?).getD []
end LP
variable {P : LP}
theorem words_last : (P.words.map PyData.str)[P.words.length - 1]? = some (.str (ofL P.lastW)) := by
  have he := (ends_len (P := P)).1
  have hne : P.ends ≠ [] := fun q => by rw [q] at he; simp at he
  have h1 : P.words.getLast? = some (ofL P.lastW) := by
    unfold LP.words LP.wordsL LP.lastW
    rw [List.getLast?_map, List.getLast?_append, List.getLast?_eq_some_getLast hne]; rfl
  rw [List.getElem?_map, ← List.getLast?_eq_getElem?, h1]; rfl
theorem contains_eq (x : PySem.Str) : Txt.contains x eqT = decide (61 ∈ tl x) := by
  unfold Txt.contains eqT
  rw [StrLaws.found_one]
/-- the last part: a pair, or no = in it -/
theorem LP.Ok.lastW_cases (hP : P.Ok) : (∃ u c, P.lastW = u ++ tl (quoted c) ∧ 61 ∉ u ∧ (c = 32 ∨ c = 9) ∧ u.length ≤ 20) ∨ (61 ∉ P.lastW ∧ P.lastW.length ≤ 20) := by
  have hr : ∀ c ∈ P.rest, c ∈ P.tx := fun c h => List.mem_of_mem_drop h
  have h61 : 61 ∉ P.rest := fun q => hP.tx_61 (hr _ q)
  have h61d : 61 ∉ P.rest.dropLast := fun q => h61 (List.mem_of_mem_take (dropLast_take P.rest ▸ q))
  have he := hP.he
  have hn := hP.hn
  have hrl : P.rest.length = P.e := by unfold LP.rest; rw [List.length_drop, tx_len]; unfold LP.T; omega
  unfold LP.lastW LP.ends
  by_cases hb : blank P.last = true
  · have hc : P.last = 32 ∨ P.last = 9 := by unfold blank at hb; simpa using hb
    rw [if_pos hb]
    by_cases q1 : P.e < P.n
    · rw [if_pos q1]
      exact .inl ⟨_, _, rfl, h61d, hc, by rw [List.length_dropLast]; omega⟩
    · rw [if_neg q1]
      by_cases q2 : P.e = P.n
      · rw [if_pos q2]
        exact .inr ⟨by simp, by simp⟩
      · rw [if_neg q2]
        exact .inl ⟨[], _, rfl, by simp, hc, by simp⟩
  · rw [if_neg hb]
    exact .inr ⟨h61, by show P.rest.length ≤ 20; omega⟩
theorem kv_last {u : List Nat} {c : Nat} (hu : 61 ∉ u) (hc : c = 32 ∨ c = 9) (hl : u.length ≤ 20) : ∃ v, tl (quoted c) = 61 :: v ∧ v.length = 2 ∧ KV (ofL (u ++ 61 :: v)) (ofL u) (ofL v) ∧ unq (ofL v) = ofL v := by
  have hsz : 2000 ≤ sizeLine := by decide
  have key : ∀ v : List Nat, v.length = 2 → KV (ofL (u ++ 61 :: v)) (ofL u) (ofL v) := fun v hv => by
    refine ⟨?_, ?_, ?_, ?_, ?_⟩
    · apply map_tl_inj
      have := splitMax_one (ofL (u ++ 61 :: v)) (c := 61) (by decide) 1
      rw [show ((1 : Nat) : Int) = 1 from rfl] at this
      rw [show eqT = ⟨#[61]⟩ from rfl, this, tl_ofL]
      show cutL 61 (u ++ 61 :: v) 1 = [tl (ofL u), tl (ofL v)]
      rw [tl_ofL, tl_ofL, show u ++ 61 :: v = u ++ [61] ++ v by simp, cut_sep _ _ 0 hu, cutL_zero]
    · exact (charAt_nat _ (Int.le_refl 0) (by rw [len_ofL]; omega)).2
    · exact last_some _ (by rw [len_ofL]; omega)
    · rw [len_ofL]; simp only [List.length_append, List.length_cons]; omega
    · rw [len_ofL]; omega
  rcases hc with rfl | rfl
  · exact ⟨[50, 48], rfl, rfl, key _ rfl, by decide +kernel⟩
  · exact ⟨[48, 57], rfl, rfl, key _ rfl, by decide +kernel⟩
end Mine
end
section
open PySem PySem.W PyProof.Rows
set_option autoImplicit false
set_option linter.unusedVariables false
set_option maxRecDepth 100000
namespace Mine
theorem neg1 : (-1 : Int) = (-((1 : Nat) : Int)) := rfl

theorem segF {b : Base} (T : TopOk b) {P : LP} (hP : P.Ok) {A : Around} {L a : Addr} {pm code doc : Value} {s₀ : Shared} {M0 : List Addr} {n : Nat} (ok : CxOk b n (cL A pm code doc L a)) (hn : 8 ≤ n) (hfr : A.frames = some [(cL A pm code doc L a).env]) :
    Ex b (cL A pm code doc L a) s₀ M0 [] (r6 P) [] ((bodyOf (S 35)).drop 34) (fun _ _ => False) (fun l => l = .d (.bool true)) := by
  have sm := hP.small
  have hsz : 200000 ≤ sizeLine := by decide
  have hll := hP.letter_len
  have hwl := words_len (P := P)
  have hel := ends_len (P := P)
  have hw := hP.words_ok
  have hsp : Txt.split (ofL P.letter) tick = P.words := by rw [← hP.join_words]; exact split_join hw
  have hlast := words_last (P := P)
  have last : ∀ {ρ : Rho} {e : Expr} {p1 p2 : Pos} {k : Nat} {p3 : Pos}, Ev b (cL A pm code doc L a) (MuOf (cL A pm code doc L a) [] M0) ρ e (.pl (P.words.map .str)) → Ev b (cL A pm code doc L a) (MuOf (cL A pm code doc L a) [] M0) ρ (.Subscript e (.UnaryOp .USub (.Constant (.int 1) k p1) p2) p3) (.d (.str (ofL P.lastW))) := fun h =>
    Ev.sub ok (Ev.weak h) (Ev.cast (Ev.neg Ev.i) (congrArg (fun x => LV.d (.int x)) neg1)) (Gop.listNeg (P.words.map .str) 1 _ (by decide) (by rw [List.length_map]; omega) (by rw [List.length_map]; exact hlast) (by decide)) (fun o i => ⟨_, rfl⟩)
  refine Ex.a ok (l := .d (.str (ofL P.lastW))) (last (Ev.cast (Ev.m ok (Ev.v ok) (.one Ev.s) PySem.F.slot_str_split PySem.F.type_str_split (Cal.split (ofL P.letter) tick (by decide) (by rw [len_ofL]; omega))) (by rw [hsp]))) ?_
  refine Ex.a ok (l := .d .none) Ev.no ?_
  rcases hP.lastW_cases with ⟨u, c, hl, hu, hc, hlen⟩ | ⟨h61, hlen⟩
  · obtain ⟨v, hq, hv, kv, hunq⟩ := kv_last hu hc hlen
    rw [hq] at hl
    have htl : (ofL P.lastW).length = u.length + 3 := by rw [len_ofL, hl]; simp; omega
    have hs1 : Txt.slice (ofL P.lastW) none (some (-3)) = ofL u := by
      apply tl_inj
      have := slice_to_neg (ofL P.lastW) (k := 3) (by decide) (by omega)
      rw [show (-((3 : Nat) : Int)) = (-3 : Int) from rfl] at this
      rw [this, htl, tl_ofL, tl_ofL, hl, show u.length + 3 - 3 = u.length by omega, List.take_left' rfl]
    have hs2 : Txt.slice (ofL P.lastW) (some (-2)) none = ofL v := by
      apply tl_inj
      have := slice_from_neg (ofL P.lastW) (k := 2) (by decide) (by omega)
      rw [show (-((2 : Nat) : Int)) = (-2 : Int) from rfl] at this
      rw [this, htl, tl_ofL, tl_ofL, hl, show u ++ 61 :: v = (u ++ [61]) ++ v by simp, List.drop_left' (by simp)]
    refine Ex.ifThen (t := true) (Te.cast (Te.cmp ok Ev.s (Ev.v ok) (Cop.inS (ofL P.lastW) eqT) rfl) ?_) (fun _ => ?_) (fun q => by cases q)
    · rw [contains_eq, tl_ofL, hl]; exact decide_eq_true (by simp)
    refine Ex.a ok (l := .k [(ofL u, .str (ofL v))]) (Ev.dict1 ok T.sys (Ev.cast (Ev.sliceStr (lo := none) (hi := some (-3)) (Ev.v ok) trivial (Ev.neg Ev.i) (by omega)) (congrArg (fun x => LV.d (.str x)) hs1)) (Ev.cast (Ev.sliceStr (lo := some (-2)) (hi := none) (Ev.v ok) (Ev.neg Ev.i) trivial (by omega)) (congrArg (fun x => LV.d (.str x)) hs2))) (Ex.nil ?_)
    rw [← hl] at kv
    obtain ⟨f, hf, F⟩ := pair_fun T kv
    rw [hunq] at F
    exact Ex.r (Ev.cmpK ok (Ev.callF ok (Ev.g ok T.base hf) (.one (last (Ev.v ok))) F (by omega)) (Ev.v ok) rfl)
  · refine Ex.skip (Te.cast (Te.cmp ok Ev.s (Ev.v ok) (Cop.inS (ofL P.lastW) eqT) rfl) ?_) ?_
    · rw [contains_eq, tl_ofL]; exact decide_eq_false h61
    obtain ⟨ap, hmg, ⟨oa, fda, hoa, hfda⟩, hpair⟩ := pair_none T (x := ofL P.lastW) (by rw [tl_ofL]; exact h61) (by rw [len_ofL]; omega)
    refine .mk fun s E H => wpAny_execs_cons (wpAny_Return_some (wpAny_le (wpAny_Compare1 ?_ rfl)))
    generalize hρ : upd (upd (r6 P) "tail" (.d (.str (ofL P.lastW)))) "pair" (.d .none) = ρ at H
    have hρp : ρ "pair" = some (.d .none) := by rw [← hρ]; kernel_rfl
    have hρw : ρ "parts" = some (.pl (P.words.map .str)) := by rw [← hρ]; kernel_rfl
    refine wpAny_Call_NameR (wpAny_mono ((Ev.g ok T.base hmg).wp s _ H.hold) (fun g s₂ g₁ => ?_) fun _ _ x => x)
    have eg : g = .ref ap := g₁.2
    subst eg
    refine Calls.callWith_function (o := oa) (fd := fda) (wpAny_mono (evalArgs_wp (.one (last (Ev.v ok hρw))) _ s₂ _ (H.hold.grows g₁.1)) (fun ar s₃ g₂ => ?_) fun _ _ x => x)
    obtain ⟨g2, hkw, ra⟩ := g₂
    have H₃ := H.grows (g₁.1.trans g2)
    refine ⟨⟨H₃.hold.base _ _ hoa, hfda⟩, ?_⟩
    rw [hkw]
    obtain ⟨v₁, ev, r1⟩ := ra.one_inv
    rw [ev]
    have hLn : s₀.heap.get? L = none := new_of_ge H.nsHi
    have fun3 : s₃.heap.FunFrames s₀.heap [(cL A pm code doc L a).env] := by
      obtain ⟨m, o, es, ep, eo, ed, _⟩ := H₃.ns
      exact ⟨by rw [ok.kind]; decide, ⟨L, o, rfl, hLn, eo, fun vs q => by rw [ed] at q; cases q⟩, trivial⟩
    refine wpAny_mono (hpair hfr H₃.keep H₃.base fun3 (ok.room.le (by omega)) H₃.hold.pos H₃.hold.hi H₃.hold.lt r1) (fun z s₄ g₄ => ?_) fun _ _ x => x
    obtain ⟨rfl, h', tk, rfl, hst, hup⟩ := g₄
    obtain ⟨vp, np, rp⟩ := H₃.vars "pair" (.d .none) hρp
    obtain rfl := Rep.none_inv rp
    rcases np with ⟨hkind, m, hm, em⟩ | ⟨hkind, _⟩
    · refine wpAny_Name (wpAny_loadName_local ok.kind hkind (hup.ns hm) em ?_) (by decide)
      refine SeqAt.RcAt.none_none b.prog b.w E _ ?_
      intro le
      obtain ⟨hh, t, e4, lt⟩ := H.same
      obtain ⟨hh3, t3, e3, lt3⟩ := H₃.same
      refine ⟨.d (.bool true), rfl, ?_, Rep.bool _⟩
      have le' : s.toks ≤ tk := le
      rw [e3]
      refine Grows.of (s := s₀) hst ?_
      rw [e4] at le'
      exact Nat.le_trans lt le'
    · have : (cL A pm code doc L a).env.kindOf "pair" = some .local := by kernel_rfl
      rw [this] at hkind; cases hkind
end Mine
end
section
open PySem PySem.W PyProof.Rows
set_option autoImplicit false
set_option linter.unusedVariables false
set_option maxRecDepth 100000
namespace Mine
theorem law_call {b : Base} (T : TopOk b) (ns : List Int) (hlen : ns.length ≤ 63) : ∃ a, b.mg "law" = some (.ref a) ∧
    ∀ {s : Shared} {vs : List Value} {E : Value → Shared → Prop}, Room 20 callerA → 0 < s.toks → KeepsH b.h₀ s.heap → RepAll [] s.heap vs [.list (ns.map .int)] →
      wpAny (model b.prog b.w) callerA (call (.ref a) vs []) (fun z s' => Grows s s' ∧ RepL b [] s'.heap z (.d (.bool true))) E s := by
  obtain ⟨al, pm, code, doc, hmg, D⟩ := T.f_law.def (by decide +kernel) (by decide +kernel) (by decide +kernel)
  refine ⟨al, hmg, fun {s vs E} R hp hb ra => ?_⟩
  have hok : okScope 35 ["script"] = true := by decide +kernel
  simp only [okScope, Bool.and_eq_true, Bool.not_eq_true', decide_eq_true_eq, List.all_eq_true] at hok
  obtain ⟨⟨⟨⟨⟨h1, h2⟩, h3⟩, h4⟩, h5⟩, h6⟩ := hok
  refine call_held T.base D (n := 19) (names := ["script"]) (dv := []) (dd := []) (ds := [.list (ns.map .int)]) (Mu := []) (fun _ _ => RepAll.nil) (fun s vs _ hv => BindsTo.of_eq ?_) h5 rfl h4 h6 R hp (fun a h => by cases h) hb (fun a h => by cases h) ra fun s₁ ok H => ?_
  · obtain ⟨u, rfl⟩ := one_of hv; kernel_rfl
  · have hP := lpOf_ok ns
    have key := segA (s₀ := s) (M0 := []) T ns hlen ok (by decide) (segB T hP ok (by decide) (segC T hP ok (by decide) (segD T hP ok (by decide) (segE T hP ok (by decide) (segF T hP ok (by decide) (Around.frames_deeper (env := callEnvC (fdOf 35 "law" pm code doc .none) s.heap.objs.size al) rfl))))))
    refine wpAny_mono (key.wp s₁ _ H) (fun f s' g => ?_) fun _ _ x => x
    cases f with
    | next => obtain ⟨_, _, hf, _⟩ := g; exact hf.elim
    | ret v => obtain ⟨l', rfl, g1, g2⟩ := g; exact ⟨g1, g2⟩
    | brk => exact g.elim
    | cont => exact g.elim
end Mine
end
section
open PySem PySem.W PyProof.Rows
set_option autoImplicit false
set_option linter.unusedVariables false
set_option maxRecDepth 1000000
namespace Mine
noncomputable abbrev lawR : OpenRow := PySem.Challenge.rw_wo0029_01.row
noncomputable abbrev rowR : RowW := lawR.toRowW
theorem left2 : LeftO pw qv looseN (fun _ => true) (fun s => (s.heap, s.toks)) (fun w => (H1 w.params, 1994)) 40000 :=
  LeftO.of_pieces opens sized run_all (by decide) fun w => funext fun os => by
    have h1 := look1 w os
    have h2 := look2 w os
    unfold looks1 at h1
    show (_, _, _) = (_, _, _)
    rw [h1, h2]
theorem lays_toks (R : WRecords) (cl : PySem.Str → Option Addr) (P : Params) (ord : List DictEntry → List DictEntry) : ∀ (ns : List Int) (s : Shared) (r : List Value × Shared), layAllW R cl P ord (ns.map .int) s = some r → s.toks ≤ r.2.toks
  | [], s, r, h => by simp only [List.map_nil, layAllW, Option.some.injEq] at h; rw [← h]; exact Nat.le_refl _
  | n :: ns, s, r, h => by
    simp only [List.map_cons, layAllW, layW] at h
    split at h
    · rename_i q hq
      simp only [Option.some.injEq] at h
      rw [← h]
      exact Nat.le_trans (Nat.le_succ _) (lays_toks R cl P ord ns _ _ hq)
    · cases h
theorem reads_ints {R : WRecords} {cl : PySem.Str → Option Addr} {h : Heap} : ∀ (ns : List Int) (vs : List Value) (as : List Addr), ReadsAllW R cl h vs (ns.map .int) as → RepAll [] h vs (ns.map .int)
  | [], vs, as, r => by cases r; exact RepAll.nil
  | n :: ns, vs, as, r => by
    simp only [List.map_cons] at r
    cases r with
    | cons a b =>
      cases a
      exact RepAll.cons (Rep.int _ _) (reads_ints ns _ _ b)
theorem pre_says {args : List WData} (h : rowR.claim.pre args = true) : ∃ ns : List Int, args = [.list (ns.map .int)] ∧ ns.length ≤ 63 := by
  obtain ⟨h1, h2⟩ := pre_splitW h
  obtain ⟨d, r, rfl, hd, hr⟩ := hasAllW_cons (show WShape.hasAll rowR.records args [.list .int] = true from h1)
  obtain rfl := hasAllW_nil hr
  obtain ⟨xs, rfl, hx⟩ := hasW_list hd
  obtain ⟨ns, rfl⟩ := items_int hx
  refine ⟨ns, rfl, ?_⟩
  have h3 : (WTm.and (.not (.lt (.lit (.int 63)) (.len (.arg 0)))) (.lit (.bool true))).holds rowR.records { args := [.list (ns.map .int)] } = true := h2
  simp only [WTm.holds, WTm.value, less?, List.length_map, List.getElem?_cons_zero] at h3
  refine Nat.le_of_not_lt fun q => ?_
  have : Num.less? (.int 63) (.int (ns.length : Int)) = some true := congrArg some (decide_eq_true (by omega))
  rw [this] at h3
  cases h3
noncomputable abbrev lX : OpenLaw := PySem.Challenge.rw_wo0029_01
theorem said_fenced : sreFenced lX.row.prog.main = true := by kernel_rfl
theorem said_resolve : namesResolve lX.row.prog = true := by kernel_rfl
theorem said_road : noRoadLSs { strict := !(importedModules lX.row.prog.main.body).all cThrough.contains, foot := none, bare := (["vars", "dir", "locals"] : List PySem.Str).filter (readsOut lX.row.prog lX.row.prog.main.body) } lX.row.prog.main.body = true := by kernel_rfl
theorem said_law : noRoadLSs { strict := true, foot := some lX.bound', writes := lX.writes, may := lX.may } lX.footing = true := by kernel_rfl
theorem said_attrs : (namesMeet lX.row.prog lX.row.prog.main.body fun _ n => attrL n) = true := by kernel_rfl
theorem said_foot : lX.footing.all footLine = true := by kernel_rfl
theorem said_block : noClassBlock lX.prog lX.footing = true := by kernel_rfl
theorem said_about : lX.namesIt = true := by kernel_rfl
theorem said : lX.wellSaid = true := by
  unfold OpenLaw.wellSaid OpenRow.wellSaid OpenRow.partSaid looksOpen
  repeat' (with_reducible refine look_both ?_ ?_)
  any_goals with_reducible exact said_fenced
  any_goals with_reducible exact said_resolve
  any_goals with_reducible exact said_road
  any_goals with_reducible exact said_law
  any_goals with_reducible exact said_attrs
  any_goals with_reducible exact said_foot
  any_goals with_reducible exact said_block
  any_goals with_reducible exact said_about
  all_goals kernel_rfl
theorem side1 : (chainsOk qv && opensWell pw && (frees rowR && rowR.within.isEmpty)) = true := by kernel_rfl
theorem bare1 : pw.bare := ⟨rfl, rfl, rfl, rfl, rfl, by kernel_rfl⟩
theorem witness1 : rowR.promised := ⟨[.list []], by kernel_rfl, by kernel_rfl⟩
noncomputable def dLaw : DefRec := ⟨"law", paramsOf (S 35), bodyOf (S 35), scopeOf (S 35), match S 35 with | .FunctionDef _ _ _ _ _ _ _ _ _ p => p | _ => qp⟩
theorem def_law : defOf qv lawR.name = some (dLaw, []) := by kernel_rfl
theorem the_law : pw.theDef lawR.name = some (dLaw.params, dLaw.body, dLaw.scope) := by kernel_rfl
theorem kw_law : kwWritten? dLaw.params.kwonlyargs dLaw.params.kw_defaults = some [] := by kernel_rfl
theorem room1 : Room 20 callerA := ⟨rfl, by decide, by decide⟩
theorem post1 (args : List WData) : rowR.claim.post args (.bool true) args = true := by kernel_rfl

theorem the_claim : PySem.Challenge.rw_wo0029_01.Holds := by
  refine holds_law said fun s1 => ⟨s1, witness1, ?_⟩
  obtain ⟨ok, k5⟩ := Bool.and_eq_true_iff.mp side1
  obtain ⟨hch, o1⟩ := Bool.and_eq_true_iff.mp ok
  obtain ⟨k5, k6⟩ := Bool.and_eq_true_iff.mp k5
  obtain ⟨hsame, hu, ha, hap, hm⟩ := frees_parts k5
  refine ⟨⟨bare1, o1, by first | rfl | kernel_rfl⟩, witness1.witness, fun w => ⟨(left2.behind (XP := fun _ _ => True) (fun _ _ => trivial) hch w).1, fun s' hs' => ?_⟩⟩
  obtain ⟨s₀, hf, hg0, s, hT, hz, hgens, hg, G, y⟩ := (left2.behind (XP := fun _ _ => True) (fun _ _ => trivial) hch w).2 s' hs'
  have yh : s.heap = H1 w.params := congrArg Prod.fst y
  have yt : s.toks = 1994 := congrArg Prod.snd y
  have hgens : s.gens = #[] := Array.eq_empty_of_size_eq_zero (beq_iff_eq.mp hgens)
  refine ⟨s₀, hf, hg0, s, hT, fun n hn => ?_, fun x hx => (nomatch hx), fun x hx => (nomatch hx), ?_⟩
  · obtain rfl : n = lawR.name := List.mem_singleton.mp hn
    exact pinned_of_view hg G def_law the_law kw_law
  refine ClaimW.callFrom_of_specG (c := rowR.claim) hz hgens fun args hpre hlay ord hord => ?_
  obtain ⟨⟨vs, s₁⟩, hlaid⟩ := Option.isSome_iff_exists.mp (layAllW_isSome (P := w.params) (ord := ord) G.has args rowR.args s (pre_splitW hpre).1)
  have keeps := layAllW_keeps _ _ _ hlaid
  have hal := layAllW_rest _ _ _ hlaid
  obtain ⟨as, hrd, hin, hold⟩ := reads_layAllW hord _ _ _ hlaid hlay s₁.heap (fun _ _ e => e)
  have L : Laid rowR.records w s s₁ args vs as := ⟨⟨ord, hord, hlaid⟩, hrd, hin, hold, keeps, hal.1.trans hgens, hal.2.2.1⟩
  obtain ⟨ns, rfl, hlen⟩ := pre_says hpre
  obtain ⟨aL, hfl, hw⟩ := law_call (topW w) ns hlen
  have hk : KeepsH (H1 w.params) s₁.heap := yh ▸ keeps
  have pos : 0 < s₁.toks := by
    simp only [layAllW, layW] at hlaid
    split at hlaid
    · rename_i q hq
      split at hq
      · rename_i r hr
        simp only [Option.some.injEq, Prod.mk.injEq] at hlaid hq
        have := lays_toks _ _ _ _ _ _ _ hr
        obtain ⟨_, e⟩ := hlaid
        rw [← e, ← hq]
        show 0 < r.2.toks
        omega
      · cases hq
    · cases hlaid
  have ra : RepAll [] s₁.heap vs [.list (ns.map .int)] := by
    cases hrd with
    | cons a b =>
      cases b
      cases a with
      | list ho hc hd hr => exact RepAll.cons (Rep.list (by simp) ho hc hd (reads_ints ns _ _ hr)) RepAll.nil
  have mgE : s.heap.nsMap mainGlobals = (H1 w.params).nsMap mainGlobals := by rw [yh]
  have hns : s₁.heap.Ns mainNs (s.heap.nsMap mainGlobals) := (G.T.g).keeps keeps
  have hcall := hw (s := s₁) (E := fun e s' => False) room1 pos hk ra
  have hi := ident_freeW hu ha hap
  have hwi : rowR.claim.within = [] := List.isEmpty_iff.mp k6
  refine ⟨vs, s₁, hlaid, ?_⟩
  show wpAny (model pw w) callerA (do match ← nsGet mainNs lawR.name with
      | some f => do ret (← PySem.call f vs)
      | none => unsupported "claim.caller:no-such-global") _ _ _
  refine wpAny_bind (wpAny_nsGet hns ?_)
  rw [mgE, show (H1 w.params).nsMap mainGlobals lawR.name = some (.ref aL) from hfl]
  refine wpAny_bind (wpAny_mono hcall (fun v s' g => wpAny_pure ?_) fun e s' q => q.elim)
  obtain ⟨g1, g2⟩ := g
  obtain rfl : v = .bool true := Rep.bool_inv g2
  have gw : GoodWG rowR.claim (classAt s.heap) (ExcName.means s.heap) [.list (ns.map .int)] s₁ (.ok (.ret (.bool true))) s' := GoodW.toG ⟨.inl ⟨.bool true, .bool true, [], rfl, fun _ => rfl, .bool true, post1 _, fun _ => ⟨List.nodup_nil, fun a ha => by cases ha⟩⟩, g1.keeps, by obtain ⟨h', tk, rfl, _⟩ := g1; rfl, by obtain ⟨h', tk, rfl, _⟩ := g1; exact L.gens⟩
  have z := gw.laid (c := rowR.claim) hsame hwi hi L
  exact ⟨_, rfl, z.1, z.2.1, z.2.2, fun q => by cases q⟩
end Mine
end

theorem PySem.Challenge.cw_wo0029_01_holds : PySem.Challenge.rw_wo0029_01.Holds :=
  Mine.the_claim
