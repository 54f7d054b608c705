import PyProof.Rows.All
import Wide.All
import OpenK.AllK
import Wide.FinOn
import PySem.Challenge.RW_rs0178_01
open PySem PySem.W PyProof.Rows
set_option Elab.async false
set_option genInjectivity false
set_option genSizeOf false
set_option genSizeOfSpec false
section
open PySem PySem.W PySem.Calls PyProof.Rows PySem.Spec
namespace Mine

inductive PV where
  | none
  | bool (b : Bool)
  | int (i : Int)
  | str (x : Str)
  | raw (v : Value)
  | ref (i : Nat)
  | lst (xs : List PV)

mutual
noncomputable def PV.clean : PV → Prop
  | .ref _ => False
  | .lst xs => PV.cleans xs
  | _ => True
noncomputable def PV.cleans : List PV → Prop
  | [] => True
  | x :: xs => x.clean ∧ PV.cleans xs
end

theorem cleans_iff : ∀ {xs : List PV}, PV.cleans xs ↔ ∀ x ∈ xs, x.clean
  | [] => by simp [PV.cleans]
  | x :: xs => by simp only [PV.cleans, List.mem_cons, forall_eq_or_imp, cleans_iff]

mutual
inductive VR (as : List Addr) (Z : List (Addr × Obj)) : Value → PV → Prop
  | none : VR as Z .none .none
  | bool {b} : VR as Z (.bool b) (.bool b)
  | int {i t} : VR as Z (.int i t) (.int i)
  | str {x t} : VR as Z (.str x t) (.str x)
  | raw {v} : VR as Z v (.raw v)
  | ref {i a} : as[i]? = some a → VR as Z (.ref a) (.ref i)
  | lst {a vs n xs} : (a, listOf (List.toArray vs) n) ∈ Z → VRs as Z vs xs → VR as Z (.ref a) (.lst xs)
inductive VRs (as : List Addr) (Z : List (Addr × Obj)) : List Value → List PV → Prop
  | nil : VRs as Z [] []
  | cons {v x vs xs} : VR as Z v x → VRs as Z vs xs → VRs as Z (v :: vs) (x :: xs)
end

section
variable {as as' : List Addr} {Z Z' : List (Addr × Obj)}
theorem VR.mono (hZ : ∀ p ∈ Z, p ∈ Z') {v x} (h : VR as Z v x) : VR as Z' v x :=
  VR.rec (motive_1 := fun v x _ => VR as Z' v x) (motive_2 := fun v x _ => VRs as Z' v x) .none .bool .int .str .raw (fun h => .ref h) (fun h _ ih => .lst (hZ _ h) ih) .nil (fun _ _ h t => .cons h t) h
theorem VRs.mono (hZ : ∀ p ∈ Z, p ∈ Z') {v x} (h : VRs as Z v x) : VRs as Z' v x :=
  VRs.rec (motive_1 := fun v x _ => VR as Z' v x) (motive_2 := fun v x _ => VRs as Z' v x) .none .bool .int .str .raw (fun h => .ref h) (fun h _ ih => .lst (hZ _ h) ih) .nil (fun _ _ h t => .cons h t) h
theorem VR.ofClean {v x} (h : VR as Z v x) : x.clean → VR as' Z v x :=
  VR.rec (motive_1 := fun v x _ => x.clean → VR as' Z v x) (motive_2 := fun v x _ => PV.cleans x → VRs as' Z v x) (fun _ => .none) (fun _ => .bool) (fun _ => .int) (fun _ => .str) (fun _ => .raw) (fun _ c => (show False from c).elim) (fun h _ ih c => .lst h (ih c)) (fun _ => .nil) (fun _ _ h t c => .cons (h c.1) (t c.2)) h
theorem VRs.ofClean {v x} (h : VRs as Z v x) : PV.cleans x → VRs as' Z v x :=
  VRs.rec (motive_1 := fun v x _ => x.clean → VR as' Z v x) (motive_2 := fun v x _ => PV.cleans x → VRs as' Z v x) (fun _ => .none) (fun _ => .bool) (fun _ => .int) (fun _ => .str) (fun _ => .raw) (fun _ c => (show False from c).elim) (fun h _ ih c => .lst h (ih c)) (fun _ => .nil) (fun _ _ h t c => .cons (h c.1) (t c.2)) h
theorem VR.ext (he : ∀ (i : Nat) (a : Addr), as[i]? = some a → as'[i]? = some a) {v x} (h : VR as Z v x) : VR as' Z v x :=
  VR.rec (motive_1 := fun v x _ => VR as' Z v x) (motive_2 := fun v x _ => VRs as' Z v x) .none .bool .int .str .raw (fun h => .ref (he _ _ h)) (fun h _ ih => .lst h ih) .nil (fun _ _ h t => .cons h t) h
theorem VRs.ext (he : ∀ (i : Nat) (a : Addr), as[i]? = some a → as'[i]? = some a) {v x} (h : VRs as Z v x) : VRs as' Z v x :=
  VRs.rec (motive_1 := fun v x _ => VR as' Z v x) (motive_2 := fun v x _ => VRs as' Z v x) .none .bool .int .str .raw (fun h => .ref (he _ _ h)) (fun h _ ih => .lst h ih) .nil (fun _ _ h t => .cons h t) h
theorem VRs.length : ∀ {vs xs}, VRs as Z vs xs → vs.length = xs.length
  | _, _, .nil => rfl
  | _, _, .cons _ t => by simp [t.length]
theorem VRs.append : ∀ {vs xs ws ys}, VRs as Z vs xs → VRs as Z ws ys → VRs as Z (vs ++ ws) (xs ++ ys)
  | _, _, _, _, .nil, h => h
  | _, _, _, _, .cons h t, h' => .cons h (t.append h')
theorem VRs.get : ∀ {vs xs} {i : Nat} {x : PV}, VRs as Z vs xs → xs[i]? = some x → ∃ v, vs[i]? = some v ∧ VR as Z v x
  | _, _, i, _, .nil, h => by cases i <;> simp at h
  | _, _, 0, _, .cons h _, e => by simp only [List.getElem?_cons_zero, Option.some.injEq] at e ⊢; subst e; exact ⟨_, rfl, h⟩
  | _, _, i + 1, _, .cons _ t, e => by simpa using t.get (by simpa using e)
theorem VRs.getV : ∀ {vs xs} {i : Nat} {v : Value}, VRs as Z vs xs → vs[i]? = some v → ∃ x, xs[i]? = some x ∧ VR as Z v x
  | _, _, i, _, .nil, h => by cases i <;> simp at h
  | _, _, 0, _, .cons h _, e => by simp only [List.getElem?_cons_zero, Option.some.injEq] at e ⊢; subst e; exact ⟨_, rfl, h⟩
  | _, _, i + 1, _, .cons _ t, e => by simpa using t.getV (by simpa using e)
theorem VRs.drop : ∀ {vs xs} (n : Nat), VRs as Z vs xs → VRs as Z (vs.drop n) (xs.drop n)
  | _, _, 0, h => h
  | _, _, _ + 1, .nil => .nil
  | _, _, n + 1, .cons _ t => t.drop n
theorem VRs.take : ∀ {vs xs} (n : Nat), VRs as Z vs xs → VRs as Z (vs.take n) (xs.take n)
  | _, _, 0, _ => .nil
  | _, _, _ + 1, .nil => .nil
  | _, _, n + 1, .cons h t => .cons h (t.take n)
theorem VRs.strs {vs} {xs : List Str} (h : VRs as Z vs (xs.map .str)) : StrsAre vs xs := by
  induction xs generalizing vs with
  | nil => cases h; exact .nil
  | cons x xs ih => cases h with | cons hv t => cases hv; exact .cons _ _ (ih t)
theorem VRs.ints {vs} {xs : List Int} (h : VRs as Z vs (xs.map .int)) : IntsAre vs xs := by
  induction xs generalizing vs with
  | nil => cases h; exact .nil
  | cons x xs ih => cases h with | cons hv t => cases hv; exact .cons _ _ (ih t)
theorem VRs.ofStrs : ∀ {vs} {xs : List Str}, StrsAre vs xs → VRs as Z vs (xs.map .str)
  | _, _, .nil => .nil
  | _, _, .cons _ _ t => .cons .str (VRs.ofStrs t)
theorem VRs.ofInts : ∀ {vs} {xs : List Int}, IntsAre vs xs → VRs as Z vs (xs.map .int)
  | _, _, .nil => .nil
  | _, _, .cons _ _ t => .cons .int (VRs.ofInts t)
end


inductive PO where
  | lst (xs : List PV)
  | app (i : Nat)
  | cell (x : Option PV)

inductive OR (as : List Addr) (Z : List (Addr × Obj)) : Obj → PO → Prop
  | lst {vs n xs} : VRs as Z vs xs → OR as Z (listOf (List.toArray vs) n) (.lst xs)
  | app {i a} : as[i]? = some a → OR as Z { cls := .type "builtin_function_or_method", data := .fields #[.builtin "list.append", .ref a] } (.app i)
  | cell {o v x} : o.data = .cell (some v) → VR as Z v x → OR as Z o (.cell (some x))
  | cell0 {o} : o.data = .cell none → OR as Z o (.cell none)
theorem OR.mono {as Z Z' o x} (hZ : ∀ p ∈ Z, p ∈ Z') : OR as Z o x → OR as Z' o x
  | .lst h => .lst (h.mono hZ)
  | .app h => .app h
  | .cell d h => .cell d (h.mono hZ)
  | .cell0 d => .cell0 d
theorem OR.ext {as as' Z o x} (he : ∀ (i : Nat) (a : Addr), as[i]? = some a → as'[i]? = some a) : OR as Z o x → OR as' Z o x
  | .lst h => .lst (h.ext he)
  | .app h => .app (he _ _ h)
  | .cell d h => .cell d (h.ext he)
  | .cell0 d => .cell0 d

structure St where
  loc : Str → Option PV
  H : List PO
  cel : Str → Option Nat := fun _ => none
noncomputable def St.set (σ : St) (x : Str) (v : PV) : St := { σ with loc := fun y => if y = x then some v else σ.loc y }

structure Gl where
  prog : Program
  w : World
  K : Frag
  p : Program
  loose : List Str
  mean : ExcName → Option Value
  mg : Str → Option Value
  mb : Str → Option Value

structure Cx where
  g : Gl
  A : Around
  h₀ : Heap
  L : Addr
  env : Env
  comp : Option Addr
  s₀ : Shared
  m₀ : Str → Option Value := fun _ => none

noncomputable def Cx.Holds (c : Cx) (m : Str → Option Value) (R : List (Addr × Obj)) (x : Str) (v : Value) : Prop :=
  match c.comp with
  | none => m x = some v
  | some C => ∃ o es ep, (C, o) ∈ R ∧ o.data = .dict es ep ∧ StrKeys es ∧ nsFind es x = some v

structure RelP (c : Cx) (T Z R : List (Addr × Obj)) (σ : St) (m : Str → Option Value) : Prop where
  loc : ∀ x pv, σ.loc x = some pv → ∃ v, VR (T.map (·.1)) Z v pv ∧ c.Holds m R x v
  nd : (T.map (·.1)).Nodup
  dT : ∀ p ∈ T, ∀ q ∈ Z ++ R, p.1 ≠ q.1
  dZ : ∀ p ∈ Z, ∀ q ∈ R, p.1 ≠ q.1
  len : T.length = σ.H.length
  ob : ∀ (i : Nat) (p : Addr × Obj) (po : PO), T[i]? = some p → σ.H[i]? = some po → OR (T.map (·.1)) Z p.2 po
  ce : ∀ x i, σ.cel x = some i → ∃ a, c.env.cells.lookup x = some a ∧ (T.map (·.1))[i]? = some a
  mm : ∀ C, c.comp = some C → m = c.m₀

structure Rel (c : Cx) (T Z R : List (Addr × Obj)) (σ : St) (s : Shared) : Prop where
  sh : ∃ h tk, s = { c.s₀ with heap := h, toks := tk }
  N : News c.h₀ c.L s.heap (T ++ (Z ++ R))
  fr : ∃ m, RelP c T Z R σ m ∧ Fr c.h₀ c.L s.heap m

noncomputable abbrev ads (T : List (Addr × Obj)) : List Addr := T.map (·.1)

noncomputable def Post (c : Cx) (T Z R : List (Addr × Obj)) (Q : PV → St → Prop) (v : Value) (s : Shared) : Prop :=
  ∃ pv σ T' Z', Q pv σ ∧ ads T' = ads T ∧ (∀ p ∈ Z, p ∈ Z') ∧ VR (ads T') Z' v pv ∧ Rel c T' Z' R σ s

structure WE (c : Cx) (t : Sem Value) (Q : PV → St → Prop) (σ : St) : Prop where
  run : ∀ T Z R s, Rel c T Z R σ s → wpAny (model c.g.prog c.g.w) c.A t (Post c T Z R Q) (fun _ _ => False) s

noncomputable def PostB (c : Cx) (T Z R : List (Addr × Obj)) (Q : Bool → St → Prop) (b : Bool) (s : Shared) : Prop :=
  ∃ σ T' Z', Q b σ ∧ ads T' = ads T ∧ (∀ p ∈ Z, p ∈ Z') ∧ Rel c T' Z' R σ s
structure WT (c : Cx) (t : Sem Bool) (Q : Bool → St → Prop) (σ : St) : Prop where
  run : ∀ T Z R s, Rel c T Z R σ s → wpAny (model c.g.prog c.g.w) c.A t (PostB c T Z R Q) (fun _ _ => False) s

noncomputable def PostL (c : Cx) (T Z R : List (Addr × Obj)) (Q : List PV → St → Prop) (vs : List Value) (s : Shared) : Prop :=
  ∃ pvs σ T' Z', Q pvs σ ∧ ads T' = ads T ∧ (∀ p ∈ Z, p ∈ Z') ∧ VRs (ads T') Z' vs pvs ∧ Rel c T' Z' R σ s

/-- an operation upon values already at hand -/
structure WO1 (c : Cx) (f : Value → Sem Value) (a : PV) (Q : PV → St → Prop) (σ : St) : Prop where
  run : ∀ T Z R s v, Rel c T Z R σ s → VR (ads T) Z v a → wpAny (model c.g.prog c.g.w) c.A (f v) (Post c T Z R Q) (fun _ _ => False) s
structure WO2 (c : Cx) (f : Value → Value → Sem Value) (a b : PV) (Q : PV → St → Prop) (σ : St) : Prop where
  run : ∀ T Z R s v u, Rel c T Z R σ s → VR (ads T) Z v a → VR (ads T) Z u b → wpAny (model c.g.prog c.g.w) c.A (f v u) (Post c T Z R Q) (fun _ _ => False) s
structure WO (c : Cx) (f : List Value → Sem Value) (xs : List PV) (Q : PV → St → Prop) (σ : St) : Prop where
  run : ∀ T Z R s vs, Rel c T Z R σ s → VRs (ads T) Z vs xs → wpAny (model c.g.prog c.g.w) c.A (f vs) (Post c T Z R Q) (fun _ _ => False) s

inductive PF where
  | next | cont | ret (v : PV)
inductive FR (as : List Addr) (Z : List (Addr × Obj)) : Flow → PF → Prop
  | next : FR as Z .next .next
  | cont : FR as Z .cont .cont
  | ret {v x} : VR as Z v x → FR as Z (.ret v) (.ret x)

noncomputable def PostS (c : Cx) (Z R : List (Addr × Obj)) (Q : PF → St → Prop) (f : Flow) (s : Shared) : Prop :=
  ∃ pf σ T' Z', Q pf σ ∧ (∀ p ∈ Z, p ∈ Z') ∧ FR (ads T') Z' f pf ∧ Rel c T' Z' R σ s
structure WS (c : Cx) (t : Sem Flow) (Q : PF → St → Prop) (σ : St) : Prop where
  run : ∀ T Z R s, Rel c T Z R σ s → wpAny (model c.g.prog c.g.w) c.A t (PostS c Z R Q) (fun _ _ => False) s

structure Cx.Ok (c : Cx) (n : Nat) : Prop where
  hh : c.A.handled = none
  X : c.g.K.In c.h₀
  top : Top c.g.p c.g.loose c.g.mean c.g.mg c.g.mb c.h₀
  fn : ∃ A₀ base outer fenv, Below A₀ base outer c.h₀ ∧ c.A.frames = some (fenv :: outer) ∧ fenv.frame = some c.L ∧ fenv.scope.kind = .function
  kind : c.env.scope.kind = .function
  locs : c.env.locals = c.comp.getD c.L
  glob : c.env.globals = mainGlobals
  blt : c.env.builtins = builtinsNs
  dep : c.A.depth + n < recursionLimit
  un : c.A.units + 4 * n + 50 < cLine

section
variable {c : Cx} {T Z R : List (Addr × Obj)} {σ : St} {s : Shared} {Q : PV → St → Prop}

theorem Rel.keep {h' : Heap} {tk : Nat} (r : Rel c T Z R σ s) (hk : ∀ b o, s.heap.get? b = some o → h'.get? b = some o) : Rel c T Z R σ { s with heap := h', toks := tk } := by
  obtain ⟨h, t, rfl⟩ := r.sh
  obtain ⟨m, P, F⟩ := r.fr
  exact ⟨⟨h', tk, rfl⟩, r.N.grown hk, m, P, F.keeps hk⟩
theorem Rel.toks {tk : Nat} (r : Rel c T Z R σ s) : Rel c T Z R σ { s with toks := tk } := r.keep (h' := s.heap) fun _ _ e => e

theorem Post.here {T' Z' : List (Addr × Obj)} {pv v} (hq : Q pv σ) (ha : ads T' = ads T) (hZ : ∀ p ∈ Z, p ∈ Z') (hv : VR (ads T') Z' v pv) (r : Rel c T' Z' R σ s) : Post c T Z R Q v s :=
  ⟨pv, σ, T', Z', hq, ha, hZ, hv, r⟩
theorem Post.up {T' Z' : List (Addr × Obj)} {v} (ha : ads T' = ads T) (hZ : ∀ p ∈ Z, p ∈ Z') (h : Post c T' Z' R Q v s) : Post c T Z R Q v s := by
  obtain ⟨pv, σ', T2, Z2, q, a, z, hv, r⟩ := h
  exact ⟨pv, σ', T2, Z2, q, a.trans ha, fun p hp => z p (hZ p hp), hv, r⟩
theorem PostB.up {T' Z' : List (Addr × Obj)} {b} {Q : Bool → St → Prop} (ha : ads T' = ads T) (hZ : ∀ p ∈ Z, p ∈ Z') (h : PostB c T' Z' R Q b s) : PostB c T Z R Q b s := by
  obtain ⟨σ', T2, Z2, q, a, z, r⟩ := h
  exact ⟨σ', T2, Z2, q, a.trans ha, fun p hp => z p (hZ p hp), r⟩
theorem PostL.up {T' Z' : List (Addr × Obj)} {v} {Q : List PV → St → Prop} (ha : ads T' = ads T) (hZ : ∀ p ∈ Z, p ∈ Z') (h : PostL c T' Z' R Q v s) : PostL c T Z R Q v s := by
  obtain ⟨pv, σ', T2, Z2, q, a, z, hv, r⟩ := h
  exact ⟨pv, σ', T2, Z2, q, a.trans ha, fun p hp => z p (hZ p hp), hv, r⟩
theorem PostS.up {Z' : List (Addr × Obj)} {f} {Q : PF → St → Prop} (hZ : ∀ p ∈ Z, p ∈ Z') (h : PostS c Z' R Q f s) : PostS c Z R Q f s := by
  obtain ⟨pv, σ', T2, Z2, q, z, hv, r⟩ := h
  exact ⟨pv, σ', T2, Z2, q, fun p hp => z p (hZ p hp), hv, r⟩

theorem WE.mono {t : Sem Value} {Q' : PV → St → Prop} (h : WE c t Q σ) (hq : ∀ v σ', Q v σ' → Q' v σ') : WE c t Q' σ := .mk fun T Z R s r =>
  wpAny_mono (h.run T Z R s r) (fun _ _ ⟨pv, σ', T2, Z2, q, a⟩ => ⟨pv, σ', T2, Z2, hq _ _ q, a⟩) fun _ _ e => e
theorem WT.mono {t : Sem Bool} {Q Q' : Bool → St → Prop} (h : WT c t Q σ) (hq : ∀ v σ', Q v σ' → Q' v σ') : WT c t Q' σ := .mk fun T Z R s r =>
  wpAny_mono (h.run T Z R s r) (fun _ _ ⟨σ', T2, Z2, q, a⟩ => ⟨σ', T2, Z2, hq _ _ q, a⟩) fun _ _ e => e
theorem WS.mono {t : Sem Flow} {Q Q' : PF → St → Prop} (h : WS c t Q σ) (hq : ∀ v σ', Q v σ' → Q' v σ') : WS c t Q' σ := .mk fun T Z R s r =>
  wpAny_mono (h.run T Z R s r) (fun _ _ ⟨pv, σ', T2, Z2, q, a⟩ => ⟨pv, σ', T2, Z2, hq _ _ q, a⟩) fun _ _ e => e
theorem WO.mono {f : List Value → Sem Value} {xs} {Q' : PV → St → Prop} (h : WO c f xs Q σ) (hq : ∀ v σ', Q v σ' → Q' v σ') : WO c f xs Q' σ := .mk fun T Z R s vs r hv =>
  wpAny_mono (h.run T Z R s vs r hv) (fun _ _ ⟨pv, σ', T2, Z2, q, a⟩ => ⟨pv, σ', T2, Z2, hq _ _ q, a⟩) fun _ _ e => e
end

end Mine
end
section
open PySem PySem.W PySem.Calls PyProof.Rows PySem.Spec
namespace Mine
section
variable {c : Cx} {T Z R : List (Addr × Obj)} {σ : St} {s : Shared} {Q : PV → St → Prop} {n : Nat}

theorem Rel.post {v pv tk} (r : Rel c T Z R σ s) (hq : Q pv σ) (hv : VR (ads T) Z v pv) : Post c T Z R Q v { s with toks := tk } := ⟨pv, σ, T, Z, hq, rfl, fun _ h => h, hv, r.toks⟩
theorem Rel.post0 {v pv} (r : Rel c T Z R σ s) (hq : Q pv σ) (hv : VR (ads T) Z v pv) : Post c T Z R Q v s := ⟨pv, σ, T, Z, hq, rfl, fun _ h => h, hv, r⟩

theorem WE.name {x : Str} {pos : Pos} {pv : PV} (ok : c.Ok n) (hv : σ.loc x = some pv) (h : Q pv σ) (hk : c.env.kindOf x = some .local := by rfl) (hd : (x == ("__debug__" : Str)) = false := by decide) :
    WE c (eval (.Name x pos) c.env) Q σ := by
  refine ⟨?_⟩; intro T Z R s r
  obtain ⟨m, P, F⟩ := r.fr
  obtain ⟨v, hvr, hh⟩ := P.loc x pv hv
  have fin : Post c T Z R Q v s := r.post0 h hvr
  unfold Cx.Holds at hh
  have hl := ok.locs
  refine wpAny_Name ?_ hd
  split at hh
  · rename_i e
    rw [e] at hl
    exact wpAny_loadName_local ok.kind hk (m := m) (hl ▸ F.ns) hh fin
  · rename_i C e
    rw [e] at hl
    obtain ⟨o, es, ep, hR, hd, hs, hf⟩ := hh
    have hN : s.heap.Ns C (nsFind es) := ⟨o, es, ep, (r.N _ (List.mem_append_right _ (List.mem_append_right _ hR))).1, hd, hs, fun _ => rfl⟩
    exact wpAny_loadName_local ok.kind hk (m := nsFind es) (by rw [hl]; exact hN) hf fin

theorem WE.int {i : Int} {k : Nat} {pos : Pos} (h : Q (.int i) σ) : WE c (eval (.Constant (.int i) k pos) c.env) Q σ :=
  .mk fun _ _ _ _ r => wpAny_Constant_int (r.post h .int)
theorem WE.str {x : Str} {k : Nat} {pos : Pos} (h : Q (.str x) σ) : WE c (eval (.Constant (.str x) k pos) c.env) Q σ :=
  .mk fun _ _ _ _ r => wpAny_Constant_str (r.post h .str)

theorem WE.bind1 {t : Sem Value} {f : Value → Sem Value} {t' : Sem Value} (h : WE c t (fun a σ1 => WO1 c f a Q σ1) σ)
    (he : ∀ {QQ E s}, wpAny (model c.g.prog c.g.w) c.A t (fun v s' => wpAny (model c.g.prog c.g.w) c.A (f v) QQ E s') E s → wpAny (model c.g.prog c.g.w) c.A t' QQ E s) : WE c t' Q σ := by
  refine ⟨?_⟩; intro T Z R s r
  refine he (wpAny_mono (h.run T Z R s r) (fun v s' p => ?_) fun _ _ e => e)
  obtain ⟨pv, σ', T', Z', q, a, z, hv, r'⟩ := p
  exact wpAny_mono (q.run T' Z' R s' v r' hv) (fun _ _ p => p.up a z) fun _ _ e => e
theorem WE.bind2 {t1 t2 : Sem Value} {f : Value → Value → Sem Value} {t' : Sem Value} (h : WE c t1 (fun a σ1 => WE c t2 (fun b σ2 => WO2 c f a b Q σ2) σ1) σ)
    (he : ∀ {QQ E s}, wpAny (model c.g.prog c.g.w) c.A t1 (fun v s' => wpAny (model c.g.prog c.g.w) c.A t2 (fun u s2 => wpAny (model c.g.prog c.g.w) c.A (f v u) QQ E s2) E s') E s → wpAny (model c.g.prog c.g.w) c.A t' QQ E s) : WE c t' Q σ := by
  refine ⟨?_⟩; intro T Z R s r
  refine he (wpAny_mono (h.run T Z R s r) (fun v s' p => ?_) fun _ _ e => e)
  obtain ⟨pv, σ', T', Z', q, a, z, hv, r'⟩ := p
  refine wpAny_mono (q.run T' Z' R s' r') (fun u s2 p2 => ?_) fun _ _ e => e
  obtain ⟨pu, σ2, T2, Z2, q2, a2, z2, hu, r2⟩ := p2
  exact wpAny_mono (q2.run T2 Z2 R s2 v u r2 (by rw [a2]; exact hv.mono z2) hu) (fun _ _ p => p.up (a2.trans a) (fun p hp => z2 p (z p hp))) fun _ _ e => e

theorem WE.bin {l r : Expr} {op : Operator} {pos : Pos} (h : WE c (eval l c.env) (fun a σ1 => WE c (eval r c.env) (fun b σ2 => WO2 c (binaryOp op) a b Q σ2) σ1) σ) :
    WE c (eval (.BinOp l op r pos) c.env) Q σ := WE.bind2 h wpAny_BinOp
theorem WE.un {x : Expr} {op : UnaryOp} {pos : Pos} (h : WE c (eval x c.env) (fun a σ1 => WO1 c (unaryOp op) a Q σ1) σ) :
    WE c (eval (.UnaryOp op x pos) c.env) Q σ := WE.bind1 h wpAny_UnaryOp
theorem WE.cmp {l r : Expr} {op : CmpOp} {pos : Pos} (h : WE c (eval l c.env) (fun a σ1 => WE c (eval r c.env) (fun b σ2 => WO2 c (compareOp op) a b Q σ2) σ1) σ)
    (hb : behindInMarks op r = false := by rfl) : WE c (eval (.Compare l [op] [r] pos) c.env) Q σ := WE.bind2 h (wpAny_Compare1 · hb)

-- operations on ints
theorem WO2.addI {a b : Int} (h : Q (.int (a + b)) σ) : WO2 c (binaryOp .Add) (.int a) (.int b) Q σ := by
  refine ⟨?_⟩; rintro T Z R s _ _ r (_ | _) (_ | _); exact add_int (r.post h .int)
theorem WO2.subI {a b : Int} (h : Q (.int (a - b)) σ) : WO2 c (binaryOp .Sub) (.int a) (.int b) Q σ := by
  refine ⟨?_⟩; rintro T Z R s _ _ r (_ | _) (_ | _); exact sub_int (r.post h .int)
theorem WO2.modI {a b : Int} (hb : b ≠ 0) (h : Q (.int (a.fmod b)) σ) : WO2 c (binaryOp .Mod) (.int a) (.int b) Q σ := by
  refine ⟨?_⟩; rintro T Z R s _ _ r (_ | _) (_ | _); exact mod_int hb (r.post h .int)
theorem WO2.divI {a b : Int} (hb : b ≠ 0) (hp : Builtin.divisionGoesByPylong a b = false) (h : Q (.int (a.fdiv b)) σ) : WO2 c (binaryOp .FloorDiv) (.int a) (.int b) Q σ := by
  refine ⟨?_⟩; rintro T Z R s _ _ r (_ | _) (_ | _); exact floordiv_int hb (r.post h .int) (.inl hp)
theorem WO2.iaddI {a b : Int} (h : Q (.int (a + b)) σ) : WO2 c (inplaceOp .Add) (.int a) (.int b) Q σ := by
  refine ⟨?_⟩; rintro T Z R s _ _ r (_ | _) (_ | _); exact iadd_int (r.post h .int)
theorem WO1.negI {a : Int} (h : Q (.int (-a)) σ) : WO1 c (unaryOp .USub) (.int a) Q σ := by
  refine ⟨?_⟩; rintro T Z R s _ r (_ | _); exact neg_int (r.post h .int)
theorem WO2.ltI {a b : Int} (h : Q (.bool (decide (a < b))) σ) : WO2 c (compareOp .Lt) (.int a) (.int b) Q σ := by
  refine ⟨?_⟩; rintro T Z R s _ _ r (_ | _) (_ | _); exact lt_int (r.post0 h .bool)
theorem WO2.leI {a b : Int} (h : Q (.bool (decide (a ≤ b))) σ) : WO2 c (compareOp .LtE) (.int a) (.int b) Q σ := by
  refine ⟨?_⟩; rintro T Z R s _ _ r (_ | _) (_ | _); exact le_int (r.post0 h .bool)
theorem WO2.gtI {a b : Int} (h : Q (.bool (decide (b < a))) σ) : WO2 c (compareOp .Gt) (.int a) (.int b) Q σ := by
  refine ⟨?_⟩; rintro T Z R s _ _ r (_ | _) (_ | _); exact gt_int (r.post0 h .bool)
theorem WO2.geI {a b : Int} (h : Q (.bool (decide (b ≤ a))) σ) : WO2 c (compareOp .GtE) (.int a) (.int b) Q σ := by
  refine ⟨?_⟩; rintro T Z R s _ _ r (_ | _) (_ | _); exact ge_int (r.post0 h .bool)
theorem WO2.eqI {a b : Int} (h : Q (.bool (a == b)) σ) : WO2 c (compareOp .Eq) (.int a) (.int b) Q σ := by
  refine ⟨?_⟩; rintro T Z R s _ _ r (_ | _) (_ | _); exact eq_int (r.post0 h .bool)
-- operations on strs
theorem WO2.addS {x y : Str} (h : Q (.str (x ++ y)) σ) (hz : x.length + y.length ≤ sizeLine) : WO2 c (binaryOp .Add) (.str x) (.str y) Q σ := by
  refine ⟨?_⟩; rintro T Z R s _ _ r (_ | _) (_ | _); exact SBL.add (fun _ _ _ => r.post h .str) hz
theorem WO2.iaddS {x y : Str} (h : Q (.str (x ++ y)) σ) (hz : x.length + y.length ≤ sizeLine) : WO2 c (inplaceOp .Add) (.str x) (.str y) Q σ := by
  refine ⟨?_⟩; rintro T Z R s _ _ r (_ | _) (_ | _); exact SBL.iadd (fun _ _ _ => r.post h .str) hz
theorem WO2.eqS {x y : Str} (h : Q (.bool (x == y)) σ) : WO2 c (compareOp .Eq) (.str x) (.str y) Q σ := by
  refine ⟨?_⟩; rintro T Z R s _ _ r (_ | _) (_ | _); exact eq_str (r.post0 h .bool)
theorem WO2.neS {x y : Str} (h : Q (.bool (x != y)) σ) : WO2 c (compareOp .NotEq) (.str x) (.str y) Q σ := by
  refine ⟨?_⟩; rintro T Z R s _ _ r (_ | _) (_ | _); exact ne_str (r.post0 h .bool)
theorem WO2.inS {x y : Str} (h : Q (.bool (!(Builtin.Str.occurrences x y 0 x.length 1).isEmpty)) σ) : WO2 c (compareOp .In) (.str y) (.str x) Q σ := by
  refine ⟨?_⟩; rintro T Z R s _ _ r (_ | _) (_ | _); exact in_str (r.post0 h .bool)

theorem Rel.isList {a : Addr} {vs : List Value} {k : Nat} (r : Rel c T Z R σ s) (h : (a, listOf vs.toArray k) ∈ Z) : s.heap.IsList a vs.toArray :=
  ⟨_, (r.N _ (List.mem_append_right _ (List.mem_append_left _ h))).1, rfl, k, rfl⟩
/-- a frozen or a tracked list -/
noncomputable def St.lst? (σ : St) : PV → Option (List PV)
  | .lst xs => some xs
  | .ref i => match σ.H[i]? with | some (.lst xs) => some xs | _ => none
  | _ => none
theorem Rel.asList {v : Value} {x : PV} {xs : List PV} (r : Rel c T Z R σ s) (hv : VR (ads T) Z v x) (hx : σ.lst? x = some xs) :
    ∃ a vs, v = .ref a ∧ s.heap.IsList a (List.toArray vs) ∧ VRs (ads T) Z vs xs := by
  cases hv with
  | lst h t => cases hx; exact ⟨_, _, rfl, r.isList h, t⟩
  | ref h =>
    rename_i i a
    obtain ⟨m, P, F⟩ := r.fr
    simp only [St.lst?] at hx
    split at hx
    · rename_i ys e
      cases hx
      rw [List.getElem?_map] at h
      obtain ⟨p, hp, rfl⟩ := Option.map_eq_some_iff.mp h
      have o := P.ob i p _ hp e
      obtain ⟨pa, po⟩ := p
      cases o with
      | lst t => exact ⟨_, _, rfl, ⟨_, (r.N _ (List.mem_append_left _ (List.mem_of_getElem? hp))).1, rfl, _, rfl⟩, t⟩
    · cases hx
  | _ => cases hx
theorem WO2.inL {x : Str} {l : PV} {xs : List Str} (hl : σ.lst? l = some (xs.map .str)) (h : Q (.bool (xs.any (· == x))) σ) : WO2 c (compareOp .In) (.str x) l Q σ := by
  refine ⟨?_⟩; rintro T Z R s _ u r (_ | _) hu
  obtain ⟨a, vs, rfl, hL, t⟩ := r.asList hu hl
  exact in_list_strs hL t.strs (r.post0 h .bool)

-- names of the module and built-in names
theorem WE.global {x : Str} {pos : Pos} {v : Value} (ok : c.Ok n) (e : nsIn c.g.K mainGlobals x = some (some v)) (h : Q (.raw v) σ) (hx : c.env.kindOf x = some .globalImplicit := by rfl) (hd : (x == ("__debug__" : Str)) = false := by decide) :
    WE c (eval (.Name x pos) c.env) Q σ := by
  refine ⟨?_⟩; intro T Z R s r
  obtain ⟨m, P, F⟩ := r.fr
  exact Name_function_global ok.kind hx (loadGlobal_global (by rw [ok.glob]; exact ok.top.g.keeps F.keep) (mg_of ok.X ok.top.g e) (r.post0 h .raw)) hd
theorem WE.globalS {x : Str} {pos : Pos} {y : Str} {t : Tok} (ok : c.Ok n) (e : nsIn c.g.K mainGlobals x = some (some (.str y t))) (h : Q (.str y) σ) (hx : c.env.kindOf x = some .globalImplicit := by rfl) (hd : (x == ("__debug__" : Str)) = false := by decide) :
    WE c (eval (.Name x pos) c.env) Q σ := by
  refine ⟨?_⟩; intro T Z R s r
  obtain ⟨m, P, F⟩ := r.fr
  exact Name_function_global ok.kind hx (loadGlobal_global (by rw [ok.glob]; exact ok.top.g.keeps F.keep) (mg_of ok.X ok.top.g e) (r.post0 h .str)) hd
theorem WE.builtin {x : Str} {pos : Pos} {v : Value} (ok : c.Ok n) (e : nsIn c.g.K mainGlobals x = some none) (hv : bootBuiltins x = some v) (hn : x ≠ "__name__") (h : Q (.raw v) σ) (hx : c.env.kindOf x = some .globalImplicit := by rfl) (hd : (x == ("__debug__" : Str)) = false := by decide) :
    WE c (eval (.Name x pos) c.env) Q σ := by
  refine ⟨?_⟩; intro T Z R s r
  obtain ⟨m, P, F⟩ := r.fr
  exact Name_function_global ok.kind hx (loadGlobal_builtin (by rw [ok.glob]; exact ok.top.g.keeps F.keep) (mg_none_of ok.X ok.top.g e) (by rw [ok.blt]; exact ok.top.b.keeps F.keep) ((ok.top.builtins x hn).trans hv) (r.post0 h .raw)) hd

-- arguments
noncomputable def WA (c : Cx) : List Expr → (List PV → St → Prop) → St → Prop
  | [], Q, σ => Q [] σ
  | e :: es, Q, σ => WE c (eval e c.env) (fun a σ1 => WA c es (fun as σ2 => Q (a :: as) σ2) σ1) σ
noncomputable def noStars (es : List Expr) : Bool := es.all fun e => !PySem.W.isStarred e
theorem starEach_cons {e : Expr} {es : List Expr} {env : Env} (h : PySem.W.isStarred e = false) : starEach (e :: es) env = (false, eval e env) :: starEach es env := by
  cases e <;> first | rfl | cases h
theorem starEach_any : ∀ {es : List Expr} {env : Env} {pos : Pos}, noStars es = true → (backTo pos (starEach es env)).any (·.1) = false
  | [], _, _, _ => rfl
  | e :: es, env, pos, h => by
    simp only [noStars, List.all_cons, Bool.and_eq_true, Bool.not_eq_true'] at h
    rw [starEach_cons h.1]
    have := starEach_any (env := env) (pos := pos) (es := es) h.2
    simpa [backTo] using this
theorem WA.spliced : ∀ {es : List Expr} {Q : List PV → St → Prop} {σ : St} {T Z R s} {pos : Pos}, noStars es = true → WA c es Q σ → Rel c T Z R σ s →
    wpAny (model c.g.prog c.g.w) c.A (spliced (backTo pos (starEach es c.env))) (PostL c T Z R Q) (fun _ _ => False) s
  | [], Q, σ, T, Z, R, s, pos, _, h, r => spliced_none ⟨[], σ, T, Z, h, rfl, fun _ h => h, .nil, r⟩
  | e :: es, Q, σ, T, Z, R, s, pos, hn, h, r => by
    simp only [noStars, List.all_cons, Bool.and_eq_true, Bool.not_eq_true'] at hn
    refine spliced_more ?_ (starEach_cons hn.1)
    refine wpAny_mono (h.run T Z R s r) (fun v s' p => ?_) fun _ _ e => e
    obtain ⟨pv, σ', T', Z', q, a, z, hv, r'⟩ := p
    refine wpAny_mono (WA.spliced hn.2 q r') (fun vs s2 p2 => ?_) fun _ _ e => e
    obtain ⟨pvs, σ2, T2, Z2, q2, a2, z2, hvs, r2⟩ := p2
    exact ⟨pv :: pvs, σ2, T2, Z2, q2, a2.trans a, fun p hp => z2 p (z p hp), .cons (by rw [a2]; exact hv.mono z2) hvs, r2⟩

theorem Rel.K {n} (r : Rel c T Z R σ s) (ok : c.Ok n) : c.g.K.In s.heap := by
  obtain ⟨m, P, F⟩ := r.fr
  exact ok.X.keeps F.keep

theorem callWith_KA {es : List Expr} {pos : Pos} {f : Value} {Q : List PV → St → Prop} {QQ : Value → Shared → Prop} (ok : c.Ok n) (hk : keepIn c.g.K f = true) (hs : noStars es = true) (r : Rel c T Z R σ s) (h : WA c es Q σ)
    (hq : ∀ vs s', PostL c T Z R Q vs s' → wpAny (model c.g.prog c.g.w) c.A (call f vs) QQ (fun _ _ => False) s') :
    wpAny (model c.g.prog c.g.w) c.A (callWith pos f [] (backTo pos (starEach es c.env)) []) QQ (fun _ _ => False) s := by
  cases es with
  | nil => exact callWith_K0 (r.K ok) hk (hq [] s ⟨[], σ, T, Z, h, rfl, fun _ h => h, .nil, r⟩)
  | cons e rest =>
    have hs' := hs
    simp only [noStars, List.all_cons, Bool.and_eq_true, Bool.not_eq_true'] at hs
    refine callWith_K ok.X hk (wpAny_mono (WA.spliced hs' h r) (fun vs s' p => ⟨?_, hq vs s' p⟩) fun _ _ e => e) (starEach_cons hs.1) (starEach_any hs.2)
    obtain ⟨_, _, _, _, _, _, _, _, r'⟩ := p
    exact r'.K ok

theorem WE.callF {id : Str} {p pos : Pos} {args : List Expr} {f : Value} (ok : c.Ok n) (e : nsIn c.g.K mainGlobals id = some (some f)) (hk : keepIn c.g.K f = true)
    (h : WA c args (fun vs σ1 => WO c (fun ws => call f ws) vs Q σ1) σ) (hs : noStars args = true := by rfl) (hx : c.env.kindOf id = some .globalImplicit := by rfl) (hd : (id == ("__debug__" : Str)) = false := by decide) :
    WE c (eval (.Call (.Name id p) args [] pos) c.env) Q σ := by
  refine ⟨?_⟩; intro T Z R s r
  obtain ⟨m, P, F⟩ := r.fr
  refine wpAny_Call_NameR (Name_function_global ok.kind hx (loadGlobal_global (by rw [ok.glob]; exact ok.top.g.keeps F.keep) (mg_of ok.X ok.top.g e) ?_) hd)
  refine callWith_KA ok hk hs r h fun vs s' ⟨pvs, σ', T', Z', q, a, z, hv, r'⟩ => ?_
  exact wpAny_mono (q.run T' Z' R s' vs r' hv) (fun _ _ p => p.up a z) fun _ _ e => e

theorem evalArgs_A {es : List Expr} {pos : Pos} {f : Value} {Q : List PV → St → Prop} {QQ : Args → Shared → Prop} (hs : noStars es = true) (r : Rel c T Z R σ s) (h : WA c es Q σ)
    (hq : ∀ vs s', PostL c T Z R Q vs s' → QQ { pos := vs } s') : wpAny (model c.g.prog c.g.w) c.A (evalArgs f true (backTo pos (starEach es c.env)) []) QQ (fun _ _ => False) s := by
  cases es with
  | nil => exact evalArgs_nil3 (hq [] s ⟨[], σ, T, Z, h, rfl, fun _ h => h, .nil, r⟩)
  | cons e rest =>
    have hs' := hs
    simp only [noStars, List.all_cons, Bool.and_eq_true, Bool.not_eq_true'] at hs
    have hp := WA.spliced (pos := pos) hs' h r
    have e1 : backTo pos (starEach (e :: rest) c.env) = (false, eval e c.env) :: backTo pos (starEach rest c.env) := by rw [starEach_cons hs.1]; rfl
    rw [e1] at hp ⊢
    exact evalArgs_plain (wpAny_mono hp (fun vs s' p => hq vs s' p) fun _ _ e => e)
theorem callWith_BA {es : List Expr} {pos : Pos} {id : String} {first : List Value} {Q : List PV → St → Prop} {QQ : Value → Shared → Prop} (hs : noStars es = true) (r : Rel c T Z R σ s) (h : WA c es Q σ)
    (hq : ∀ vs s', PostL c T Z R Q vs s' → wpAny (model c.g.prog c.g.w) c.A (call (.builtin id) (first ++ vs)) QQ (fun _ _ => False) s') :
    wpAny (model c.g.prog c.g.w) c.A (callWith pos (.builtin id) first (backTo pos (starEach es c.env)) []) QQ (fun _ _ => False) s :=
  callWith_builtin (starEach_any hs) (evalArgs_A hs r h hq)

theorem WE.callB {x : Str} {p pos : Pos} {args : List Expr} {id : String} (ok : c.Ok n) (e : nsIn c.g.K mainGlobals x = some none) (hv : bootBuiltins x = some (.builtin id)) (hn : x ≠ "__name__")
    (h : WA c args (fun vs σ1 => WO c (fun ws => call (.builtin id) ws) vs Q σ1) σ) (hs : noStars args = true := by rfl) (hx : c.env.kindOf x = some .globalImplicit := by rfl) (hd : (x == ("__debug__" : Str)) = false := by decide) :
    WE c (eval (.Call (.Name x p) args [] pos) c.env) Q σ := by
  refine ⟨?_⟩; intro T Z R s r
  obtain ⟨m, P, F⟩ := r.fr
  refine wpAny_Call_NameR (Name_function_global ok.kind hx (loadGlobal_builtin (by rw [ok.glob]; exact ok.top.g.keeps F.keep) (mg_none_of ok.X ok.top.g e) (by rw [ok.blt]; exact ok.top.b.keeps F.keep) ((ok.top.builtins x hn).trans hv) ?_) hd)
  refine callWith_BA hs r h fun vs s' ⟨pvs, σ', T', Z', q, a, z, hv, r'⟩ => ?_
  exact wpAny_mono (q.run T' Z' R s' vs r' hv) (fun _ _ p => p.up a z) fun _ _ e => e

-- methods of strs (and of dicts of the module's)
theorem WE.method {o : Expr} {name : Str} {apos pos : Pos} {args : List Expr} {T : String} {id : String}
    (hT : PlainAttrs T) (hS : Slot T name id) (ht : typeOf (.builtin id) = pure (.type "method_descriptor"))
    (h : WE c (eval o c.env) (fun a σ1 => (∀ T' Z' R' s' v, Rel c T' Z' R' σ1 s' → VR (ads T') Z' v a → s'.TypeIs v T ∧ ∀ x, v = .ref x → ∃ ob, s'.heap.get? x = some ob ∧ ob.dict = none) ∧
      WA c args (fun vs σ2 => WO c (fun ws => call (.builtin id) ws) (a :: vs) Q σ2) σ1) σ)
    (ha : attributeBase o name c.env (eval o c.env) = eval o c.env := by rfl) (hs : noStars args = true := by rfl) (hl : decide (args.length + 0 + 0 < 30) = true := by rfl)
    (hp : (apos.endLine == pos.line) = true := by rfl) : WE c (eval (.Call (.Attribute o name apos) args [] pos) c.env) Q σ := by
  refine ⟨?_⟩; intro T0 Z R s r
  have hh : (((backTo pos (starEach args c.env)).all fun x => !x.1) && (backToKw pos (keywordEach [] c.env)).all fun x => x.1.isSome) = true := by
    have := starEach_any (env := c.env) (pos := pos) hs
    simp only [Bool.and_eq_true]
    refine ⟨?_, rfl⟩
    rw [List.all_eq_true]
    intro x hx
    have h2 := List.any_eq_false.mp this x hx
    simpa using h2
  refine wpAny_Call_method_late ha (by rw [hh]; exact hl) hp rfl (wpAny_mono (h.run T0 Z R s r) (fun v s' p => ?_) fun _ _ e => e)
  obtain ⟨pv, σ', T', Z', q, a, z, hv, r'⟩ := p
  obtain ⟨q1, q2⟩ := q
  obtain ⟨t1, t2⟩ := q1 T' Z' R s' v r' hv
  refine ⟨T, id, hT, hS, ht, t1, t2, callWith_BA hs r' q2 fun vs s2 ⟨pvs, σ2, T2, Z2, q, a2, z2, hvs, r2⟩ => ?_⟩
  exact wpAny_mono (q.run T2 Z2 R s2 (v :: vs) r2 (.cons (by rw [a2]; exact hv.mono z2) hvs)) (fun _ _ p => p.up (a2.trans a) fun p hp => z2 p (z p hp)) fun _ _ e => e
theorem strSelf {x : Str} : ∀ T' Z' R' s' v, Rel c T' Z' R' σ s' → VR (ads T') Z' v (.str x) → s'.TypeIs v "str" ∧ ∀ y, v = .ref y → ∃ ob, s'.heap.get? y = some ob ∧ ob.dict = none := by
  rintro T' Z' R' s' _ r (_ | _)
  exact ⟨typeIs_str _ _ _, fun y e => nomatch e⟩

-- built-in calls
theorem WO.len {x : Str} (hx : (x.length : Int) < 9223372036854775808) (h : Q (.int x.length) σ) : WO c (fun ws => call (.builtin "len") ws) [.str x] Q σ := by
  refine ⟨?_⟩; rintro T Z R s _ r (_ | ⟨(_ | _), (_ | _)⟩)
  exact SBL.len hx (r.post h .int)
theorem WO.ord {k : Nat} (h : Q (.int k) σ) : WO c (fun ws => call (.builtin "ord") ws) [.str ⟨#[k]⟩] Q σ := by
  refine ⟨?_⟩; rintro T Z R s _ r (_ | ⟨(_ | _), (_ | _)⟩)
  exact P.ord_of_char (r.post h .int)
theorem WO.chr {i : Int} (hi : (decide (i < 0) || decide (i > 1114111)) = false) (h : Q (.str ⟨#[i.toNat]⟩) σ) : WO c (fun ws => call (.builtin "chr") ws) [.int i] Q σ := by
  refine ⟨?_⟩; rintro T Z R s _ r (_ | ⟨(_ | _), (_ | _)⟩)
  exact P.chr_of_int hi (r.post h .str)

-- subscripts
theorem WE.sub {value slice : Expr} {pos : Pos} (h : WE c (eval value c.env) (fun a σ1 => WE c (eval slice c.env) (fun b σ2 => WO2 c (subscriptTail value slice) a b Q σ2) σ1) σ) :
    WE c (eval (.Subscript value slice pos) c.env) Q σ := WE.bind2 h Subscript_
theorem WO2.itemS {value slice : Expr} {x : Str} {i : Int} (hi : fitsSsize i = true) (h1 : -(x.length : Int) ≤ i) (h2 : i < x.length) (h : Q (.str (Txt.item x i)) σ)
    (hs : ∀ o j, subscripted slice false o j = operate [o, j] (getItem o j) := by intros; rfl) (hl : ∀ x t r, letTemporaryGo value (.str x t) r = pure () := by intros; rfl) : WO2 c (subscriptTail value slice) (.str x) (.int i) Q σ := by
  refine ⟨?_⟩; rintro T Z R s _ _ r (_ | _) (_ | _)
  exact item_str hi h1 h2 (fun _ => r.post h .str) (hs _ _) (hl _ _)
end
end Mine
end
section
open PySem PySem.W PySem.Calls PyProof.Rows PySem.Spec
namespace Mine
section
variable {c : Cx} {T Z R : List (Addr × Obj)} {σ : St} {s : Shared} {n : Nat}

-- tests
theorem WT.cmp {l r : Expr} {op : CmpOp} {pos : Pos} {whole : Sem Value} {Q : Bool → St → Prop}
    (h : WE c (eval l c.env) (fun a σ1 => WE c (eval r c.env) (fun b σ2 => WO2 c (compareOp op) a b (fun v σ3 => ∃ t, v = .bool t ∧ Q t σ3) σ2) σ1) σ)
    (hb : behindInMarks op r = false := by rfl) : WT c (isTrue (.Compare l [op] [r] pos) c.env whole) Q σ := by
  refine ⟨?_⟩; intro T Z R s r
  refine wpAny_isTrue_Compare1 (wpAny_mono (h.run T Z R s r) (fun v s' p => ?_) fun _ _ e => e) hb
  obtain ⟨pv, σ', T', Z', q, a, z, hv, r'⟩ := p
  refine wpAny_mono (q.run T' Z' R s' r') (fun u s2 p2 => ?_) fun _ _ e => e
  obtain ⟨pu, σ2, T2, Z2, q2, a2, z2, hu, r2⟩ := p2
  refine wpAny_mono (q2.run T2 Z2 R s2 v u r2 (by rw [a2]; exact hv.mono z2) hu) (fun k s3 p3 => ?_) fun _ _ e => e
  obtain ⟨pk, σ3, T3, Z3, ⟨t, rfl, q3⟩, a3, z3, hk, r3⟩ := p3
  cases hk
  exact wpAny_truthy_bool ⟨σ3, T3, Z3, q3, a3.trans (a2.trans a), fun p hp => z3 p (z2 p (z p hp)), r3⟩
theorem WT.val {e : Expr} {Q : Bool → St → Prop} (h : WE c (eval e c.env) (fun a σ1 => ∀ T Z R s v, Rel c T Z R σ1 s → VR (ads T) Z v a → wpAny (model c.g.prog c.g.w) c.A (truthy v) (PostB c T Z R Q) (fun _ _ => False) s) σ)
    (hw : ∀ whole, isTrue e c.env whole = (do let v ← whole; standAt e.pos; holding [v] (truthy v)) := by intros; rfl) : WT c (isTrue e c.env (eval e c.env)) Q σ := by
  refine ⟨?_⟩; intro T Z R s r
  refine wpAny_isTrue_value (wpAny_mono (h.run T Z R s r) (fun v s' p => ?_) fun _ _ e => e) (hw _)
  obtain ⟨pv, σ', T', Z', q, a, z, hv, r'⟩ := p
  exact wpAny_mono (q T' Z' R s' v r' hv) (fun _ _ p => p.up a z) fun _ _ e => e
theorem truthyS {x : Str} {Q : Bool → St → Prop} (hx : (x.length : Int) < 9223372036854775808) (h : Q ((x.length : Int) != 0) σ) :
    ∀ T Z R s v, Rel c T Z R σ s → VR (ads T) Z v (.str x) → wpAny (model c.g.prog c.g.w) c.A (truthy v) (PostB c T Z R Q) (fun _ _ => False) s := by
  rintro T Z R s _ r (_ | _)
  exact SBL.truthy hx ⟨σ, T, Z, h, rfl, fun _ h => h, r.toks⟩
theorem WT.not {x : Expr} {pos : Pos} {whole : Sem Value} {Q : Bool → St → Prop} (h : WT c (isTrue x c.env (eval x c.env)) (fun b σ1 => Q (!b) σ1) σ) : WT c (isTrue (.UnaryOp .Not x pos) c.env whole) Q σ :=
  .mk fun T Z R s r => wpAny_isTrue_Not (h.run T Z R s r)
theorem WT.bool {op : BoolOp} {values : List Expr} {pos : Pos} {whole : Sem Value} {Q : Bool → St → Prop} (h : WT c (allTrue op values c.env) Q σ) : WT c (isTrue (.BoolOp op values pos) c.env whole) Q σ :=
  .mk fun T Z R s r => wpAny_isTrue_BoolOp (h.run T Z R s r)
theorem WT.and_nil {Q : Bool → St → Prop} (h : Q true σ) : WT c (allTrue .And [] c.env) Q σ := .mk fun T Z _ _ r => wpAny_allTrue_And_nil ⟨σ, T, Z, h, rfl, fun _ h => h, r⟩
theorem WT.or_nil {Q : Bool → St → Prop} (h : Q false σ) : WT c (allTrue .Or [] c.env) Q σ := .mk fun T Z _ _ r => wpAny_allTrue_Or_nil ⟨σ, T, Z, h, rfl, fun _ h => h, r⟩
theorem WT.and_cons {x : Expr} {rest : List Expr} {Q : Bool → St → Prop} (h : WT c (isTrue x c.env (eval x c.env)) (fun b σ1 => if b = true then WT c (allTrue .And rest c.env) Q σ1 else Q false σ1) σ) : WT c (allTrue .And (x :: rest) c.env) Q σ := by
  refine ⟨?_⟩; intro T Z R s r
  refine wpAny_allTrue_And_cons (wpAny_mono (h.run T Z R s r) (fun b s' p => ?_) fun _ _ e => e)
  obtain ⟨σ', T', Z', q, a, z, r'⟩ := p
  cases b with
  | true => simp only [if_true] at q ⊢; exact wpAny_mono (q.run T' Z' R s' r') (fun _ _ p => p.up a z) fun _ _ e => e
  | false => simp only [Bool.false_eq_true, if_false] at q ⊢; exact ⟨σ', T', Z', q, a, z, r'⟩
theorem WT.or_cons {x : Expr} {rest : List Expr} {Q : Bool → St → Prop} (h : WT c (isTrue x c.env (eval x c.env)) (fun b σ1 => if b = true then Q true σ1 else WT c (allTrue .Or rest c.env) Q σ1) σ) : WT c (allTrue .Or (x :: rest) c.env) Q σ := by
  refine ⟨?_⟩; intro T Z R s r
  refine wpAny_allTrue_Or_cons (wpAny_mono (h.run T Z R s r) (fun b s' p => ?_) fun _ _ e => e)
  obtain ⟨σ', T', Z', q, a, z, r'⟩ := p
  cases b with
  | false => simp only [Bool.false_eq_true, if_false] at q ⊢; exact wpAny_mono (q.run T' Z' R s' r') (fun _ _ p => p.up a z) fun _ _ e => e
  | true => simp only [if_true] at q ⊢; exact ⟨σ', T', Z', q, a, z, r'⟩
/-- a chain of two: the middle one is reckoned once -/
theorem WT.chain2 {l m r : Expr} {o1 o2 : CmpOp} {pos : Pos} {whole : Sem Value} {Q : Bool → St → Prop}
    (h : WE c (eval l c.env) (fun a σ1 => WE c (eval m c.env) (fun b σ2 => WO2 c (compareOp o1) a b (fun v σ3 => ∃ t, v = .bool t ∧
      (if t = true then WE c (eval r c.env) (fun d σ4 => WO2 c (compareOp o2) b d (fun v σ5 => ∃ t, v = .bool t ∧ Q t σ5) σ4) σ3 else Q false σ3)) σ2) σ1) σ)
    (hb : lastMarks [o1, o2] [m, r] = false := by rfl) : WT c (isTrue (.Compare l [o1, o2] [m, r] pos) c.env whole) Q σ := by
  refine ⟨?_⟩; intro T Z R s rr
  refine isTrue_chain (wpAny_mono (h.run T Z R s rr) (fun v s' p => ?_) fun _ _ e => e) hb
  obtain ⟨pv, σ', T', Z', q, a, z, hv, r'⟩ := p
  refine wpAny_bind (wpAny_holding (wpAny_mono (q.run T' Z' R s' r') (fun u s2 p2 => ?_) fun _ _ e => e))
  obtain ⟨pu, σ2, T2, Z2, q2, a2, z2, hu, r2⟩ := p2
  refine wpAny_bind (wpAny_standAt (wpAny_bind (wpAny_holding (wpAny_mono (q2.run T2 Z2 R s2 v u r2 (by rw [a2]; exact hv.mono z2) hu) (fun k s3 p3 => ?_) fun _ _ e => e))))
  obtain ⟨pk, σ3, T3, Z3, ⟨t, rfl, q3⟩, a3, z3, hk, r3⟩ := p3
  cases hk
  have a03 := a3.trans (a2.trans a)
  have z03 : ∀ p ∈ Z, p ∈ Z3 := fun p hp => z3 p (z2 p (z p hp))
  refine wpAny_bind (wpAny_mono (Q := fun _ s' => s' = s3) (E := fun _ _ => False) ?_ (fun _ s4 e4 => ?_) fun _ _ e => e)
  · exact wpAny_release rfl
  subst e4
  refine wpAny_bind (wpAny_holding (wpAny_truthy_bool ?_))
  cases t with
  | false =>
    simp only [Bool.false_eq_true, if_false] at q3 ⊢
    exact wpAny_pure ⟨σ3, T3, Z3, q3, a03, z03, r3⟩
  | true =>
    simp only [if_true] at q3 ⊢
    refine wpAny_bind (wpAny_holding (wpAny_mono (q3.run T3 Z3 R s4 r3) (fun d s5 p5 => ?_) fun _ _ e => e))
    obtain ⟨pd, σ5, T5, Z5, q5, a5, z5, hd, r5⟩ := p5
    have hu5 : VR (ads T5) Z5 u pu := by rw [a5, a3]; exact (hu.mono z3).mono z5
    refine wpAny_bind (wpAny_standAt (wpAny_bind ?_))
    refine wpAny_operateT (wpAny_mono (q5.run T5 Z5 R s5 u d r5 hu5 hd) (fun k s6 p6 => ?_) fun _ _ e => e)
    obtain ⟨pk, σ6, T6, Z6, ⟨t, rfl, q6⟩, a6, z6, hk, r6⟩ := p6
    cases hk
    exact wpAny_holding (wpAny_truthy_bool ⟨σ6, T6, Z6, q6, a6.trans (a5.trans a03), fun p hp => z6 p (z5 p (z03 p hp)), r6⟩)

-- statements
theorem WS.nil {Q : PF → St → Prop} (h : Q .next σ) : WS c (execs [] c.env) Q σ := .mk fun T Z _ _ r => wpAny_execs_nil ⟨.next, σ, T, Z, h, fun _ h => h, .next, r⟩
theorem WS.cons {st : Stmt} {rest : List Stmt} {Q : PF → St → Prop} (h : WS c (exec st c.env) (fun f σ1 => match f with | .next => WS c (execs rest c.env) Q σ1 | f => Q f σ1) σ) : WS c (execs (st :: rest) c.env) Q σ := by
  refine ⟨?_⟩; intro T Z R s r
  refine wpAny_execs_cons (wpAny_mono (h.run T Z R s r) (fun f s' p => ?_) fun _ _ e => e)
  obtain ⟨pf, σ', T', Z', q, z, hf, r'⟩ := p
  cases hf with
  | next => exact wpAny_mono (q.run T' Z' R s' r') (fun _ _ p => p.up z) fun _ _ e => e
  | cont => exact ⟨_, σ', T', Z', q, z, .cont, r'⟩
  | ret hv => exact ⟨_, σ', T', Z', q, z, .ret hv, r'⟩
theorem WS.ret {e : Expr} {pos : Pos} {Q : PF → St → Prop} (h : WE c (eval e c.env) (fun v σ' => Q (.ret v) σ') σ) : WS c (exec (.Return (some e) pos) c.env) Q σ := by
  refine ⟨?_⟩; intro T Z R s r
  refine wpAny_Return_some (wpAny_mono (h.run T Z R s r) (fun v s' p => ?_) fun _ _ e => e)
  obtain ⟨pv, σ', T', Z', q, a, z, hv, r'⟩ := p
  exact ⟨_, σ', T', Z', q, z, .ret hv, r'⟩
theorem WS.cont {pos : Pos} {Q : PF → St → Prop} (h : Q .cont σ) : WS c (exec (.Continue pos) c.env) Q σ :=
  .mk fun T Z _ _ r => wpAny_Continue ⟨.cont, σ, T, Z, h, fun _ h => h, .cont, r⟩
theorem WS.ite {test : Expr} {body orelse : List Stmt} {pos : Pos} {Q : PF → St → Prop} (h : WT c (isTrue test c.env (eval test c.env)) (fun b σ1 => if b = true then WS c (execs body c.env) Q σ1 else WS c (execs orelse c.env) Q σ1) σ) :
    WS c (exec (.If test body orelse pos) c.env) Q σ := by
  refine ⟨?_⟩; intro T Z R s r
  refine wpAny_If (wpAny_mono (h.run T Z R s r) (fun b s' p => ?_) fun _ _ e => e)
  obtain ⟨σ', T', Z', q, a, z, r'⟩ := p
  cases b with
  | true => simp only [if_true] at q ⊢; exact wpAny_mono (q.run T' Z' R s' r') (fun _ _ p => p.up z) fun _ _ e => e
  | false => simp only [Bool.false_eq_true, if_false] at q ⊢; exact wpAny_mono (q.run T' Z' R s' r') (fun _ _ p => p.up z) fun _ _ e => e
theorem WS.expr {e : Expr} {pos : Pos} {Q : PF → St → Prop} (h : WE c (eval e c.env) (fun _ σ' => Q .next σ') σ) (hi : interactive c.env = false := by rfl) (hs : swapsWith e none pos.line c.env = pure false := by rfl) :
    WS c (exec (.Expr e pos) c.env) Q σ := by
  refine ⟨?_⟩; intro T Z R s r
  refine wpAny_Expr_any (wpAny_mono (h.run T Z R s r) (fun v s' p => ?_) fun _ _ e => e) hi hs
  obtain ⟨pv, σ', T', Z', q, a, z, hv, r'⟩ := p
  exact ⟨_, σ', T', Z', q, z, .next, r'⟩

/-- a name of the frame is stored -/
theorem Rel.store {x : Str} {v : Value} {pv : PV} {Q : Unit → Shared → Prop} {E : Value → Shared → Prop} (ok : c.Ok n) (hc : c.comp = none) (r : Rel c T Z R σ s) (hv : VR (ads T) Z v pv) (hk : c.env.kindOf x = some .local)
    (h : ∀ s', Rel c T Z R (σ.set x pv) s' → Q () s') : wpAny (model c.g.prog c.g.w) c.A (storeName c.env x v) Q E s := by
  obtain ⟨hh, tk, rfl⟩ := r.sh
  obtain ⟨m, P, F⟩ := r.fr
  have hl : c.env.locals = c.L := by have := ok.locs; rw [hc] at this; exact this
  refine wpAny_storeName_local hk (m := m) (hl ▸ F.ns) (fun h' hn hs => h _ ?_) (by rw [ok.kind]; rfl)
  rw [hl] at hn hs
  refine ⟨⟨h', _, rfl⟩, r.N.set hs, _, ?_, F.set hn hs⟩
  refine { P with loc := fun y qv e => ?_, mm := fun C h => by rw [hc] at h; cases h }
  unfold St.set at e
  dsimp only at e
  by_cases hy : y = x
  · rw [if_pos hy] at e
    cases e
    refine ⟨v, hv, ?_⟩
    unfold Cx.Holds
    rw [hc]
    simp [hy]
  · rw [if_neg hy] at e
    obtain ⟨u, hu, hm⟩ := P.loc y qv e
    refine ⟨u, hu, ?_⟩
    unfold Cx.Holds at hm ⊢
    rw [hc] at hm ⊢
    simpa [hy] using hm
theorem WS.assign {x : Str} {px pos : Pos} {value : Expr} {Q : PF → St → Prop} (ok : c.Ok n) (hc : c.comp = none) (h : WE c (eval value c.env) (fun v σ' => Q .next (σ'.set x v)) σ)
    (hk : c.env.kindOf x = some .local := by rfl) (hs : swapsWith value (some (.Name x px)) pos.line c.env = pure false := by rfl) : WS c (exec (.Assign [.Name x px] value pos) c.env) Q σ := by
  refine ⟨?_⟩; intro T Z R s r
  refine wpAny_Assign_Name (wpAny_mono (h.run T Z R s r) (fun v s' p => ?_) fun _ _ e => e) hs
  obtain ⟨pv, σ', T', Z', q, a, z, hv, r'⟩ := p
  exact r'.store ok hc hv hk fun s2 r2 => ⟨_, _, T', Z', q, z, .next, r2⟩
theorem WS.aug {x : Str} {px pos : Pos} {op : Operator} {value : Expr} {Q : PF → St → Prop} {old : PV} (ok : c.Ok n) (hc : c.comp = none) (ho : σ.loc x = some old)
    (h : WE c (eval value c.env) (fun v σ1 => WO2 c (inplaceOp op) old v (fun w σ2 => Q .next (σ2.set x w)) σ1) σ) (hk : c.env.kindOf x = some .local := by rfl) :
    WS c (exec (.AugAssign (.Name x px) op value pos) c.env) Q σ := by
  refine ⟨?_⟩; intro T Z R s r
  obtain ⟨m, P, F⟩ := r.fr
  obtain ⟨v, hv, hm⟩ := P.loc x old ho
  have hl : c.env.locals = c.L := by have := ok.locs; rw [hc] at this; exact this
  unfold Cx.Holds at hm
  rw [hc] at hm
  refine wpAny_AugAssign_Name (wpAny_loadName_local ok.kind hk (m := m) (hl ▸ F.ns) hm ?_)
  refine wpAny_mono (h.run T Z R s r) (fun u s' p => ?_) fun _ _ e => e
  obtain ⟨pu, σ', T', Z', q, a, z, hu, r'⟩ := p
  refine wpAny_mono (q.run T' Z' R s' v u r' (by rw [a]; exact hv.mono z) hu) (fun k s2 p2 => ?_) fun _ _ e => e
  obtain ⟨pk, σ2, T2, Z2, q2, a2, z2, hk2, r2⟩ := p2
  exact r2.store ok hc hk2 hk fun s3 r3 => ⟨_, _, T2, Z2, q2, fun p hp => z2 p (z p hp), .next, r3⟩

theorem WS.while {test : Expr} {body : List Stmt} {pos : Pos} {Q : PF → St → Prop} (Inv : Nat → St → Prop) (k : Nat) (h0 : Inv k σ)
    (step : ∀ k σ, Inv k σ → WT c (isTrue test c.env (eval test c.env)) (fun b σ1 => if b = true then WS c (execs body c.env) (fun f σ' => match f with | .ret _ => False | _ => ∃ j, j < k ∧ Inv j σ') σ1 else Q .next σ1) σ) :
    WS c (exec (.While test body [] pos) c.env) Q σ := by
  refine ⟨?_⟩; intro T Z R s r
  refine wpAny_While (codeAny_whileLoop (fun k s' => ∃ σ' T' Z', (∀ p ∈ Z, p ∈ Z') ∧ Rel c T' Z' R σ' s' ∧ Inv k σ') ?_ k ⟨σ, T, Z, fun _ h => h, r, h0⟩)
  rintro k s' ⟨σ', T', Z', z, r', hi⟩
  refine wpAny_mono ((step k σ' hi).run T' Z' R s' r') (fun b s2 p => ?_) fun _ _ e => e.elim
  obtain ⟨σ2, T2, Z2, q2, a2, z2, r2⟩ := p
  cases b with
  | true =>
    simp only [if_true] at q2 ⊢
    refine wpAny_mono (q2.run T2 Z2 R s2 r2) (fun f s3 p => ?_) fun _ _ e => e.elim
    obtain ⟨pf, σ3, T3, Z3, q3, z3, hf, r3⟩ := p
    have zz : ∀ p ∈ Z, p ∈ Z3 := fun p hp => z3 p (z2 p (z p hp))
    cases hf with
    | next => obtain ⟨j, hj, hi⟩ := q3; exact ⟨j, hj, σ3, T3, Z3, zz, r3, hi⟩
    | cont => obtain ⟨j, hj, hi⟩ := q3; exact ⟨j, hj, σ3, T3, Z3, zz, r3, hi⟩
    | ret _ => exact q3.elim
  | false =>
    simp only [Bool.false_eq_true, if_false] at q2 ⊢
    exact wpAny_execs_nil ⟨.next, σ2, T2, Z2, q2, fun p hp => z2 p (z p hp), .next, r2⟩
end
end Mine
end
section
open PySem PySem.W PySem.Calls PyProof.Rows PySem.Spec
namespace Mine

structure FD where
  params : Arguments
  body : List Stmt
  scope : Scope

/-- a def of the module's, as the written part of the heap has it -/
noncomputable def FnAt (K : Frag) (name : Str) (fd : FD) (k : Nat) (names : List Str) (dp : List PV) : Prop :=
  ∃ (f : Addr) (oc : Value) (od : Option Addr) (osl : Array (Option Value)) (dV kV doc pm cdv ct : Value) (an : Option Addr) (dv : List Value),
    nsIn K mainGlobals name = some (some (.ref f)) ∧ keepIn K (.ref f) = true ∧
    K.lookup f = some ⟨oc, od, .func (fnOf name name fd.params fd.body fd.scope dV kV doc pm an cdv ct), osl⟩ ∧ codeIn K cdv name = true ∧
    VRs [] [] dv dp ∧ (∀ s vs, K.In s.heap → vs.length = k → BindsTo s (fnOf name name fd.params fd.body fd.scope dV kV doc pm an cdv ct) ⟨vs, []⟩ (names.zip (vs ++ dv))) ∧
    (names.all fun y => fd.scope.names.lookup y == some .local) = true ∧ fd.scope.isCoroutine = false ∧ fd.scope.isGenerator = false ∧ fd.scope.kind = .function ∧
    (fd.scope.names.all fun x => x.2 != .cell) = true

noncomputable abbrev cxF (g : Gl) (name : Str) (scope : Scope) (A : Around) (h₀ : Heap) (L : Addr) (f : Addr) (cdv : Value) (s₀ : Shared) : Cx :=
  { g := g, A := A, h₀ := h₀, L := L, env := envOf name scope L f cdv, comp := none, s₀ := s₀ }
noncomputable def Runs (g : Gl) (name : Str) (fd : FD) (names : List Str) (n : Nat) (vals : List PV) (P : PV → Prop) : Prop :=
  ∀ (A : Around) (h₀ : Heap) (L : Addr) (f : Addr) (cdv : Value) (s₀ : Shared), (cxF g name fd.scope A h₀ L f cdv s₀).Ok n →
    WS (cxF g name fd.scope A h₀ L f cdv s₀) (execs fd.body (cxF g name fd.scope A h₀ L f cdv s₀).env) (fun pf _ => ∃ pv, pf = .ret pv ∧ pv.clean ∧ P pv) ⟨fun y => (names.zip vals).reverse.lookup y, [], fun _ => none⟩

section
variable {c : Cx} {T Z R : List (Addr × Obj)} {σ : St} {s : Shared} {n : Nat} {Q : PV → St → Prop}

theorem zip_lookup {as : List Addr} {Z : List (Addr × Obj)} {names : List Str} {vs : List Value} {xs : List PV} (h : VRs as Z vs xs) (y : Str) {pv : PV} (e : (names.zip xs).reverse.lookup y = some pv) :
    ∃ v, (names.zip vs).reverse.lookup y = some v ∧ VR as Z v pv := by
  have key : ∀ (names : List Str) (vs : List Value) (xs : List PV) (va : List (Str × Value)) (xa : List (Str × PV)), VRs as Z vs xs → (∀ pv, xa.lookup y = some pv → ∃ v, va.lookup y = some v ∧ VR as Z v pv) → (xa.lookup y = none → va.lookup y = none) →
      (∀ pv, ((names.zip xs).reverse ++ xa).lookup y = some pv → ∃ v, ((names.zip vs).reverse ++ va).lookup y = some v ∧ VR as Z v pv) := by
    intro names
    induction names with
    | nil => intro vs xs va xa _ h _ pv e; simpa using h pv (by simpa using e)
    | cons m names ih =>
      intro vs xs va xa hv h hn pv e
      cases hv with
      | nil => simpa using h pv (by simpa using e)
      | cons h1 t1 =>
        rename_i v x vs xs
        simp only [List.zip_cons_cons, List.reverse_cons, List.append_assoc, List.singleton_append] at e ⊢
        refine ih vs xs ((m, v) :: va) ((m, x) :: xa) t1 ?_ ?_ pv e
        · intro pv' e'
          rw [List.lookup_cons] at e' ⊢
          cases hym : (y == m) with
          | true => rw [hym] at e'; cases e'; exact ⟨v, rfl, h1⟩
          | false => rw [hym] at e'; exact h pv' e'
        · intro e'
          rw [List.lookup_cons] at e' ⊢
          cases hym : (y == m) with
          | true => rw [hym] at e'; cases e'
          | false => rw [hym] at e'; exact hn e'
  simpa using key names vs xs [] [] h (by simp) (by simp) pv (by simpa using e)

theorem WO.callDef {name : Str} {fd : FD} {k : Nat} {names : List Str} {dp : List PV} {args : List PV} {P : PV → Prop} {f : Addr} (ok : c.Ok (n + 1)) (fa : FnAt c.g.K name fd k names dp)
    (hf : nsIn c.g.K mainGlobals name = some (some (.ref f))) (hlen : args.length = k) (hcl : PV.cleans args)
    (hbody : Runs c.g name fd names n (args ++ dp) P) (hq : ∀ pv, P pv → pv.clean → Q pv σ) : WO c (fun ws => call (.ref f) ws) args Q σ := by
  obtain ⟨f', oc, od, osl, dV, kV, doc, pm, cdv, ct, an, dv, hf', hk, ho, hcd, hd, hb, hloc, hco, hgen, hkind, hcell⟩ := fa
  rw [hf] at hf'
  cases hf'
  refine ⟨?_⟩; intro T Z R s vs r hvs
  obtain ⟨hh, tk, rfl⟩ := r.sh
  obtain ⟨m, P0, F⟩ := r.fr
  obtain ⟨A₀, base, outer, fenv, B, hA, hfr, hfk⟩ := ok.fn
  have hroom : c.A.depth < recursionLimit := by have := ok.dep; lia
  have hlv : vs.length = k := by rw [hvs.length, hlen]
  refine wpAny_call ?_
  refine code_def (news := T ++ (Z ++ R)) (binds := names.zip (vs ++ dv)) B F ok.X r.N ok.top hA hfr hfk ho hcd hroom (hb _ vs (ok.X.keeps F.keep) hlv) (fun y hy => ?_) (fun g L' h₁ FG F' N' B' X' T' => ?_) hco hgen hkind (fun x hx => ?_)
  · have h1 := (List.of_mem_zip hy).1
    have := List.all_eq_true.mp hloc _ h1
    simpa using this
  · let c' : Cx := cxF c.g name fd.scope (c.A.deeper (envOf name fd.scope L' f cdv)) g L' f cdv c.s₀
    have okc : c'.Ok n := by
      refine ⟨ok.hh, X', T', ⟨c.A, base, fenv :: outer, envOf name fd.scope L' f cdv, B', ?_, rfl, hkind⟩, hkind, rfl, rfl, rfl, ?_, ?_⟩
      · exact Around.frames_deeper hA
      · show c.A.depth + 1 + n < recursionLimit; have := ok.dep; lia
      · show c.A.units + 3 + 4 * n + 50 < cLine; have := ok.un; lia
    have hrun := hbody (c.A.deeper (envOf name fd.scope L' f cdv)) g L' f cdv c.s₀ okc
    have hr : Rel c' [] Z (R ++ T) ⟨fun y => (names.zip (args ++ dp)).reverse.lookup y, [], fun _ => none⟩ { c.s₀ with heap := h₁, toks := tk + (names.zip (vs ++ dv)).length } := by
      refine ⟨⟨h₁, _, rfl⟩, ?_, _, ?_, F'⟩
      · intro p hp
        refine N' p ?_
        simp only [List.nil_append, List.mem_append] at hp ⊢
        rcases hp with h | h | h
        · exact .inr (.inl h)
        · exact .inr (.inr h)
        · exact .inl h
      · refine ⟨fun x pv e => ?_, List.nodup_nil, (fun p hp => nomatch hp), ?_, rfl, (fun i p po e => by simp at e), (fun x i e => by cases e), (fun C h => by cases h)⟩
        · have hv1 : VRs ([] : List Addr) Z vs args := hvs.ofClean hcl
          have hv2 : VRs ([] : List Addr) Z dv dp := hd.mono (by simp)
          obtain ⟨v, e1, e2⟩ := zip_lookup (hv1.append hv2) x e
          exact ⟨v, e2, e1⟩
        · intro p hp q hq
          rcases List.mem_append.mp hq with h | h
          · exact P0.dZ p hp q h
          · exact (P0.dT q h p (List.mem_append_left _ hp)).symm
    refine wpAny_mono (hrun.run [] Z (R ++ T) _ hr) (fun fl s' p => ?_) fun _ _ e => e.elim
    obtain ⟨pf, σ', T2, Z2, ⟨pv, rfl, hpc, hP⟩, z, hfr2, r2⟩ := p
    cases hfr2 with
    | ret hv =>
      rename_i v
      obtain ⟨m2, P2, F2⟩ := r2.fr
      obtain ⟨h2, tk2, rfl⟩ := r2.sh
      refine leaveK_ F2 r2.N fun F3 N3 => ?_
      refine ⟨pv, σ, T, Z2, hq pv hP hpc, rfl, z, hv.ofClean hpc, ⟨⟨h2, tk2, rfl⟩, ?_, m, ?_, F3⟩⟩
      · intro p hp
        refine N3 p ?_
        simp only [List.mem_append] at hp ⊢
        rcases hp with h | h | h
        · exact .inr (.inr (.inr h))
        · exact .inr (.inl h)
        · exact .inr (.inr (.inl h))
      · have dd : ∀ p ∈ Z2, ∀ q ∈ R ++ T, p.1 ≠ q.1 := P2.dZ
        refine ⟨fun x pv e => ?_, P0.nd, ?_, fun p hp q hq => dd p hp q (List.mem_append_left _ hq), P0.len, fun i p po e1 e2 => (P0.ob i p po e1 e2).mono z, P0.ce, P0.mm⟩
        · obtain ⟨v, hv, hm⟩ := P0.loc x pv e
          exact ⟨v, hv.mono z, hm⟩
        · intro p hp q hq
          rcases List.mem_append.mp hq with h | h
          · exact (dd q h p (List.mem_append_right _ hp)).symm
          · exact P0.dT p hp q (List.mem_append_right _ h)
  · have := List.all_eq_true.mp hcell x hx
    simpa using this

/-- a call of a def of the module's -/
theorem WE.callFn {name : Str} {p pos : Pos} {args : List Expr} {fd : FD} {k : Nat} {names : List Str} {dp : List PV} (ok : c.Ok (n + 1)) (fa : FnAt c.g.K name fd k names dp)
    (h : WA c args (fun vs σ1 => vs.length = k ∧ PV.cleans vs ∧ ∃ P, Runs c.g name fd names n (vs ++ dp) P ∧ ∀ pv, P pv → pv.clean → Q pv σ1) σ)
    (hs : noStars args = true := by rfl) (hx : c.env.kindOf name = some .globalImplicit := by rfl) (hd : (name == ("__debug__" : Str)) = false := by decide) :
    WE c (eval (.Call (.Name name p) args [] pos) c.env) Q σ := by
  have fa' := fa
  obtain ⟨f, oc, od, osl, dV, kV, doc, pm, cdv, ct, an, dv, hf, hk, _⟩ := fa
  refine WE.callF ok hf hk ?_ hs hx hd
  have key : ∀ (es : List Expr) (Q1 Q2 : List PV → St → Prop) (σ : St), (∀ vs σ1, Q1 vs σ1 → Q2 vs σ1) → WA c es Q1 σ → WA c es Q2 σ := by
    intro es
    induction es with
    | nil => intro Q1 Q2 σ hq h; exact hq _ _ h
    | cons e es ih => intro Q1 Q2 σ hq h; exact WE.mono h fun v σ' h' => ih _ _ _ (fun vs σ1 => hq _ _) h'
  refine key args _ _ σ ?_ h
  rintro vs σ1 ⟨hl, hc, P, hr, hq⟩
  exact WO.callDef ok fa' hf hl hc hr hq
end
end Mine
end
section
open PySem PySem.W PySem.Calls PyProof.Rows PySem.Spec
namespace Mine
section
variable {c : Cx} {T Z R : List (Addr × Obj)} {σ : St} {s : Shared} {n : Nat} {Q : PV → St → Prop}

theorem Rel.apart {a : Addr} (r : Rel c T Z R σ s) (ha : a = s.heap.objs.size) : ∀ p ∈ T ++ (Z ++ R), p.1 ≠ a := fun p hp e =>
  absurd (Heap.lt_size (r.N p hp).1) (by rw [e, ha]; exact Nat.lt_irrefl _)

/-- a new object, frozen -/
theorem Rel.ofNewsA {m : Str → Option Value} {h' : Heap} {tk : Nat} {o : Obj} {D : Addr} (r : Rel c T Z R σ s) (ap : ∀ p ∈ T ++ (Z ++ R), p.1 ≠ D) (P : RelP c T Z R σ m) (F' : Fr c.h₀ c.L h' m) (N' : News c.h₀ c.L h' ((D, o) :: (T ++ (Z ++ R)))) :
    Rel c T ((D, o) :: Z) R σ { s with heap := h', toks := tk } := by
  obtain ⟨hh, t, rfl⟩ := r.sh
  have sub : ∀ p ∈ Z, p ∈ (D, o) :: Z := fun p hp => .tail _ hp
  refine ⟨⟨h', tk, rfl⟩, ?_, m, ?_, F'⟩
  · intro p hp
    refine N' p ?_
    simp only [List.mem_append, List.cons_append, List.mem_cons] at hp ⊢
    rcases hp with h | h | h | h
    · exact .inr (.inl h)
    · exact .inl h
    · exact .inr (.inr (.inl h))
    · exact .inr (.inr (.inr h))
  · refine ⟨fun x pv e => ?_, P.nd, ?_, ?_, P.len, fun i p po e1 e2 => (P.ob i p po e1 e2).mono sub, P.ce, P.mm⟩
    · obtain ⟨v, hv, hm⟩ := P.loc x pv e
      exact ⟨v, hv.mono sub, hm⟩
    · intro p hp q hq
      rw [List.cons_append] at hq
      rcases List.mem_cons.mp hq with rfl | hq
      · exact ap p (List.mem_append_left _ hp)
      · exact P.dT p hp q hq
    · intro p hp q hq
      rcases List.mem_cons.mp hp with rfl | hp
      · exact (ap q (List.mem_append_right _ (List.mem_append_right _ hq))).symm
      · exact P.dZ p hp q hq

theorem Rel.ofNews {m : Str → Option Value} {h' : Heap} {tk : Nat} {o : Obj} {D : Addr} (r : Rel c T Z R σ s) (hD : D = s.heap.objs.size) (P : RelP c T Z R σ m) (F' : Fr c.h₀ c.L h' m) (N' : News c.h₀ c.L h' ((D, o) :: (T ++ (Z ++ R)))) :
    Rel c T ((D, o) :: Z) R σ { s with heap := h', toks := tk } := r.ofNewsA (r.apart hD) P F' N'

theorem Rel.ofKeep {h' : Heap} {tk : Nat} {o : Obj} {D : Addr} (r : Rel c T Z R σ s) (hD : D = s.heap.objs.size) (hk : ∀ b o, s.heap.get? b = some o → h'.get? b = some o) (ho : h'.get? D = some o) :
    Rel c T ((D, o) :: Z) R σ { s with heap := h', toks := tk } := by
  obtain ⟨m, P, F⟩ := r.fr
  refine r.ofNews hD P (F.keeps hk) fun p hp => ?_
  rcases List.mem_cons.mp hp with rfl | hp
  · subst hD
    exact ⟨ho, Nat.ne_of_gt F.ns.lt, none_at_size F⟩
  · exact ⟨hk _ _ (r.N p hp).1, (r.N p hp).2⟩

theorem Rel.postNew {h' : Heap} {tk : Nat} {D : Addr} {vs : List Value} {k : Nat} {xs : List PV} (r : Rel c T ((D, listOf vs.toArray k) :: Z) R σ { s with heap := h', toks := tk }) (hv : VRs (ads T) Z vs xs) (hq : Q (.lst xs) σ) :
    Post c T Z R Q (.ref D) { s with heap := h', toks := tk } :=
  ⟨_, _, T, _, hq, rfl, fun _ h => .tail _ h, .lst (.head _) (hv.mono fun _ h => .tail _ h), r⟩

theorem WE.list {elts : List Expr} {pos : Pos} (h : WA c elts (fun vs σ1 => vs.length ≤ sizeLine ∧ Q (.lst vs) σ1) σ) (hs : noStars elts = true := by rfl) : WE c (eval (.List elts pos) c.env) Q σ := by
  refine ⟨?_⟩; intro T Z R s r
  refine List_ (wpAny_mono (WA.spliced hs h r) (fun vs s' p => ?_) fun _ _ e => e)
  obtain ⟨pvs, σ', T', Z', ⟨hz, q⟩, a, z, hv, r'⟩ := p
  obtain ⟨m, P, F⟩ := r'.fr
  obtain ⟨hh, tk, rfl⟩ := r'.sh
  refine newList_N F r'.N (fun h' F' N' => ?_) (by rw [hv.length]; exact hz)
  have r2 := r'.ofNews (tk := tk) rfl P F' N'
  exact (r2.postNew hv q).up a z

theorem WO2.addL {a b : PV} {xs ys : List PV} (ha : σ.lst? a = some xs) (hb : σ.lst? b = some ys) (hz : xs.length + ys.length ≤ sizeLine) (h : Q (.lst (xs ++ ys)) σ) : WO2 c (binaryOp .Add) a b Q σ := by
  refine ⟨?_⟩; intro T Z R s v u r hv hu
  obtain ⟨l, vs, rfl, hL, t⟩ := r.asList hv ha
  obtain ⟨b', us, rfl, hL2, t2⟩ := r.asList hu hb
  obtain ⟨m, P, F⟩ := r.fr
  obtain ⟨hh, tk, rfl⟩ := r.sh
  refine add_arrays F r.N hL hL2 (fun h' F' N' => ?_) (by rw [List.size_toArray, List.size_toArray, t.length, t2.length]; exact hz)
  have r2 := r.ofNews (tk := tk) rfl P F' N'
  exact r2.postNew (t.append t2) h

theorem ads_set {i : Nat} {D : Addr} {o o' : Obj} (hi : T[i]? = some (D, o)) : ads (T.set i (D, o')) = ads T := by
  have hlt : i < T.length := (List.getElem?_eq_some_iff.mp hi).1
  apply List.ext_getElem?
  intro j
  simp only [ads, List.getElem?_map]
  by_cases hj : i = j
  · subst hj; rw [List.getElem?_set_self hlt, hi]; rfl
  · rw [List.getElem?_set_ne hj]

/-- a tracked list is turned -/
theorem Rel.mut {i : Nat} {D : Addr} {o o' : Obj} {po' : PO} {h' : Heap} {tk : Nat} (r : Rel c T Z R σ s) (hi : T[i]? = some (D, o)) (hs : Heap.SameBut D s.heap h') (ho : h'.get? D = some o') (hr : OR (ads T) Z o' po') :
    Rel c (T.set i (D, o')) Z R { σ with H := σ.H.set i po' } { s with heap := h', toks := tk } := by
  obtain ⟨m, P, F⟩ := r.fr
  obtain ⟨hh, t, rfl⟩ := r.sh
  have hm : (D, o) ∈ T := List.mem_of_getElem? hi
  have hN := r.N _ (List.mem_append_left _ hm)
  have hlt : i < T.length := (List.getElem?_eq_some_iff.mp hi).1
  have ea : ads (T.set i (D, o')) = ads T := ads_set hi
  have hne : ∀ j p, T[j]? = some p → j ≠ i → p.1 ≠ D := by
    intro j p hj hji e
    have h1 : (ads T)[j]? = some D := by simp [ads, hj, e]
    have h2 : (ads T)[i]? = some D := by simp [ads, hi]
    have hjl : j < (ads T).length := (List.getElem?_eq_some_iff.mp h1).1
    have := (List.getElem?_inj hjl P.nd).mp (h1.trans h2.symm)
    exact hji this
  have memS : ∀ p ∈ T.set i (D, o'), (p = (D, o')) ∨ (p ∈ T ∧ p.1 ≠ D) := by
    intro p hp
    obtain ⟨j, hj⟩ := List.getElem?_of_mem hp
    by_cases e : i = j
    · subst e
      rw [List.getElem?_set_self hlt] at hj
      exact .inl (Option.some.inj hj).symm
    · rw [List.getElem?_set_ne e] at hj
      exact .inr ⟨List.mem_of_getElem? hj, hne j p hj (Ne.symm e)⟩
  have adr : ∀ p ∈ T.set i (D, o'), ∃ q ∈ T, q.1 = p.1 := by
    intro p hp
    rcases memS p hp with rfl | ⟨h, _⟩
    · exact ⟨_, hm, rfl⟩
    · exact ⟨p, h, rfl⟩
  refine ⟨⟨h', tk, rfl⟩, ?_, m, ?_, F.change hs hN.2.1 hN.2.2⟩
  · intro p hp
    rcases List.mem_append.mp hp with h | h
    · rcases memS p h with rfl | ⟨h, hd⟩
      · exact ⟨ho, hN.2⟩
      · have := r.N p (List.mem_append_left _ h)
        exact ⟨(hs.2 p.1 hd).trans this.1, this.2⟩
    · have h2 := r.N p (List.mem_append_right _ h)
      exact ⟨(hs.2 p.1 (P.dT _ hm p h).symm).trans h2.1, h2.2⟩
  · refine ⟨fun x pv e => ?_, ?_, ?_, P.dZ, ?_, ?_, ?_, P.mm⟩
    · obtain ⟨v, hv, hm⟩ := P.loc x pv e
      exact ⟨v, by show VR (ads _) _ _ _; rw [ea]; exact hv, hm⟩
    · show (ads _).Nodup; rw [ea]; exact P.nd
    · intro p hp q hq
      obtain ⟨p', hp', e⟩ := adr p hp
      rw [← e]; exact P.dT p' hp' q hq
    · simp [P.len]
    · intro j p po e1 e2
      show OR (ads _) _ _ _
      rw [ea]
      by_cases e : i = j
      · subst e
        rw [List.getElem?_set_self hlt] at e1
        rw [show (σ.H.set i po')[i]? = some po' from List.getElem?_set_self (by rw [← P.len]; exact hlt)] at e2
        cases e1; cases e2
        exact hr
      · rw [List.getElem?_set_ne e] at e1
        rw [show (σ.H.set i po')[j]? = σ.H[j]? from List.getElem?_set_ne e] at e2
        exact P.ob j p po e1 e2
    · intro x j e
      obtain ⟨a, h1, h2⟩ := P.ce x j e
      exact ⟨a, h1, by show (ads _)[j]? = _; rw [ea]; exact h2⟩

/-- a tracked list, as the heap has it -/
theorem Rel.tracked {v : Value} {i : Nat} {xs : List PV} (r : Rel c T Z R σ s) (hv : VR (ads T) Z v (.ref i)) (hx : σ.H[i]? = some (.lst xs)) :
    ∃ D vs k, v = .ref D ∧ T[i]? = some (D, listOf (List.toArray vs) k) ∧ s.heap.get? D = some (listOf (List.toArray vs) k) ∧ VRs (ads T) Z vs xs := by
  cases hv with
  | ref h =>
    rename_i a
    obtain ⟨m, P, F⟩ := r.fr
    rw [List.getElem?_map] at h
    obtain ⟨p, hp, rfl⟩ := Option.map_eq_some_iff.mp h
    have o := P.ob i p _ hp hx
    obtain ⟨pa, po⟩ := p
    cases o with
    | lst t => exact ⟨_, _, _, rfl, hp, (r.N _ (List.mem_append_left _ (List.mem_of_getElem? hp))).1, t⟩

theorem listSelf {i : Nat} {xs : List PV} (hx : σ.H[i]? = some (.lst xs)) : ∀ T' Z' R' s' v, Rel c T' Z' R' σ s' → VR (ads T') Z' v (.ref i) → s'.TypeIs v "list" ∧ ∀ y, v = .ref y → ∃ ob, s'.heap.get? y = some ob ∧ ob.dict = none := by
  intro T' Z' R' s' v r hv
  obtain ⟨D, vs, k, rfl, h1, h2, t⟩ := r.tracked hv hx
  exact ⟨⟨_, h2, rfl⟩, fun y e => by cases e; exact ⟨_, h2, rfl⟩⟩

theorem WO.append {i : Nat} {xs : List PV} {y : PV} (hx : σ.H[i]? = some (.lst xs)) (hz : xs.length ≤ sizeLine) (h : Q .none { σ with H := σ.H.set i (.lst (xs ++ [y])) }) :
    WO c (fun ws => call (.builtin "list.append") ws) [.ref i, y] Q σ := by
  refine ⟨?_⟩; rintro T Z R s _ r (_ | ⟨h1, (_ | ⟨h2, (_ | _)⟩)⟩)
  obtain ⟨D, vs, k, rfl, e1, e2, t⟩ := r.tracked h1 hx
  rename_i u
  refine wpAny_call_entry PySem.slot_list_append ⟨_, e2, rfl⟩ PySem.entry_list_append ?_ (PySem.args_list_append _ _)
  show wpAny _ _ (updateSeq D (·.push u) >>= fun _ => PySem.ret .none) _ _ s
  refine wpAny_bind (wpAny_updateSeq e2 rfl (wpAny_pure ⟨.none, rfl, ?_⟩) (by rw [List.size_toArray, t.length]; exact hz) (by rw [Array.size_push, List.size_toArray, t.length]; lia))
  have e3 : (s.heap.update D (Obj.mapSeq (·.push u))).get? D = some (listOf (vs ++ [u]).toArray (k + 1)) := by
    rw [Heap.get?_update_self _ e2 (by rw [Obj.mapSeq_push_plain]; rfl), Obj.mapSeq_push_plain]
    simp
  have r2 := r.mut (tk := s.toks) (po' := .lst (xs ++ [y])) e1 (Heap.SameBut.update _ _ _) e3 (.lst (t.append (.cons h2 .nil)))
  exact ⟨_, _, _, Z, h, ads_set e1, fun _ h => h, .none, r2⟩

theorem WO.pop0 {i : Nat} {x : PV} {xs : List PV} (hx : σ.H[i]? = some (.lst (x :: xs))) (hz : xs.length + 1 ≤ sizeLine) (h : Q x { σ with H := σ.H.set i (.lst xs) }) :
    WO c (fun ws => call (.builtin "list.pop") ws) [.ref i, .int 0] Q σ := by
  refine ⟨?_⟩; rintro T Z R s _ r (_ | ⟨h1, (_ | ⟨(_ | _), (_ | _)⟩)⟩)
  obtain ⟨D, vs, k, rfl, e1, e2, t⟩ := r.tracked h1 hx
  cases t with
  | cons hv t =>
    rename_i v vs
    refine call_meets PySem.F.slot_list_pop ⟨_, e2, rfl⟩ PySem.F.entry_list_pop (PySem.F.args_list_pop_2 _ _) (PySem.MeetsSeq.list_pop_at D _ k 0 _ 0 v (by decide) (by simp [seqIndex?]) (by simp) (by rw [List.size_toArray, List.length_cons, t.length]; exact hz)) ⟨e2, ?_⟩
    have e3 : (s.heap.update D (Obj.mapSeq fun x => x.eraseIdxIfInBounds 0)).get? D = some (listOf vs.toArray (k + 1)) := by
      have q := PySem.IsL.update e2 (fun x => x.eraseIdxIfInBounds 0)
      have e4 : (v :: vs).toArray.eraseIdxIfInBounds 0 = vs.toArray := by simp [Array.eraseIdxIfInBounds]
      rw [e4, if_neg (by simp)] at q
      exact q
    have r2 := r.mut (tk := s.toks) (po' := .lst xs) e1 (Heap.SameBut.update _ _ _) e3 (.lst t)
    exact ⟨_, _, _, Z, h, ads_set e1, fun _ h => h, by rw [ads_set e1]; exact hv, r2⟩

theorem Rel.exact {v : Value} {x : PV} {xs : List PV} (r : Rel c T Z R σ s) (hv : VR (ads T) Z v x) (hx : σ.lst? x = some xs) :
    ∃ a vs k, v = .ref a ∧ s.heap.get? a = some (listOf (List.toArray vs) k) ∧ VRs (ads T) Z vs xs := by
  cases hv with
  | lst h t => cases hx; exact ⟨_, _, _, rfl, (r.N _ (List.mem_append_right _ (List.mem_append_left _ h))).1, t⟩
  | ref h =>
    simp only [St.lst?] at hx
    split at hx
    · rename_i ys e
      cases hx
      obtain ⟨D, vs, k, e0, e1, e2, t⟩ := r.tracked (.ref h) e
      exact ⟨D, vs, k, e0, e2, t⟩
    · cases hx
  | _ => cases hx

theorem door {a b : Array Value} (h : a.size + b.size ≤ sizeLine) : ¬(!a.isEmpty && Builtin.List.listTooLong (a.size + b.size)) = true := PyProof.Rows.extend_door h
theorem mapSeq_appL (vs ws : List Value) (k : Nat) : ∃ k', Obj.mapSeq (fun x => x ++ ws.toArray) (listOf vs.toArray k) = listOf (vs ++ ws).toArray k' := by
  have h := PyProof.Rows.mapSeq_app vs.toArray ws.toArray k none #[]
  rw [List.append_toArray] at h
  exact ⟨_, h⟩
theorem WO.extend {i : Nat} {xs ys : List PV} {b : PV} (hx : σ.H[i]? = some (.lst xs)) (hb : σ.lst? b = some ys) (hz : xs.length + ys.length ≤ sizeLine) (h : Q .none { σ with H := σ.H.set i (.lst (xs ++ ys)) }) :
    WO c (fun ws => call (.builtin "list.extend") ws) [.ref i, b] Q σ := by
  refine ⟨?_⟩; rintro T Z R s _ r (_ | ⟨h1, (_ | ⟨h2, (_ | _)⟩)⟩)
  obtain ⟨D, vs, k, rfl, e1, e2, t⟩ := r.tracked h1 hx
  obtain ⟨b', ws, k2, rfl, e5, t2⟩ := r.exact h2 hb
  have hs1 : vs.toArray.size + ws.toArray.size ≤ sizeLine := by rw [List.size_toArray, List.size_toArray, t.length, t2.length]; exact hz
  refine call_meets PySem.F.slot_list_extend ⟨_, e2, rfl⟩ PySem.F.entry_list_extend (PySem.F.args_list_extend_2 _ _) (AutoSeq1.list_extend_list_list_0 D vs.toArray k b' ws.toArray k2 (door hs1) (by lia) (by lia)) ⟨e2, e5, ?_⟩
  obtain ⟨k', e4⟩ := mapSeq_appL vs ws k
  have e3 : (s.heap.update D (Obj.mapSeq fun x => x ++ ws.toArray)).get? D = some (listOf (vs ++ ws).toArray k') := by
    rw [Heap.get?_update_self _ e2 (by rw [e4]; rfl), e4]
  have r2 := r.mut (tk := s.toks) (po' := .lst (xs ++ ys)) e1 (Heap.SameBut.update _ _ _) e3 (.lst (t.append t2))
  exact ⟨_, _, _, Z, h, ads_set e1, fun _ h => h, .none, r2⟩

theorem inplace_list {M : Model} {A : Around} {E : Value → Shared → Prop} {s : Shared} {a b : Value} {Q : Value → Shared → Prop} (ha : s.TypeIs a "list") (hb : s.TypeIs b "list")
    (hc : wpAny M A (call (.builtin "list.__iadd__") [a, b]) Q E s) : wpAny M A (inplaceOp .Add a b) Q E s := by
  unfold inplaceOp
  refine wpAny_holding ?_
  have hlk : typeLookup (.type "list") (dunderI "add") = pure (some (.builtin "list.__iadd__")) := PySem.F.slot_list_iadd.lookup
  have hfi : fillsInplaceSlot (.type "list") "add" (Operator.Add == .Add) = pure false := by
    unfold fillsInplaceSlot
    show (typeLookup (.type "list") (dunderI "add") >>= fun fi => pure (fi.isSome && !isSeqSlot fi)) = pure false
    rw [hlk]; rfl
  have hsi : seqSlot? (.type "list") (dunderI "add") = pure (some (.builtin "list.__iadd__")) := by
    unfold seqSlot?
    rw [hlk]; rfl
  refine wpAny_bind (wpAny_typeOf ha (wpAny_bind (wpAny_of_eq hfi ?_)))
  show wpAny M A (if false = true then _ else _) Q E s
  rw [if_neg Bool.false_ne_true]
  refine wpAny_bind (wpAny_binaryOp1_none (nm := "add") ha hb (by first | exact PySem.F.fills_list_add | exact PySem.fills_list_add | kernel_rfl) ?_)
  refine wpAny_bind (wpAny_of_eq hsi ?_)
  exact wpAny_bind (wpAny_rule hc)

theorem WO2.iaddL {i : Nat} {xs ys : List PV} {b : PV} (hx : σ.H[i]? = some (.lst xs)) (hb : σ.lst? b = some ys) (hz : xs.length + ys.length ≤ sizeLine) (h : Q (.ref i) { σ with H := σ.H.set i (.lst (xs ++ ys)) }) :
    WO2 c (inplaceOp .Add) (.ref i) b Q σ := by
  refine ⟨?_⟩; intro T Z R s v u r h1 h2
  obtain ⟨D, vs, k, rfl, e1, e2, t⟩ := r.tracked h1 hx
  obtain ⟨b', ws, k2, rfl, e5, t2⟩ := r.exact h2 hb
  have hs1 : vs.toArray.size + ws.toArray.size ≤ sizeLine := by rw [List.size_toArray, List.size_toArray, t.length, t2.length]; exact hz
  refine inplace_list ⟨_, e2, rfl⟩ ⟨_, e5, rfl⟩ ?_
  refine call_meets PySem.F.slot_list_iadd ⟨_, e2, rfl⟩ PySem.F.entry_list_iadd (PySem.F.args_list_iadd_2 _ _) (AutoSeq1.list___iadd___list_list_0 D vs.toArray k b' ws.toArray k2 (door hs1) (by lia) (by lia)) ⟨e2, e5, ?_⟩
  obtain ⟨k', e4⟩ := mapSeq_appL vs ws k
  have e3 : (s.heap.update D (Obj.mapSeq fun x => x ++ ws.toArray)).get? D = some (listOf (vs ++ ws).toArray k') := by
    rw [Heap.get?_update_self _ e2 (by rw [e4]; rfl), e4]
  have r2 := r.mut (tk := s.toks) (po' := .lst (xs ++ ys)) e1 (Heap.SameBut.update _ _ _) e3 (.lst (t.append t2))
  exact ⟨_, _, _, Z, h, ads_set e1, fun _ h => h, by rw [ads_set e1]; exact h1, r2⟩
end
end Mine
end
section
open PySem PySem.W PySem.Calls PyProof.Rows PySem.Spec
namespace Mine
section
variable {c : Cx} {T Z R : List (Addr × Obj)} {σ : St} {s : Shared} {n : Nat}

/-- a new tracked object -/
theorem Rel.grow {m : Str → Option Value} {h' : Heap} {tk : Nat} {o : Obj} {D : Addr} {po : PO} (r : Rel c T Z R σ s) (hD : D = s.heap.objs.size) (P : RelP c T Z R σ m) (F' : Fr c.h₀ c.L h' m) (N' : News c.h₀ c.L h' ((D, o) :: (T ++ (Z ++ R))))
    (hr : OR (ads T ++ [D]) Z o po) : Rel c (T ++ [(D, o)]) Z R { σ with H := σ.H ++ [po] } { s with heap := h', toks := tk } := by
  obtain ⟨hh, t, rfl⟩ := r.sh
  have ap := r.apart hD
  have ea : ads (T ++ [(D, o)]) = ads T ++ [D] := by simp
  have ex : ∀ (i : Nat) (a : Addr), (ads T)[i]? = some a → (ads T ++ [D])[i]? = some a := fun i a e => by
    have := (List.getElem?_eq_some_iff.mp e).1
    rw [List.getElem?_append_left this]; exact e
  refine ⟨⟨h', tk, rfl⟩, ?_, m, ?_, F'⟩
  · intro p hp
    refine N' p ?_
    simp only [List.mem_append, List.mem_cons, List.not_mem_nil, or_false] at hp ⊢
    rcases hp with (h | h) | h
    · exact .inr (.inl h)
    · exact .inl h
    · exact .inr (.inr h)
  · refine ⟨fun x pv e => ?_, ?_, ?_, P.dZ, by simp [P.len], ?_, ?_, P.mm⟩
    · obtain ⟨v, hv, hm⟩ := P.loc x pv e
      exact ⟨v, by show VR (ads _) _ _ _; rw [ea]; exact hv.ext ex, hm⟩
    · show (ads _).Nodup
      rw [ea]
      refine List.nodup_append.mpr ⟨P.nd, by simp, ?_⟩
      intro a ha b hb e
      rw [List.mem_singleton] at hb
      obtain ⟨p, hp, rfl⟩ := List.mem_map.mp ha
      exact ap p (List.mem_append_left _ hp) (e.trans hb)
    · intro p hp q hq
      rcases List.mem_append.mp hp with h | h
      · exact P.dT p h q hq
      · rw [List.mem_singleton] at h
        subst h
        exact (ap q (List.mem_append_right _ hq)).symm
    · intro i p qo e1 e2
      show OR (ads _) _ _ _
      rw [ea]
      by_cases hi : i < T.length
      · rw [List.getElem?_append_left hi] at e1
        rw [show (σ.H ++ [po])[i]? = σ.H[i]? from List.getElem?_append_left (by rw [← P.len]; exact hi)] at e2
        exact (P.ob i p qo e1 e2).ext ex
      · have h1 := (List.getElem?_eq_some_iff.mp e1).1
        have : i = T.length := by simp at h1; lia
        subst this
        rw [List.getElem?_concat_length] at e1
        rw [show (σ.H ++ [po])[T.length]? = some po from by rw [P.len]; exact List.getElem?_concat_length] at e2
        cases e1; cases e2
        exact hr
    · intro x j e
      obtain ⟨a, h1, h2⟩ := P.ce x j e
      exact ⟨a, h1, by show (ads _)[j]? = _; rw [ea]; exact ex _ _ h2⟩

/-- `x = [..]`: a list that will be turned -/
theorem WS.assignNew {x : Str} {px pos lp : Pos} {elts : List Expr} {Q : PF → St → Prop} (ok : c.Ok n) (hc : c.comp = none)
    (h : WA c elts (fun vs σ1 => vs.length ≤ sizeLine ∧ Q .next { (σ1.set x (.ref σ1.H.length)) with H := σ1.H ++ [.lst vs] }) σ)
    (hn : noStars elts = true := by rfl) (hk : c.env.kindOf x = some .local := by rfl) (hs : swapsWith (.List elts lp) (some (.Name x px)) pos.line c.env = pure false := by rfl) :
    WS c (exec (.Assign [.Name x px] (.List elts lp) pos) c.env) Q σ := by
  refine ⟨?_⟩; intro T Z R s r
  refine wpAny_Assign_Name (List_ (wpAny_mono (WA.spliced hn h r) (fun vs s' p => ?_) fun _ _ e => e)) hs
  obtain ⟨pvs, σ', T', Z', ⟨hz, q⟩, a, z, hv, r'⟩ := p
  obtain ⟨m, P, F⟩ := r'.fr
  obtain ⟨hh, tk, rfl⟩ := r'.sh
  refine newList_N F r'.N (fun h' F' N' => ?_) (by rw [hv.length]; exact hz)
  have ex : ∀ (i : Nat) (a : Addr), (ads T')[i]? = some a → (ads T' ++ [hh.objs.size])[i]? = some a := fun i a e => by
    have := (List.getElem?_eq_some_iff.mp e).1
    rw [List.getElem?_append_left this]; exact e
  have r2 := r'.grow (tk := tk) (po := .lst pvs) rfl P F' N' (.lst (hv.ext ex))
  refine r2.store (pv := .ref σ'.H.length) ok hc (.ref ?_) hk fun s2 r3 => ⟨_, _, _, Z', q, z, .next, r3⟩
  show (ads (T' ++ [_]))[σ'.H.length]? = _
  rw [← P.len]
  simp [ads]

/-- a weaker state: fewer objects known, other words for the same values -/
noncomputable def St.Le (c : Cx) (σ σ' : St) : Prop := ∀ T Z R s, Rel c T Z R σ s → ∃ T' Z', (∀ p ∈ Z, p ∈ Z') ∧ Rel c T' Z' R σ' s
theorem WS.le {t : Sem Flow} {σ' : St} {Q : PF → St → Prop} (h : σ.Le c σ') (hw : WS c t Q σ') : WS c t Q σ := by
  refine ⟨?_⟩; intro T Z R s r
  obtain ⟨T', Z', z, r'⟩ := h T Z R s r
  exact wpAny_mono (hw.run T' Z' R s r') (fun _ _ p => p.up z) fun _ _ e => e
theorem St.Le.refl : σ.Le c σ := fun T Z R s r => ⟨T, Z, fun _ h => h, r⟩

mutual
noncomputable def PV.frz (H : List PO) : PV → PV
  | .ref i => match H[i]? with | some (.lst xs) => .lst xs | _ => .ref i
  | .lst xs => .lst (PV.frzs H xs)
  | x => x
noncomputable def PV.frzs (H : List PO) : List PV → List PV
  | [] => []
  | x :: xs => x.frz H :: PV.frzs H xs
end
theorem frzs_map {H : List PO} : ∀ {xs : List PV}, PV.frzs H xs = xs.map (PV.frz H)
  | [] => rfl
  | x :: xs => by rw [PV.frzs, frzs_map]; rfl
/-- all that is tracked holds clean words alone -/
noncomputable def St.flat (σ : St) : Prop := ∀ po ∈ σ.H, ∃ xs, po = .lst xs ∧ PV.cleans xs
theorem VR.frz {as : List Addr} {T' : List (Addr × Obj)} {Z : List (Addr × Obj)} {H : List PO} (has : as = ads T') (hl : T'.length = H.length) (ho : ∀ (i : Nat) (p : Addr × Obj) (po : PO), T'[i]? = some p → H[i]? = some po → OR as Z p.2 po) (hf : ∀ po ∈ H, ∃ xs, po = .lst xs ∧ PV.cleans xs)
    {v x} (h : VR as Z v x) : VR [] (T' ++ Z) v (x.frz H) := by
  have key : ∀ {i : Nat} {a : Addr}, as[i]? = some a → VR [] (T' ++ Z) (.ref a) ((PV.ref i).frz H) := by
    intro i a h
    subst has
    rw [List.getElem?_map] at h
    obtain ⟨p, hp, rfl⟩ := Option.map_eq_some_iff.mp h
    have hlt : i < H.length := by rw [← hl]; exact (List.getElem?_eq_some_iff.mp hp).1
    have hH : H[i]? = some H[i] := List.getElem?_eq_getElem hlt
    obtain ⟨xs, e, hc⟩ := hf _ (List.getElem_mem hlt)
    rw [e] at hH
    have o := ho i p _ hp hH
    unfold PV.frz
    rw [hH]
    obtain ⟨pa, po⟩ := p
    cases o with
    | lst t => exact .lst (List.mem_append_left _ (List.mem_of_getElem? hp)) ((t.ofClean hc).mono fun _ h => List.mem_append_right _ h)
  refine VR.rec (motive_1 := fun v x _ => VR [] (T' ++ Z) v (x.frz H)) (motive_2 := fun v x _ => VRs [] (T' ++ Z) v (PV.frzs H x)) ?_ ?_ ?_ ?_ ?_ (fun h => key h) ?_ ?_ ?_ h
  · unfold PV.frz; exact .none
  · unfold PV.frz; exact .bool
  · unfold PV.frz; exact .int
  · unfold PV.frz; exact .str
  · unfold PV.frz; exact .raw
  · intro a vs n xs h _ ih; unfold PV.frz; exact .lst (List.mem_append_right _ h) ih
  · unfold PV.frzs; exact .nil
  · intro v x vs xs _ _ h t; unfold PV.frzs; exact .cons h t
theorem St.Le.freeze (hf : σ.flat) : σ.Le c ⟨fun y => (σ.loc y).map (PV.frz σ.H), [], fun _ => none⟩ := by
  intro T Z R s r
  obtain ⟨m, P, F⟩ := r.fr
  refine ⟨[], T ++ Z, fun _ h => List.mem_append_right _ h, r.sh, ?_, m, ?_, F⟩
  · intro p hp
    refine r.N p ?_
    simpa [List.append_assoc] using hp
  · refine ⟨fun x pv e => ?_, List.nodup_nil, (fun p hp => nomatch hp), ?_, rfl, (fun i p po e => by simp at e), (fun x i e => by cases e), P.mm⟩
    · obtain ⟨pv', e1, rfl⟩ := Option.map_eq_some_iff.mp e
      obtain ⟨v, hv, hm⟩ := P.loc x pv' e1
      exact ⟨v, VR.frz rfl P.len P.ob hf hv, hm⟩
    · intro p hp q hq
      rcases List.mem_append.mp hp with h | h
      · exact P.dT p h q (List.mem_append_right _ hq)
      · exact P.dZ p h q hq

/-- what a for goes over -/
noncomputable def items : PV → Option (List PV)
  | .lst xs => some xs
  | .str x => some (x.cps.toList.map fun k => .str ⟨#[k]⟩)
  | _ => none

theorem WS.for {x : Str} {px pos : Pos} {iter : Expr} {body : List Stmt} {Q : PF → St → Prop} (Inv : List PV → St → Prop) (ok : c.Ok n) (hc : c.comp = none)
    (h : WE c (eval iter c.env) (fun pv σ1 => ∃ xs, items pv = some xs ∧ PV.cleans xs ∧ Inv [] σ1 ∧
      (∀ pre y post σ, xs = pre ++ y :: post → Inv pre σ → WS c (execs body c.env) (fun f σ' => match f with | .ret _ => False | _ => Inv (pre ++ [y]) σ') (σ.set x y)) ∧ (∀ σ, Inv xs σ → Q .next σ)) σ)
    (hk : c.env.kindOf x = some .local := by rfl) (hs : ∀ v, foldedSetIterable iter c.env v = pure v := by intro _; rfl) :
    WS c (exec (.For (.Name x px) iter body [] pos) c.env) Q σ := by
  refine ⟨?_⟩; intro T Z R s r
  have hl : c.env.locals = c.L := by have := ok.locs; rw [hc] at this; exact this
  refine For_invV c.h₀ hk (by rw [ok.kind]; rfl) (wpAny_mono (h.run T Z R s r) (fun xv s1 p => ?_) fun _ _ e => e) hs PassesOwn.never
  obtain ⟨pv, σ1, T1, Z1, ⟨xs, hxs, hcl0, hi0, hstep, hdone⟩, a1, z1, hv, r1⟩ := p
  obtain ⟨m1, P1, F1⟩ := r1.fr
  -- the common end: a walk over n items, the I-th object alone turned
  have main : ∀ (I : Addr) (fp : List Addr) (nn : Nat) (Pw : Nat → Value → Prop) (Stw : Nat → Heap → Prop) (s2 : Shared), Walks c.g.prog c.g.w c.A I fp [I] nn Pw Stw → I = s1.heap.objs.size → (∀ b ∈ fp, b = I ∨ ∃ o, (b, o) ∈ Z1) → Stw 0 s2.heap → (∀ i h, Stw i h → ∃ o, h.get? I = some o) →
      Rel c T1 Z1 R σ1 s2 → nn = xs.length → (∀ i v, Pw i v → i < nn → ∃ y, xs[i]? = some y ∧ VR (ads T1) Z1 v y ∧ ∀ T' , VR (ads T') Z1 v y) →
      LoopAtV c.g.prog c.g.w c.A c.h₀ c.env x body (PostS c Z R Q) (fun _ _ => False) (.ref I) s2 := by
    intro I fp nn Pw Stw s2 W hI hfp hst hSt r2 hnn hP
    obtain ⟨m2, P2, F2⟩ := r2.fr
    have apI := r1.apart hI
    have hIn : c.h₀.get? I = none := by rw [hI]; exact none_at_size F1
    have hIL : I ≠ c.L := by rw [hI]; exact Nat.ne_of_gt F1.ns.lt
    have zne : ∀ b o, (b, o) ∈ Z1 → b ≠ c.L := fun b o h => (r1.N _ (List.mem_append_right _ (List.mem_append_left _ h))).2.1
    have hLfp : c.env.locals ∉ fp := by
      rw [hl]
      intro hm
      rcases hfp _ hm with e | ⟨o, ho⟩
      · exact hIL e.symm
      · exact zne _ _ ho rfl
    let J : Nat → (Str → Option Value) → List (Addr × Obj) → Prop := fun i m news => ∃ T' Z' σ', news = T' ++ (Z' ++ R) ∧ (∀ p ∈ Z1, p ∈ Z') ∧ RelP c T' Z' R σ' m ∧ (∀ p ∈ T' ++ Z', p.1 ≠ I) ∧ i ≤ nn ∧ Inv (xs.take i) σ'
    refine ⟨I, fp, [I], nn, Pw, Stw, m2, T1 ++ (Z1 ++ R), J, rfl, W, hLfp, ?_, ?_, hst, hl ▸ F2, hl ▸ r2.N, ⟨T1, Z1, σ1, rfl, fun _ h => h, P2, ?_, Nat.zero_le _, by simpa using hi0⟩, ?_, ?_⟩
    · intro b hb; rw [List.mem_singleton.mp hb]; exact hIn
    · intro p hp hm; exact apI p hp (List.mem_singleton.mp hm)
    · intro p hp; exact apI p (by rcases List.mem_append.mp hp with h | h; exact List.mem_append_left _ h; exact List.mem_append_right _ (List.mem_append_left _ h))
    · rintro i v m3 news3 s3 own ⟨h3, tk3, rfl⟩ hin hPv ⟨T3, Z3, σ3, rfl, z3, P3, ap3, hi3, hinv⟩ hnw hown1 hown2 hown3 hst3 F3 N3
      rw [hl] at F3 N3
      obtain ⟨y, hy, hvy, hvy'⟩ := hP i v hPv hin
      -- the loop's own object goes into the frame
      have hsplit : xs = xs.take i ++ y :: xs.drop (i + 1) := by
        have hlt : i < xs.length := (List.getElem?_eq_some_iff.mp hy).1
        have hh : xs[i] = y := by have := List.getElem?_eq_getElem hlt; rw [this] at hy; exact Option.some.inj hy
        rw [← hh]
        simp
      have hI3 : ∃ o, (I, o) ∈ own := by
        have hb : I ∈ fp := W.sub I (List.mem_singleton.mpr rfl)
        obtain ⟨o, ho⟩ := hSt _ _ hst3
        exact ⟨o, hown3 I hb hIn o ho⟩
      obtain ⟨oI, hoI⟩ := hI3
      have hr3 : Rel c T3 Z3 ((I, oI) :: R) (σ3.set x y) { s2 with heap := h3, toks := tk3 } := by
        obtain ⟨hh2, tk2, rfl⟩ := r2.sh
        refine ⟨⟨h3, tk3, rfl⟩, ?_, _, ?_, F3⟩
        · intro p hp
          refine N3 p ?_
          simp only [List.mem_append, List.mem_cons] at hp ⊢
          rcases hp with h | h | h | h
          · exact .inr (.inl h)
          · exact .inr (.inr (.inl h))
          · subst h; exact .inl hoI
          · exact .inr (.inr (.inr h))
        · refine ⟨fun u qv e => ?_, P3.nd, ?_, ?_, P3.len, P3.ob, P3.ce, (fun C h => by rw [hc] at h; cases h)⟩
          · unfold St.set at e
            dsimp only at e
            by_cases hu : u = x
            · rw [if_pos hu] at e
              cases e
              refine ⟨v, (hvy' T3).mono z3, ?_⟩
              unfold Cx.Holds; rw [hc]; simp [hu]
            · rw [if_neg hu] at e
              obtain ⟨w, hw, hm⟩ := P3.loc u qv e
              refine ⟨w, hw, ?_⟩
              unfold Cx.Holds at hm ⊢
              rw [hc] at hm ⊢
              simpa [hu] using hm
          · intro p hp q hq
            rcases List.mem_append.mp hq with h | h
            · exact P3.dT p hp q (List.mem_append_left _ h)
            · rcases List.mem_cons.mp h with rfl | h
              · exact ap3 p (List.mem_append_left _ hp)
              · exact P3.dT p hp q (List.mem_append_right _ h)
          · intro p hp q hq
            rcases List.mem_cons.mp hq with rfl | h
            · exact ap3 p (List.mem_append_right _ hp)
            · exact P3.dZ p hp q h
      have hw := (hstep _ y _ σ3 hsplit hinv).run T3 Z3 _ _ hr3
      refine wpAny_mono hw (fun f s4 p => ?_) fun _ _ e => e
      obtain ⟨pf, σ4, T4, Z4, q4, z4, hf4, r4⟩ := p
      have fin : Inv (xs.take i ++ [y]) σ4 → LoopStepU c.h₀ c.env.locals [I] own (J (i + 1)) { s2 with heap := h3, toks := tk3 } .next s4 := by
        intro hinv4
        obtain ⟨m4, P4, F4⟩ := r4.fr
        obtain ⟨hh2, tk2, rfl⟩ := r2.sh
        obtain ⟨h4, tk4, rfl⟩ := r4.sh
        have d4 : ∀ p ∈ T4 ++ Z4, p.1 ≠ I := by
          intro p hp
          rcases List.mem_append.mp hp with h | h
          · exact P4.dT p h (I, oI) (List.mem_append_right _ (.head _))
          · exact P4.dZ p h (I, oI) (.head _)
        refine ⟨rfl, h4, tk4, m4, T4 ++ (Z4 ++ R), rfl, hl ▸ F4, ?_, ?_, T4, Z4, σ4, rfl, fun p hp => z4 p (z3 p hp), ?_, d4, hin, ?_⟩
        · rw [hl]
          intro p hp
          rcases List.mem_append.mp hp with h | h
          · rcases hfp _ (hown1 p h) with e | ⟨o, ho⟩
            · have hp2 : p.2 = oI := by
                have e1 := hown2 p h
                have e2 := hown2 _ hoI
                rw [e] at e1
                exact Option.some.inj (e1.symm.trans e2)
              have : p = (I, oI) := Prod.ext e hp2
              rw [this]
              exact r4.N (I, oI) (List.mem_append_right _ (List.mem_append_right _ (.head _)))
            · have hz := z3 _ ho
              have e1 := hown2 p h
              have e2 := (N3 _ (List.mem_append_right _ (List.mem_append_right _ (List.mem_append_left _ hz)))).1
              have : p = (p.1, o) := Prod.ext rfl (Option.some.inj (e1.symm.trans e2))
              rw [this]
              exact r4.N (p.1, o) (List.mem_append_right _ (List.mem_append_left _ (z4 _ hz)))
          · refine r4.N p ?_
            simp only [List.mem_append, List.mem_cons] at h ⊢
            rcases h with h | h | h
            · exact .inl h
            · exact .inr (.inl h)
            · exact .inr (.inr (.inr h))
        · intro p hp hm
          rw [List.mem_singleton] at hm
          rcases List.mem_append.mp hp with h | h
          · exact d4 p (List.mem_append_left _ h) hm
          · rcases List.mem_append.mp h with h | h
            · exact d4 p (List.mem_append_right _ h) hm
            · exact apI p (List.mem_append_right _ (List.mem_append_right _ h)) hm
        · exact ⟨fun u qv e => by
            obtain ⟨w, hw, hm⟩ := P4.loc u qv e
            refine ⟨w, hw, ?_⟩
            unfold Cx.Holds at hm ⊢
            rw [hc] at hm ⊢
            exact hm, P4.nd, fun p hp q hq => P4.dT p hp q (by rcases List.mem_append.mp hq with h | h; exact List.mem_append_left _ h; exact List.mem_append_right _ (.tail _ h)), fun p hp q hq => P4.dZ p hp q (.tail _ hq), P4.len, P4.ob, P4.ce, P4.mm⟩
        · have : xs.take (i + 1) = xs.take i ++ [y] := by rw [List.take_add_one, hy]; rfl
          rw [this]; exact hinv4
      cases hf4 with
      | next => exact .next (fin q4)
      | cont => exact .cont (fin q4)
      | ret _ => exact q4.elim
    · rintro h' tk m' news' F' N' _ ⟨T', Z', σ', rfl, z', P', ap', _, hinv⟩
      rw [hl] at F' N'
      rw [hnn, List.take_length] at hinv
      obtain ⟨hh2, tk2, rfl⟩ := r2.sh
      exact ⟨.next, σ', T', Z', hdone σ' hinv, fun p hp => z' p (z1 p hp), .next, ⟨h', tk, rfl⟩, N', m', P', F'⟩
  have post : ∀ (o : Obj), o.isFreed = false → Rel c T1 Z1 R σ1 { s1 with heap := s1.heap.push o } := fun o ho => r1.keep (tk := s1.toks) fun b ob e => Heap.get?_push_of_some _ e
  cases hv with
  | lst hz t =>
    rename_i a vs k ys
    cases hxs
    have hL := r1.isList hz
    have hne : a ≠ s1.heap.objs.size := Nat.ne_of_lt (Heap.lt_size (r1.N _ (List.mem_append_right _ (List.mem_append_left _ hz))).1)
    refine wpAny_pyIter_list hL ?_
    have W := Walks.list (prog := c.g.prog) (w := c.g.w) (A := c.A) ok.hh s1.heap.objs.size a hne vs.toArray
    refine main _ _ _ _ _ _ W rfl ?_ ⟨⟨_, Heap.get?_push_size _ rfl, rfl, rfl⟩, hL.at fun o e => Heap.get?_push_of_some _ e⟩ (fun i h st => ⟨_, st.1.choose_spec.1⟩) (post _ rfl) (by rw [List.size_toArray, t.length]) ?_
    · intro b hb
      rcases List.mem_cons.mp hb with rfl | hb
      · exact .inl rfl
      · rw [List.mem_singleton] at hb; subst hb; exact .inr ⟨_, hz⟩
    · intro i v hv' _
      have hv2 : vs[i]? = some v := by simpa using hv'
      obtain ⟨y, hy, hvr⟩ := t.getV hv2
      have hcl : y.clean := cleans_iff.mp hcl0 y (List.mem_of_getElem? hy)
      exact ⟨y, hy, hvr, fun T' => hvr.ofClean hcl⟩
  | str =>
    rename_i x t
    cases hxs
    have hsign : ∀ i v, SignAt x i v → i < x.cps.size → ∃ y, (x.cps.toList.map fun k => PV.str ⟨#[k]⟩)[i]? = some y ∧ VR (ads T1) Z1 v y ∧ ∀ T', VR (ads T') Z1 v y := by
      rintro i v ⟨k, u, hk, rfl⟩ _
      refine ⟨.str ⟨#[k]⟩, ?_, .str, fun _ => .str⟩
      rw [List.getElem?_map, Array.getElem?_toList, hk]; rfl
    have hsz : x.cps.size = (x.cps.toList.map fun k => PV.str ⟨#[k]⟩).length := by simp
    cases ha : x.cps.all (· < 128)
    · refine wpAny_pyIter_wide ha ?_
      exact main _ _ _ _ _ _ (Walks.strWide ok.hh _ x t) rfl (fun b hb => .inl (List.mem_singleton.mp hb)) ⟨_, Heap.get?_push_size _ rfl, rfl, rfl⟩ (fun i h st => ⟨_, st.choose_spec.1⟩) (post _ rfl) hsz hsign
    · refine wpAny_pyIter_ascii ha ?_
      exact main _ _ _ _ _ _ (Walks.strAscii ok.hh _ x t) rfl (fun b hb => .inl (List.mem_singleton.mp hb)) ⟨_, Heap.get?_push_size _ rfl, rfl, rfl⟩ (fun i h st => ⟨_, st.choose_spec.1⟩) (post _ rfl) hsz hsign
  | _ => cases hxs
end
end Mine
end
section
open PySem PySem.W PySem.Calls PyProof.Rows PySem.Spec
namespace Mine
section
variable {c : Cx} {T Z R : List (Addr × Obj)} {σ : St} {s : Shared} {n : Nat} {Q : PV → St → Prop}

-- slices of strs
noncomputable def WP (c : Cx) (e : Option Expr) (Q : Option Int → St → Prop) (σ : St) : Prop :=
  match e with
  | none => Q none σ
  | some e => WE c (eval e c.env) (fun b σ1 => ∃ i, b = .int i ∧ Q (some i) σ1) σ
noncomputable def partV : Option (Int × Tok) → Value
  | none => .none
  | some (i, t) => .int i t
theorem WP.wp {e : Option Expr} {Q : Option Int → St → Prop} (r : Rel c T Z R σ s) (h : WP c e Q σ) {QQ : Value → Shared → Prop}
    (hq : ∀ (p : Option (Int × Tok)) σ' T' Z' s', Q (p.map (·.1)) σ' → ads T' = ads T → (∀ p ∈ Z, p ∈ Z') → Rel c T' Z' R σ' s' → QQ (partV p) s') :
    wpAny (model c.g.prog c.g.w) c.A (evalPart e c.env) QQ (fun _ _ => False) s := by
  cases e with
  | none => exact evalPart_none_step (hq none σ T Z s h rfl (fun _ h => h) r)
  | some e =>
    refine evalPart_some_step (wpAny_mono (h.run T Z R s r) (fun v s' p => ?_) fun _ _ e => e)
    obtain ⟨pv, σ', T', Z', ⟨i, rfl, q⟩, a, z, hv, r'⟩ := p
    cases hv
    rename_i t
    exact hq (some (i, t)) σ' T' Z' s' q a z r'
theorem WE.sliceS {value : Expr} {lo hi : Option Expr} {p pos : Pos}
    (h : WE c (eval value c.env) (fun a σ1 => ∃ x, a = .str x ∧ x.length ≤ sizeLine ∧ WP c lo (fun i σ2 => WP c hi (fun j σ3 => Q (.str (Txt.slice x i j)) σ3) σ2) σ1) σ)
    :
    WE c (eval (.Subscript value (.Slice lo hi none p) pos) c.env) Q σ := by
  refine ⟨?_⟩; intro T Z R s r
  have hT : ∀ x t (r : Value), letTemporaryGo value (.str x t) r = pure () := by intro x t r; cases value <;> rfl
  have hS : ∀ o i, subscripted (.Slice lo hi none p) false o i = operate [i, o] (getItem o i) := fun _ _ => rfl
  refine Subscript_ (wpAny_mono (h.run T Z R s r) (fun v s1 p1 => ?_) fun _ _ e => e)
  obtain ⟨pv, σ1, T1, Z1, ⟨x, rfl, hx, q⟩, a1, z1, hv, r1⟩ := p1
  cases hv
  rename_i t
  refine wpAny_Slice (WP.wp r1 q fun pl σ2 T2 Z2 s2 q2 a2 z2 r2 => WP.wp r2 q2 fun pu σ3 T3 Z3 s3 q3 a3 z3 r3 => evalPart_none_step ?_)
  obtain ⟨m, P, F⟩ := r3.fr
  obtain ⟨hh, tk, rfl⟩ := r3.sh
  have fin : ∀ h' t' k, Fr c.h₀ c.L h' m → News c.h₀ c.L h' (T3 ++ (Z3 ++ R)) → Post c T Z R Q (.str (Txt.slice x (pl.map (·.1)) (pu.map (·.1))) t') { c.s₀ with heap := h', toks := k } := fun h' t' k F' N' =>
    ⟨_, _, T3, Z3, q3, a3.trans (a2.trans a1), fun p hp => z3 p (z2 p (z1 p hp)), .str, ⟨h', k, rfl⟩, N', m, P, F'⟩
  cases pl with
  | none =>
    cases pu with
    | none => exact slice_strN_nn F r3.N fin (hS _ _) (hT _ _) hx
    | some u => obtain ⟨j, uj⟩ := u; exact slice_strN_ns F r3.N fin (hS _ _) (hT _ _) hx
  | some l =>
    obtain ⟨i, ui⟩ := l
    cases pu with
    | none => exact slice_strN_sn F r3.N fin (hS _ _) (hT _ _) hx
    | some u => obtain ⟨j, uj⟩ := u; exact slice_strN_ss F r3.N fin (hS _ _) (hT _ _) hx

/-- a value that is a list somewhere: frozen, tracked, or a list of ints that stood before the call -/
theorem WE.sliceL {value : Expr} {lo hi : Option Expr} {p pos : Pos}
    (h : WE c (eval value c.env) (fun a σ1 => WP c lo (fun i σ2 => WP c hi (fun j σ3 => ∃ ys, ys.length ≤ sizeLine ∧ (∀ T Z R s v, Rel c T Z R σ3 s → VR (ads T) Z v a → ∃ l vs, v = .ref l ∧ s.heap.IsList l (List.toArray vs) ∧ vs.length ≤ sizeLine ∧ VRs (ads T) Z (slicePick vs.toArray i j none).toList ys) ∧ Q (.lst ys) σ3) σ2) σ1) σ)
    (ht : ∀ (o r : Value), letTemporaryGo value o r = pure () := by intros; rfl) :
    WE c (eval (.Subscript value (.Slice lo hi none p) pos) c.env) Q σ := by
  refine ⟨?_⟩; intro T Z R s r
  refine Subscript_ (wpAny_mono (h.run T Z R s r) (fun v s1 p1 => ?_) fun _ _ e => e)
  obtain ⟨pv, σ1, T1, Z1, q, a1, z1, hv, r1⟩ := p1
  refine wpAny_Slice (WP.wp r1 q fun pl σ2 T2 Z2 s2 q2 a2 z2 r2 => WP.wp r2 q2 fun pu σ3 T3 Z3 s3 q3 a3 z3 r3 => evalPart_none_step ?_)
  obtain ⟨ys, hys, hl, q4⟩ := q3
  obtain ⟨m, P, F⟩ := r3.fr
  obtain ⟨hh, tk, rfl⟩ := r3.sh
  have hv3 : VR (ads T3) Z3 v pv := by rw [a3, a2]; exact (hv.mono z2).mono z3
  obtain ⟨l, vs, rfl, hL, hz, t⟩ := hl T3 Z3 R _ v r3 hv3
  have part : ∀ p : Option (Int × Tok), IsPart (partV p) (p.map (·.1)) := fun p => by
    cases p with
    | none => exact .none
    | some p => obtain ⟨i, t⟩ := p; exact .int ..
  refine slice_list F r3.N hL (part pl) (part pu) (fun h' F' N' => ?_) rfl (ht _) (by rw [List.size_toArray]; exact hz)
  have ap : ∀ p ∈ T3 ++ (Z3 ++ R), p.1 ≠ hh.objs.size + 1 := fun p hp e => absurd (Heap.lt_size (r3.N p hp).1) (by rw [e]; exact Nat.not_lt.mpr (Nat.le_succ _))
  have r4 : Rel c T3 ((hh.objs.size + 1, { cls := .type "list", data := .seq (slicePick vs.toArray (pl.map (·.1)) (pu.map (·.1)) none) }) :: Z3) R σ3 { c.s₀ with heap := h', toks := tk } := by
    have := r3.ofNewsA (tk := tk) ap P F' N'
    exact this
  have r5 : Rel c T3 ((hh.objs.size + 1, listOf (slicePick vs.toArray (pl.map (·.1)) (pu.map (·.1)) none).toList.toArray 0) :: Z3) R σ3 { c.s₀ with heap := h', toks := tk } := by
    rw [Array.toArray_toList]; exact r4
  exact (r5.postNew t q4).up (a3.trans (a2.trans a1)) fun p hp => z3 p (z2 p (z1 p hp))

-- str methods
theorem WO.split {x y : Str} (hy : (y.length == 0) = false) (hx : x.length + 2 ≤ sizeLine) (h : Q (.lst ((Txt.split x y).map .str)) σ) : WO c (fun ws => call (.builtin "str.split") ws) [.str x, .str y] Q σ := by
  refine ⟨?_⟩; rintro T Z R s _ r (_ | ⟨(_ | _), (_ | ⟨(_ | _), (_ | _)⟩)⟩)
  obtain ⟨m, P, F⟩ := r.fr
  refine splitN1 F r.N hy (fun l h' k e F' N' => ?_) hx
  have r2 := r.ofNews (tk := k) rfl P F' N'
  have hv : VRs (ads T) Z (strValues l) ((Txt.split x y).map .str) := by rw [← e]; exact VRs.ofStrs (strsAre_of_values l)
  exact r2.postNew hv h
theorem WO.splitlines {x : Str} (hx : x.length ≤ sizeLine) (hx2 : (lineCuts x).length ≤ sizeLine) (h : Q (.lst ((Txt.lines x).map .str)) σ) : WO c (fun ws => call (.builtin "str.splitlines") ws) [.str x] Q σ := by
  refine ⟨?_⟩; rintro T Z R s _ r (_ | ⟨(_ | _), (_ | _)⟩)
  obtain ⟨m, P, F⟩ := r.fr
  refine splitlinesN F r.N (fun l h' k e F' N' => ?_) hx hx2
  have r2 := r.ofNews (tk := k) rfl P F' N'
  have hv : VRs (ads T) Z (strValues l) ((Txt.lines x).map .str) := by rw [← e]; exact VRs.ofStrs (strsAre_of_values l)
  exact r2.postNew hv h
theorem WO.join {x : Str} {l : PV} {ys : List Str} (hl : σ.lst? l = some (ys.map .str)) (hx : x.length ≤ 64) (hz : (ys.map (·.length)).sum + ys.length * 64 ≤ 16777216) (h : Q (.str (Txt.join x ys)) σ) :
    WO c (fun ws => call (.builtin "str.join") ws) [.str x, l] Q σ := by
  refine ⟨?_⟩; rintro T Z R s _ r (_ | ⟨(_ | _), (_ | ⟨hv, (_ | _)⟩)⟩)
  obtain ⟨a, vs, rfl, hL, t⟩ := r.asList hv hl
  exact join_listC hL t.strs hx hz fun t' k => r.post h .str
theorem WO.rstrip {x : Str} (hx : x.length ≤ sizeLine) (h : Q (.str (Txt.rstrip x)) σ) : WO c (fun ws => call (.builtin "str.rstrip") ws) [.str x] Q σ := by
  refine ⟨?_⟩; rintro T Z R s _ r (_ | ⟨(_ | _), (_ | _)⟩)
  exact SCL.rstrip (fun _ _ _ => r.post h .str) hx
theorem WO.endswith {x y : Str} (h : Q (.bool (Txt.endswith x y)) σ) : WO c (fun ws => call (.builtin "str.endswith") ws) [.str x, .str y] Q σ := by
  refine ⟨?_⟩; rintro T Z R s _ r (_ | ⟨(_ | _), (_ | ⟨(_ | _), (_ | _)⟩)⟩)
  exact SC.endswith (r.post0 h .bool)

-- items of lists
theorem WO2.itemL {value slice : Expr} {l : PV} {xs : List PV} {k : Int} {x : PV} (hl : σ.lst? l = some xs) (h0 : 0 ≤ k) (h1 : k < 2 ^ 63) (hx : xs[k.toNat]? = some x) (h : Q x σ)
    (hs : ∀ o j, subscripted slice false o j = operate [o, j] (getItem o j) := by intros; rfl) (ht : ∀ o r, letTemporaryGo value o r = pure () := by intros; rfl) : WO2 c (subscriptTail value slice) l (.int k) Q σ := by
  refine ⟨?_⟩; rintro T Z R s v _ r hv (_ | _)
  obtain ⟨a, vs, rfl, hL, t⟩ := r.asList hv hl
  obtain ⟨u, hu, hvu⟩ := t.get hx
  exact item_listL hL h0 h1 hu (r.post0 h hvu) (hs _ _) (ht _)

-- list.index of a str
theorem idxOf_ne {k : Str} : ∀ {ns : List Str} {j : Nat}, j < ns.idxOf k → ∀ (h2 : j < ns.length), (ns[j] == k) = false
  | n :: r, 0, h, _ => by
    by_cases e : n = k
    · subst e; simp at h
    · simpa using e
  | n :: r, j + 1, h, h2 => by
    by_cases e : n = k
    · subst e; simp at h
    · have h' : j < r.idxOf k := by
        rw [List.idxOf_cons] at h
        have : (n == k) = false := by simpa using e
        rw [this] at h
        simp only [cond_false] at h
        lia
      exact idxOf_ne h' (Nat.lt_of_succ_lt_succ h2)
theorem WO.index {l : PV} {ys : List Str} {x : Str} (hl : σ.lst? l = some (ys.map .str)) (hm : x ∈ ys) (hz : ys.length ≤ sizeLine) (h : Q (.int (ys.idxOf x : Nat)) σ) : WO c (fun ws => call (.builtin "list.index") ws) [l, .str x] Q σ := by
  refine ⟨?_⟩; rintro T Z R s _ r (_ | ⟨hv, (_ | ⟨(_ | _), (_ | _)⟩)⟩)
  rename_i t0
  obtain ⟨a, vs, k, rfl, e, t⟩ := r.exact hv hl
  have hst := t.strs
  have hlen : vs.length = ys.length := by rw [t.length]; simp
  have hj : ys.idxOf x < ys.length := List.idxOf_lt_length_iff.mpr hm
  have hat : ∀ (i : Nat) (hi : i < vs.length) (hi2 : i < ys.length), isStrOf x vs[i] = (ys[i] == x) := by
    intro i hi hi2
    have : (ys.map PV.str)[i]? = some (.str ys[i]) := by simp [hi2]
    obtain ⟨v, h1, h2⟩ := t.get this
    have h3 : vs[i] = v := by have := List.getElem?_eq_getElem hi; rw [this] at h1; exact Option.some.inj h1
    rw [h3]
    cases h2
    rfl
  refine call_meets PySem.F.slot_list_index ⟨_, e, rfl⟩ PySem.F.entry_list_index (PySem.F.args_list_index_2 _ _)
    (PySem.MeetsSeq.list_index a vs.toArray k (.str x t0) (isStrOf x) (fun y hy => eq_isStrOf x t0 hst y (by simpa using hy)) (ys.idxOf x) (by simpa [hlen] using hj) (by have := PySem.sizeLine_eq; lia) ?_ ?_) ⟨e, r.post h .int⟩
  · show isStrOf x vs[ys.idxOf x] = true
    rw [hat _ (by lia) hj]
    simpa using List.getElem_idxOf hj
  · intro j hjs hlt
    show isStrOf x vs[j] = false
    rw [hat j (by simpa using hjs) (by lia)]
    exact idxOf_ne hlt _
end
end Mine
end
section
open PySem PySem.W PySem.Calls PyProof.Rows PySem.Spec
namespace Mine
theorem WA.cons_ {c : Cx} {e : Expr} {es : List Expr} {Q : List PV → St → Prop} {σ : St} (h : WE c (eval e c.env) (fun a σ1 => WA c es (fun as σ2 => Q (a :: as) σ2) σ1) σ) : WA c (e :: es) Q σ := h
theorem WA.nil_ {c : Cx} {Q : List PV → St → Prop} {σ : St} (h : Q [] σ) : WA c [] Q σ := h
theorem WP.none_ {c : Cx} {Q : Option Int → St → Prop} {σ : St} (h : Q none σ) : WP c none Q σ := h
theorem WP.some_ {c : Cx} {e : Expr} {Q : Option Int → St → Prop} {σ : St} (h : WE c (eval e c.env) (fun b σ1 => ∃ i, b = .int i ∧ Q (some i) σ1) σ) : WP c (some e) Q σ := h
theorem WE.neg1 {c : Cx} {i : Int} {k : Nat} {p pos : Pos} {Q : PV → St → Prop} {σ : St} (h : Q (.int (-i)) σ) : WE c (eval (.UnaryOp .USub (.Constant (.int i) k p) pos) c.env) Q σ :=
  WE.un (WE.int (WO1.negI h))
end Mine
end
section
open PySem PySem.W PySem.Calls PyProof.Rows PySem.Spec
namespace Mine
open PySem.Builtin PySem.Builtin.Str

noncomputable def S (l : List Nat) : Str := ⟨l.toArray⟩
theorem S_list (l : List Nat) : (S l).cps.toList = l := by simp [S]
theorem S_len (l : List Nat) : (S l).length = l.length := by simp [S, Str.length]
theorem S_cat (a b : List Nat) : S a ++ S b = S (a ++ b) := by
  apply Str.ext'; rw [Str.cps_append]; simp [S]
theorem S_of (x : Str) : x = S x.cps.toList := by cases x; simp [S]
theorem S_inj {a b : List Nat} : S a = S b ↔ a = b := by
  constructor
  · intro h; have := congrArg (fun x => x.cps.toList) h; simpa [S] using this
  · intro h; rw [h]
theorem S_beq (a b : List Nat) : (S a == S b) = (a == b) := by
  rw [Bool.eq_iff_iff]; simp [S_inj]
theorem S_bne (a b : List Nat) : (S a != S b) = (a != b) := by
  simp only [bne, S_beq]
theorem S_one (k : Nat) : (⟨#[k]⟩ : Str) = S [k] := rfl
theorem S_any (ys : List (List Nat)) (x : List Nat) : ((ys.map S).any fun y => y == S x) = ys.contains x := by
  induction ys with
  | nil => rfl
  | cons y ys ih =>
    simp only [List.map_cons, List.any_cons, ih, S_beq, List.contains_cons]
    rw [show (y == x) = (x == y) from by rw [Bool.eq_iff_iff, beq_iff_eq, beq_iff_eq]; exact eq_comm]
theorem S_idx (ys : List (List Nat)) (x : List Nat) : (ys.map S).idxOf (S x) = ys.idxOf x := by
  induction ys with
  | nil => rfl
  | cons y ys ih => simp only [List.map_cons, List.idxOf_cons, ih, S_beq]

-- slices
theorem indices_min {a b n : Nat} : strSliceIndices (some (a : Int)) (some (b : Int)) 1 n = strSliceIndices (some ((min a n : Nat) : Int)) (some ((min b n : Nat) : Int)) 1 n := by
  have h1 : ¬ ((a : Int) < 0) := by lia
  have h2 : ¬ ((b : Int) < 0) := by lia
  have h3 : ¬ (((min a n : Nat) : Int) < 0) := by lia
  have h4 : ¬ (((min b n : Nat) : Int) < 0) := by lia
  have e1 : max (0 : Int) (min (a : Int) (n : Int)) = ((min a n : Nat) : Int) := by lia
  have e2 : max (0 : Int) (min (b : Int) (n : Int)) = ((min b n : Nat) : Int) := by lia
  have e3 : max (0 : Int) (min ((min a n : Nat) : Int) (n : Int)) = ((min a n : Nat) : Int) := by lia
  have e4 : max (0 : Int) (min ((min b n : Nat) : Int) (n : Int)) = ((min b n : Nat) : Int) := by lia
  simp only [strSliceIndices, h1, h2, h3, h4, if_false, show (1 : Int) > 0 from by decide, if_true, e1, e2, e3, e4]
theorem slice_nat (l : List Nat) {a b : Nat} (hab : a ≤ b) : Txt.slice (S l) (some (a : Int)) (some (b : Int)) = S ((l.drop a).take (b - a)) := by
  have hle : min a l.length ≤ min b l.length := by lia
  have key : (strSliceIndices (some (a : Int)) (some (b : Int)) 1 (S l).length).filterMap ((S l).cps[·]?) = (l.drop a).take (b - a) := by
    rw [S_len, indices_min, ← S_len l, StrLaws.sliced_plain (S l) (by rw [S_len]; exact hle) (by rw [S_len]; lia), S_list, S_len]
    by_cases h : a ≤ l.length
    · rw [Nat.min_eq_left h]
      by_cases h2 : b ≤ l.length
      · rw [Nat.min_eq_left h2]
      · rw [Nat.min_eq_right (by lia), List.take_of_length_le (by simp), List.take_of_length_le (by simp; lia)]
    · rw [Nat.min_eq_right (by lia : l.length ≤ a), Nat.min_eq_right (by lia : l.length ≤ b), List.drop_of_length_le (Nat.le_refl _), List.drop_of_length_le (by lia : l.length ≤ a)]
      simp
  unfold Txt.slice
  split
  · rename_i h
    simp only [beq_self_eq_true, Bool.true_and, beq_iff_eq] at h
    rw [S_len, indices_min, StrLaws.strSliceIndices_plain hle (Nat.min_le_right _ _)] at h
    simp only [List.length_map, List.length_range] at h
    by_cases h0 : l.length = 0
    · have : l = [] := List.eq_nil_of_length_eq_zero h0
      subst this; simp
    · have ha : a = 0 := by lia
      have hb : l.length ≤ b := by lia
      subst ha
      rw [List.drop_zero, Nat.sub_zero, List.take_of_length_le hb]
  · rw [key]; rfl
theorem slice_to (l : List Nat) {b : Nat} : Txt.slice (S l) none (some (b : Int)) = S (l.take b) := by
  have e : Txt.slice (S l) none (some (b : Int)) = Txt.slice (S l) (some ((0 : Nat) : Int)) (some (b : Int)) := by
    unfold Txt.slice; rw [StrLaws.sliceIdx_none_lo]; rfl
  rw [e, slice_nat l (Nat.zero_le _)]; simp
theorem slice_from (l : List Nat) {a : Nat} (h : a ≤ l.length) : Txt.slice (S l) (some (a : Int)) none = S (l.drop a) := by
  have e : Txt.slice (S l) (some (a : Int)) none = Txt.slice (S l) (some (a : Int)) (some (l.length : Int)) := by
    unfold Txt.slice; rw [StrLaws.sliceIdx_none_hi, S_len]
  rw [e, slice_nat l h, List.take_of_length_le (by simp)]
theorem slice_neg_hi (l : List Nat) (lo : Option Int) (h : 1 ≤ l.length) : Txt.slice (S l) lo (some (-1)) = Txt.slice (S l) lo (some ((l.length - 1 : Nat) : Int)) := by
  unfold Txt.slice
  have e : (-1 : Int) + (l.length : Int) = ((l.length - 1 : Nat) : Int) := by lia
  rw [S_len, StrLaws.sliceIdx_neg_hi lo l.length (by lia) (by lia), e]
theorem slice_neg_lo (l : List Nat) (h : 1 ≤ l.length) : Txt.slice (S l) (some (-1)) none = S (l.drop (l.length - 1)) := by
  have e : (-1 : Int) + (l.length : Int) = ((l.length - 1 : Nat) : Int) := by lia
  have e2 : Txt.slice (S l) (some (-1)) none = Txt.slice (S l) (some ((l.length - 1 : Nat) : Int)) none := by
    unfold Txt.slice
    rw [S_len, StrLaws.sliceIdx_neg_lo none l.length (by lia) (by lia), e]
  rw [e2, slice_from l (by lia)]
theorem slice_init (l : List Nat) (h : 1 ≤ l.length) : Txt.slice (S l) none (some (-1)) = S l.dropLast := by
  rw [slice_neg_hi l none h, slice_to, List.dropLast_eq_take]
theorem slice_from_init (l : List Nat) {a : Nat} (h : a + 1 ≤ l.length) : Txt.slice (S l) (some (a : Int)) (some (-1)) = S (l.drop a).dropLast := by
  rw [slice_neg_hi l _ (by lia), slice_nat l (by lia), List.dropLast_eq_take, List.length_drop]
  congr 2
  lia

-- items
theorem item_nat (l : List Nat) {i c : Nat} (h : l[i]? = some c) : Txt.item (S l) (i : Int) = S [c] := by
  have hi : i < l.length := (List.getElem?_eq_some_iff.mp h).1
  unfold Txt.item Txt.charAt
  rw [StrLaws.seqIndex_nonneg (by lia) (by rw [S_len]; lia)]
  simp [S, h]
theorem item_last (l : List Nat) {c : Nat} (h : l.getLast? = some c) : Txt.item (S l) (-1) = S [c] := by
  have hl : 1 ≤ l.length := by cases l with | nil => cases h | cons => simp
  unfold Txt.item Txt.charAt
  rw [StrLaws.seqIndex_neg (by lia) (by rw [S_len]; lia), S_len]
  have e : ((-1 : Int) + (l.length : Int)).toNat = l.length - 1 := by lia
  rw [e]
  rw [List.getLast?_eq_getElem?] at h
  simp [S, h]

-- membership
theorem in_one (l : List Nat) (c : Nat) : (!(occurrences (S l) (S [c]) 0 (S l).length 1).isEmpty) = l.contains c := by
  have := StrLaws.found_one (S l) c
  rw [S_list] at this
  rw [show S [c] = ⟨#[c]⟩ from rfl, this]
  simp [List.contains_eq_mem]

-- split, join
noncomputable def splitNL : List Nat → List (List Nat)
  | [] => [[]]
  | c :: r => if c = 10 then [] :: splitNL r else match splitNL r with
    | [] => [[c]]
    | p :: ps => (c :: p) :: ps
noncomputable def joinL (sep : List Nat) : List (List Nat) → List Nat
  | [] => []
  | [x] => x
  | x :: r => x ++ sep ++ joinL sep r
theorem splitNL_ne : ∀ l, splitNL l ≠ []
  | [] => by simp [splitNL]
  | c :: r => by
    unfold splitNL
    split
    · simp
    · split <;> simp
theorem join_S (sep : List Nat) : ∀ ys : List (List Nat), Str.join (S sep) (ys.map S) = S (joinL sep ys)
  | [] => rfl
  | [x] => rfl
  | x :: y :: r => by
    have ih := join_S sep (y :: r)
    simp only [List.map_cons] at ih ⊢
    rw [show Str.join (S sep) (S x :: S y :: r.map S) = S x ++ S sep ++ Str.join (S sep) (S y :: r.map S) from rfl, ih, S_cat, S_cat]
    rfl
theorem split_unique : ∀ (ps : List (List Nat)), ps ≠ [] → (∀ p ∈ ps, (10 : Nat) ∉ p) → splitNL (joinL [10] ps) = ps := by
  intro ps
  induction ps with
  | nil => intro h; exact absurd rfl h
  | cons p ps ih =>
    intro _ hf
    have one : ∀ (p : List Nat) (rest : List Nat), (10 : Nat) ∉ p → ∀ q qs, splitNL rest = q :: qs → splitNL (p ++ rest) = (p ++ q) :: qs := by
      intro p
      induction p with
      | nil => intro rest _ q qs h; exact h
      | cons c p ihp =>
        intro rest hp q qs h
        have h1 := ihp rest (fun hm => hp (.tail _ hm)) q qs h
        have hc : c ≠ 10 := fun e => hp (by rw [e]; exact .head _)
        rw [List.cons_append, splitNL, if_neg hc, h1]
        rfl
    cases ps with
    | nil =>
      have := one p [] (hf p (.head _)) [] [] rfl
      simpa [joinL] using this
    | cons q qs =>
      have ih' := ih (by simp) (fun x hx => hf x (.tail _ hx))
      show splitNL (p ++ [10] ++ joinL [10] (q :: qs)) = _
      rw [List.append_assoc, one p ([10] ++ joinL [10] (q :: qs)) (hf p (.head _)) [] (q :: qs) (by rw [List.cons_append, List.nil_append, splitNL, if_pos rfl, ih'])]
      simp
theorem split_S (l : List Nat) : Txt.split (S l) (S [10]) = (splitNL l).map S := by
  have hf := StrLaws.split_free (S l) 10
  have hj := StrLaws.join_split (S l) ⟨#[10]⟩
  rw [show (⟨#[10]⟩ : Str) = S [10] from rfl] at hf hj
  have e : Txt.split (S l) (S [10]) = ((Txt.split (S l) (S [10])).map fun x => x.cps.toList).map S := by
    rw [List.map_map]
    conv => lhs; rw [← List.map_id (Txt.split (S l) (S [10]))]
    apply List.map_congr_left
    intro x _
    exact S_of x
  rw [e, join_S] at hj
  have hj' := S_inj.mp hj
  have hne : (Txt.split (S l) (S [10])).map (fun x => x.cps.toList) ≠ [] := by
    intro h
    rw [List.map_eq_nil_iff] at h
    rw [h] at hj'
    simp only [List.map_nil, joinL] at hj'
    subst hj'
    revert h; decide +kernel
  have hu := split_unique _ hne (fun p hp => by
    obtain ⟨x, hx, rfl⟩ := List.mem_map.mp hp
    exact hf x hx)
  rw [hj'] at hu
  rw [e, hu]
theorem splitNL_free : ∀ (l : List Nat), ∀ p ∈ splitNL l, (10 : Nat) ∉ p := by
  intro l
  induction l with
  | nil => intro p hp; simp [splitNL] at hp; subst hp; simp
  | cons c r ih =>
    intro p hp
    unfold splitNL at hp
    split at hp
    · rcases List.mem_cons.mp hp with rfl | h
      · simp
      · exact ih p h
    · rename_i hc
      split at hp
      · rename_i h; exact absurd h (splitNL_ne r)
      · rename_i q qs h
        rcases List.mem_cons.mp hp with rfl | h'
        · intro hm
          rcases List.mem_cons.mp hm with e | hm
          · exact hc e.symm
          · exact ih q (by rw [h]; exact .head _) hm
        · exact ih p (by rw [h]; exact .tail _ h')
theorem splitNL_join : ∀ (l : List Nat), joinL [10] (splitNL l) = l := by
  intro l
  induction l with
  | nil => rfl
  | cons c r ih =>
    unfold splitNL
    split
    · rename_i hc
      subst hc
      cases h : splitNL r with
      | nil => exact absurd h (splitNL_ne r)
      | cons q qs => rw [h] at ih; show [] ++ [10] ++ joinL [10] (q :: qs) = _; rw [ih]; rfl
    · split
      · rename_i h; exact absurd h (splitNL_ne r)
      · rename_i q qs h
        rw [h] at ih
        cases qs with
        | nil => simp only [joinL] at ih ⊢; rw [ih]
        | cons q2 qs => simp only [joinL, List.cons_append] at ih ⊢; rw [ih]
theorem joined (sep : List Nat) (ys : List (List Nat)) : Txt.join (S sep) (ys.map S) = S (joinL sep ys) := by
  have : Txt.join (S sep) (ys.map S) = Str.join (S sep) (ys.map S) := by
    first
    | rfl
    | exact StrLaws.glued_eq_join _ _
  rw [this, join_S]
theorem replace_S (l z : List Nat) : Txt.replace (S l) (S [10]) (S z) = S (joinL z (splitNL l)) := by
  have := StrLaws.replace_one (S l) (S z) 10
  rw [show (⟨#[10]⟩ : Str) = S [10] from rfl] at this
  rw [this, split_S, join_S]
end Mine
end
section
open PySem PySem.W PySem.Calls PyProof.Rows PySem.Spec
namespace Mine
theorem ty_str_split : typeOf (.builtin "str.split") = pure (.type "method_descriptor") := by show builtinType _ = _; rw [builtinType_eq_fast]; kernel_rfl
theorem ty_str_join : typeOf (.builtin "str.join") = pure (.type "method_descriptor") := by show builtinType _ = _; rw [builtinType_eq_fast]; kernel_rfl
theorem ty_str_rstrip : typeOf (.builtin "str.rstrip") = pure (.type "method_descriptor") := by show builtinType _ = _; rw [builtinType_eq_fast]; kernel_rfl
theorem ty_str_endswith : typeOf (.builtin "str.endswith") = pure (.type "method_descriptor") := by show builtinType _ = _; rw [builtinType_eq_fast]; kernel_rfl
theorem ty_str_splitlines : typeOf (.builtin "str.splitlines") = pure (.type "method_descriptor") := by show builtinType _ = _; rw [builtinType_eq_fast]; kernel_rfl
theorem ty_str_replace : typeOf (.builtin "str.replace") = pure (.type "method_descriptor") := by show builtinType _ = _; rw [builtinType_eq_fast]; kernel_rfl
theorem ty_str_translate : typeOf (.builtin "str.translate") = pure (.type "method_descriptor") := by show builtinType _ = _; rw [builtinType_eq_fast]; kernel_rfl
theorem ty_list_append : typeOf (.builtin "list.append") = pure (.type "method_descriptor") := by show builtinType _ = _; rw [builtinType_eq_fast]; kernel_rfl
theorem ty_list_pop : typeOf (.builtin "list.pop") = pure (.type "method_descriptor") := by show builtinType _ = _; rw [builtinType_eq_fast]; kernel_rfl
theorem ty_list_extend : typeOf (.builtin "list.extend") = pure (.type "method_descriptor") := by show builtinType _ = _; rw [builtinType_eq_fast]; kernel_rfl
theorem ty_list_index : typeOf (.builtin "list.index") = pure (.type "method_descriptor") := by show builtinType _ = _; rw [builtinType_eq_fast]; kernel_rfl
theorem ty_dict_get : typeOf (.builtin "dict.get") = pure (.type "method_descriptor") := by show builtinType _ = _; rw [builtinType_eq_fast]; kernel_rfl
section
variable {c : Cx} {T Z R : List (Addr × Obj)} {σ : St} {s : Shared} {n : Nat} {Q : PV → St → Prop}

theorem WO2.itemL' {value slice : Expr} {l : PV} {xs : List PV} {k : Int} {x : PV} (hl : σ.lst? l = some xs) (h0 : 0 ≤ k) (h1 : k < 2 ^ 63) (hx : xs[k.toNat]? = some x) (h : Q x σ)
    (hs : ∀ o j, subscripted slice false o j = operate [o, j] (getItem o j) := by intros; rfl) : WO2 c (subscriptTail value slice) l (.int k) Q σ := by
  refine ⟨?_⟩; intro T Z R s v u r hv hu
  refine kba_turn (value' := PySem.Expr.Name (PySem.Str.ofString "_") ⟨0, 0, 0, 0⟩) (fun _ => rfl) ?_
  exact (WO2.itemL hl h0 h1 hx h hs (fun _ _ => rfl)).run T Z R s v u r hv hu

theorem fdivN (a b : Nat) : (a : Int).fdiv (b : Int) = ((a / b : Nat) : Int) := by rw [Int.fdiv_eq_ediv_of_nonneg _ (by lia)]; rfl
theorem fmodN (a b : Nat) : (a : Int).fmod (b : Int) = ((a % b : Nat) : Int) := by rw [Int.fmod_eq_emod_of_nonneg _ (by lia)]; rfl
theorem fits_nat {k : Nat} (h : k < 9223372036854775808) : fitsSsize (k : Int) = true := fitsSsize_of (N := 9223372036854775808) (by lia) (by lia) (Int.le_refl _)
/-- an item of a text, by a number that is no sign's loss -/
theorem WO2.itemN {value slice : Expr} {l : List Nat} {i : Int} {k c₁ : Nat} (he : i = (k : Int)) (hk : l[k]? = some c₁) (hl : l.length < 9223372036854775808) (h : Q (.str (S [c₁])) σ)
    (hs : ∀ o j, subscripted slice false o j = operate [o, j] (getItem o j) := by intros; rfl) (hg : ∀ x t r, letTemporaryGo value (.str x t) r = pure () := by intros; rfl) : WO2 c (subscriptTail value slice) (.str (S l)) (.int i) Q σ := by
  subst he
  have hlt : k < l.length := (List.getElem?_eq_some_iff.mp hk).1
  refine WO2.itemS (fits_nat (by lia)) (by rw [S_len]; lia) (by rw [S_len]; lia) ?_ hs hg
  rw [item_nat l hk]; exact h
theorem WO2.itemLast {value slice : Expr} {l : List Nat} {c₁ : Nat} (hk : l.getLast? = some c₁) (h : Q (.str (S [c₁])) σ)
    (hs : ∀ o j, subscripted slice false o j = operate [o, j] (getItem o j) := by intros; rfl) (hg : ∀ x t r, letTemporaryGo value (.str x t) r = pure () := by intros; rfl) : WO2 c (subscriptTail value slice) (.str (S l)) (.int (-1)) Q σ := by
  have hl : 1 ≤ l.length := by cases l with | nil => cases hk | cons => simp
  refine WO2.itemS (by decide) (by rw [S_len]; lia) (by rw [S_len]; lia) ?_ hs hg
  rw [item_last l hk]; exact h

-- methods
theorem WE.methS {o : Expr} {name : Str} {apos pos : Pos} {args : List Expr} {id : String} (hS : Slot "str" name id) (ht : typeOf (.builtin id) = pure (.type "method_descriptor"))
    (h : WE c (eval o c.env) (fun a σ1 => ∃ x, a = .str x ∧ WA c args (fun vs σ2 => WO c (fun ws => call (.builtin id) ws) (.str x :: vs) Q σ2) σ1) σ)
    (ha : attributeBase o name c.env (eval o c.env) = eval o c.env := by rfl) (hs : noStars args = true := by rfl) (hl : decide (args.length + 0 + 0 < 30) = true := by rfl)
    (hp : (apos.endLine == pos.line) = true := by rfl) : WE c (eval (.Call (.Attribute o name apos) args [] pos) c.env) Q σ :=
  WE.method PySem.F.plainAttrs_str hS ht (WE.mono h fun _ _ ⟨x, e, h'⟩ => by subst e; exact ⟨strSelf, h'⟩) ha hs hl hp
theorem lstSelf {v : PV} {xs : List PV} (hx : σ.lst? v = some xs) : ∀ T' Z' R' s' w, Rel c T' Z' R' σ s' → VR (ads T') Z' w v → s'.TypeIs w "list" ∧ ∀ y, w = .ref y → ∃ ob, s'.heap.get? y = some ob ∧ ob.dict = none := by
  intro T' Z' R' s' w r hv
  obtain ⟨D, vs, k, rfl, h2, t⟩ := r.exact hv hx
  exact ⟨⟨_, h2, rfl⟩, fun y e => by cases e; exact ⟨_, h2, rfl⟩⟩
theorem WE.methL {o : Expr} {name : Str} {apos pos : Pos} {args : List Expr} {id : String} (hS : Slot "list" name id) (ht : typeOf (.builtin id) = pure (.type "method_descriptor"))
    (h : WE c (eval o c.env) (fun a σ1 => (σ1.lst? a).isSome = true ∧ WA c args (fun vs σ2 => WO c (fun ws => call (.builtin id) ws) (a :: vs) Q σ2) σ1) σ)
    (ha : attributeBase o name c.env (eval o c.env) = eval o c.env := by rfl) (hs : noStars args = true := by rfl) (hl : decide (args.length + 0 + 0 < 30) = true := by rfl)
    (hp : (apos.endLine == pos.line) = true := by rfl) : WE c (eval (.Call (.Attribute o name apos) args [] pos) c.env) Q σ :=
  WE.method PySem.F.plainAttrs_list hS ht (WE.mono h fun _ _ ⟨e, h'⟩ => ⟨lstSelf (Option.some_get e).symm, h'⟩) ha hs hl hp

noncomputable def thn (Q2 : St → Prop) (Q : PF → St → Prop) : PF → St → Prop
  | .next, σ => Q2 σ
  | .cont, σ => Q .cont σ
  | .ret v, σ => Q (.ret v) σ
theorem thn_next {Q2 : St → Prop} {Q : PF → St → Prop} (h : Q2 σ) : thn Q2 Q .next σ := h
theorem thn_cont {Q2 : St → Prop} {Q : PF → St → Prop} (h : Q .cont σ) : thn Q2 Q .cont σ := h
theorem thn_ret {Q2 : St → Prop} {Q : PF → St → Prop} {v : PV} (h : Q (.ret v) σ) : thn Q2 Q (.ret v) σ := h
theorem WS.seq {st : Stmt} {rest : List Stmt} {Q : PF → St → Prop} (h : WS c (exec st c.env) (thn (WS c (execs rest c.env) Q) Q) σ) : WS c (execs (st :: rest) c.env) Q σ :=
  WS.cons (WS.mono h fun f σ' h' => by cases f <;> exact h')

noncomputable def fdOf (st : Stmt) : FD := match st with
  | .FunctionDef _ args body _ _ _ scope _ _ _ => ⟨args, body, scope⟩
  | _ => ⟨⟨[], [], none, [], [], none, []⟩, [], default⟩
noncomputable def stmtNo (i : Nat) : Stmt := PySem.Challenge.pw_rs0178_01.main.body.getD i (.Pass default)
noncomputable def fd_unquote : FD := fdOf (stmtNo 14)
noncomputable def fd_quote : FD := fdOf (stmtNo 15)
noncomputable def fd_encode : FD := fdOf (stmtNo 19)
noncomputable def fd_decode : FD := fdOf (stmtNo 20)
noncomputable def fd_operators : FD := fdOf (stmtNo 71)
noncomputable def fd_behind : FD := fdOf (stmtNo 72)
noncomputable def fd_read : FD := fdOf (stmtNo 73)
noncomputable def fd_escape : FD := fdOf (stmtNo 74)
noncomputable def fd_rows : FD := fdOf (stmtNo 75)
noncomputable def fd_part : FD := fdOf (stmtNo 76)
noncomputable def fd_numbers : FD := fdOf (stmtNo 77)
noncomputable def fd_once : FD := fdOf (stmtNo 78)
noncomputable def fd_law : FD := fdOf (stmtNo 79)

-- the plain functions
noncomputable def hexd (k : Nat) : Nat := if k < 10 then 48 + k else 55 + k
noncomputable def hexs : List Nat := [48,49,50,51,52,53,54,55,56,57,65,66,67,68,69,70]
noncomputable def OPS : List (List Nat) := [[40],[41],[91],[93],[58],[44],[59],[43],[45],[42],[47],[124],[38],[60],[62],[61],[46],[37],[123],[125],[61,61],[33,61],[60,61],[62,61],[126],[94],[60,60],[62,62],[42,42],[43,61],[45,61],[42,61],[47,61],[37,61],[38,61],[124,61],[94,61],[60,60,61],[62,62,61],[42,42,61],[47,47],[47,47,61],[64],[64,61],[45,62],[46,46,46],[58,61],[33]]
theorem hexs_get {k : Nat} (h : k < 16) : hexs[k]? = some (hexd k) := by
  have : ∀ k : Fin 16, hexs[k.val]? = some (hexd k.val) := by decide
  exact this ⟨k, h⟩
noncomputable def esc (k : Nat) : List Nat := [61, hexd (k / 16), hexd (k % 16)]
noncomputable def signs : List Nat := [33,37,38,40,41,42,43,44,45,46,47,58,59,60,61,62,64,91,93,94,123,124,125,126,13,10]
noncomputable def behindOf (kind : Nat) (k : Nat) : List Nat := match kind with
  | 0 => [97] | 1 => [32] | 2 => [9] | 3 => [233] | 4 => [10,10,9,10] | 5 => [32,10] | 6 => [9,32,10]
  | _ => if signs.contains k then [107] else [k]
noncomputable def behind (x : Int) : List Nat := behindOf ((x.fdiv 48).fmod 8).toNat ((x.fdiv 384).fmod 256).toNat
theorem cleansS {α} (f : α → Str) (ys : List α) : PV.cleans (ys.map fun y => PV.str (f y)) := by
  induction ys with
  | nil => trivial
  | cons y ys ih => exact ⟨trivial, ih⟩
theorem cleansS' (ys : List Str) : PV.cleans (ys.map .str) := cleansS id ys
theorem cleansI (ys : List Int) : PV.cleans (ys.map .int) := by
  induction ys with
  | nil => trivial
  | cons y ys ih => exact ⟨trivial, ih⟩
theorem sign_in {k : Nat} : (!(Builtin.Str.occurrences (Str.ofString "!%&()*+,-./:;<=>@\x5b]^{|}~\r\n") (S [k]) 0 (Str.ofString "!%&()*+,-./:;<=>@\x5b]^{|}~\r\n").length 1).isEmpty) = signs.contains k := in_one signs k
theorem ops_split : Txt.split (Str.ofString "( ) [ ] : , ; + - * / | & < > = . % { } == != <= >= ~ ^ << >> ** += -= *= /= %= &= |= ^= <<= >>= **= // //= @ @= -> ... := !") (Str.ofString " ") = OPS.map S := by decide +kernel
end
/-- a dict of texts to numbers -/
structure TokAt (g : Gl) (x : Str) : Prop where
  at_ : ∃ (d : Addr) (es : Array DictEntry) (n : Nat), nsIn g.K mainGlobals x = some (some (.ref d)) ∧ g.K.lookup d = some ⟨.type "dict", none, .dict es n, #[]⟩ ∧ KeysLit g.w.params es.toList ∧ (d == sysModules) = false ∧
    (∀ l, ∃ t, findBy Value.isStrOf es (S l) = if OPS.contains l then some (.int ((7 + OPS.idxOf l : Nat) : Int) t) else none)
structure GF (g : Gl) : Prop where
  ord : nsIn g.K mainGlobals "ord" = some none
  chr : nsIn g.K mainGlobals "chr" = some none
  len : nsIn g.K mainGlobals "len" = some none
  int : nsIn g.K mainGlobals "int" = some none
  sum : nsIn g.K mainGlobals "sum" = some none
  escape : FnAt g.K "_law_escape" fd_escape 1 ["sign"] []
  part : FnAt g.K "_law_part" fd_part 2 ["part", "operators"] []
  tok : TokAt g "EXACT_TOKEN_TYPES"
section
variable {c : Cx} {T Z R : List (Addr × Obj)} {σ : St} {s : Shared} {n : Nat} {Q : PV → St → Prop}
theorem WO2.isubI {a b : Int} (h : Q (.int (a - b)) σ) : WO2 c (inplaceOp .Sub) (.int a) (.int b) Q σ := by
  refine ⟨?_⟩; rintro T Z R s _ _ r (_ | _) (_ | _); exact isub_int (r.post h .int)
theorem WO2.notInD {l : List Nat} {d : Addr} {es : Array DictEntry} {k : Nat} (ok : c.Ok n) (hl : c.g.K.lookup d = some ⟨.type "dict", none, .dict es k, #[]⟩) (hk : KeysLit c.g.w.params es.toList) (hd : (d == sysModules) = false)
    (hf : ∃ t, findBy Value.isStrOf es (S l) = if OPS.contains l then some (.int ((7 + OPS.idxOf l : Nat) : Int) t) else none) (h : Q (.bool (!OPS.contains l)) σ) : WO2 c (compareOp .NotIn) (.str (S l)) (.raw (.ref d)) Q σ := by
  refine ⟨?_⟩; rintro T Z R s _ _ r (_ | _) (_ | _)
  obtain ⟨t, hf⟩ := hf
  refine wpAny_notIn_of (strKind_is c.g.prog c.g.w _ _) hd (mapOf_K (r.K ok) hl hk) ?_
  have e : (!(findBy Value.isStrOf es (S l)).isSome) = !OPS.contains l := by rw [hf]; cases OPS.contains l <;> rfl
  rw [e]
  exact r.post h .bool
theorem WE.notInTok {l : Expr} {x : Str} {p pos : Pos} (ok : c.Ok n) (G : TokAt c.g x) {Q : Bool → St → Prop} {whole : Sem Value}
    (h : WE c (eval l c.env) (fun a σ1 => ∃ y, a = .str (S y) ∧ Q (!OPS.contains y) σ1) σ) (hx : c.env.kindOf x = some .globalImplicit := by rfl) (hd : (x == ("__debug__" : Str)) = false := by decide)
    (hb : behindInMarks .NotIn (.Name x p) = false := by rfl) : WT c (isTrue (.Compare l [.NotIn] [.Name x p] pos) c.env whole) Q σ := by
  obtain ⟨d, es, k, e1, e2, e3, e4, e5⟩ := G.at_
  refine WT.cmp (WE.mono h ?_) hb
  rintro a σ1 ⟨y, rfl, q⟩
  exact WE.global ok e1 (WO2.notInD ok e2 e3 e4 (e5 y) ⟨_, rfl, q⟩) hx hd
theorem WE.getTok {x : Str} {p apos pos : Pos} {a₁ a₂ : Expr} (ok : c.Ok n) (G : TokAt c.g x)
    (h : WE c (eval a₁ c.env) (fun a σ1 => ∃ y, a = .str (S y) ∧ WE c (eval a₂ c.env) (fun b σ2 => ∃ i, b = .int i ∧ Q (.int (if OPS.contains y then ((7 + OPS.idxOf y : Nat) : Int) else i)) σ2) σ1) σ)
    (hx : c.env.kindOf x = some .globalImplicit := by rfl) (hd : (x == ("__debug__" : Str)) = false := by decide) (hs : noStars [a₁, a₂] = true := by rfl)
    (hp : (apos.endLine == pos.line) = true := by rfl) : WE c (eval (.Call (.Attribute (.Name x p) "get" apos) [a₁, a₂] [] pos) c.env) Q σ := by
  obtain ⟨d, es, k, e1, e2, e3, e4, e5⟩ := G.at_
  refine WE.method PySem.F.plainAttrs_dict PySem.F.slot_dict_get ty_dict_get (WE.global ok e1 ⟨?_, ?_⟩ hx hd) rfl hs rfl hp
  · rintro T' Z' R' s' _ r (_ | _)
    have X := r.K ok _ _ e2
    exact ⟨⟨_, X, rfl⟩, fun y e => by cases e; exact ⟨_, X, rfl⟩⟩
  · refine WA.cons_ (WE.mono h ?_)
    rintro a σ1 ⟨y, rfl, q⟩
    refine WA.cons_ (WE.mono q ?_)
    rintro b σ2 ⟨i, rfl, q⟩
    refine WA.nil_ ?_
    refine ⟨?_⟩; rintro T Z R s _ r (_ | ⟨(_ | _), (_ | ⟨(_ | _), (_ | ⟨(_ | _), (_ | _)⟩)⟩)⟩)
    obtain ⟨t, hf⟩ := e5 y
    have hm := mapOf_K (prog := c.g.prog) (r.K ok) e2 e3
    refine call_meetsIn PySem.F.slot_dict_get hm.typeIs PySem.F.entry_dict_get (PySem.F.args_dict_get_3 _ _ _) (meets_dict_get_default _ d (strKind_is _ _ _ _) e4 _) ⟨_, hm, ?_⟩
    show Post _ _ _ _ _ ((findBy Value.isStrOf es (S y)).getD _) _
    rw [hf]
    split at q
    · rename_i hc; rw [if_pos hc]; exact r.post q .int
    · rename_i hc; rw [if_neg hc]; exact r.post q .int
theorem WO.lenS {l : List Nat} (hl : l.length < 9223372036854775808) (h : Q (.int l.length) σ) : WO c (fun ws => call (.builtin "len") ws) [.str (S l)] Q σ :=
  WO.len (by rw [S_len]; lia) (by rw [S_len]; exact h)
theorem ite_dec {P : Prop} [Decidable P] {X Y : Prop} (h1 : P → X) (h2 : ¬P → Y) : if decide P = true then X else Y := by
  split
  · rename_i h; exact h1 (of_decide_eq_true h)
  · rename_i h; exact h2 (fun hp => h (decide_eq_true hp))
theorem iteT {X Y : Prop} (h : X) : if true = true then X else Y := h
theorem iteF {X Y : Prop} (h : Y) : if false = true then X else Y := h
theorem some_int {i j : Int} (h : i = j) : some (PV.int i) = some (PV.int j) := by rw [h]
theorem ite_b {b : Bool} {X Y : Prop} (h1 : b = true → X) (h2 : b = false → Y) : if b = true then X else Y := by
  cases b with
  | true => exact h1 rfl
  | false => exact h2 rfl
theorem ite_nb {b : Bool} {X Y : Prop} (h1 : b = false → X) (h2 : b = true → Y) : if (!b) = true then X else Y := by
  cases b with
  | true => exact h2 rfl
  | false => exact h1 rfl
theorem WE.sliceN {value : Expr} {lo hi : Option Expr} {p pos : Pos}
    (h : WE c (eval value c.env) (fun a σ1 => ∃ l, a = .str (S l) ∧ l.length ≤ sizeLine ∧ WP c lo (fun i σ2 => WP c hi (fun j σ3 => Q (.str (Txt.slice (S l) i j)) σ3) σ2) σ1) σ) :
    WE c (eval (.Subscript value (.Slice lo hi none p) pos) c.env) Q σ :=
  WE.sliceS (WE.mono h fun _ _ ⟨l, e, hl, h'⟩ => ⟨S l, e, by rw [S_len]; exact hl, h'⟩)
noncomputable def lp (P : St → Prop) : PF → St → Prop
  | .ret _, _ => False
  | _, σ => P σ
theorem lp_next {P : St → Prop} (h : P σ) : lp P .next σ := h
theorem lp_cont {P : St → Prop} (h : P σ) : lp P .cont σ := h
theorem WS.whileD {test : Expr} {body : List Stmt} {pos : Pos} {Q : PF → St → Prop} (Inv : Nat → St → Prop) (Done : St → Prop) (k : Nat) (h0 : Inv k σ)
    (step : ∀ k σ, Inv k σ → WT c (isTrue test c.env (eval test c.env)) (fun b σ1 => if b = true then WS c (execs body c.env) (lp fun σ' => ∃ j, j < k ∧ Inv j σ') σ1 else Done σ1) σ) (hd : ∀ σ, Done σ → Q .next σ) :
    WS c (exec (.While test body [] pos) c.env) Q σ :=
  WS.while Inv k h0 fun k σ hi => WT.mono (step k σ hi) fun b σ' h => by
    cases b with
    | true => simp only [if_true] at h ⊢; exact WS.mono h fun f _ h => by cases f <;> exact h
    | false => simp only [Bool.false_eq_true, if_false] at h ⊢; exact hd _ h
theorem WS.forD {x : Str} {px pos : Pos} {iter : Expr} {body : List Stmt} {Q : PF → St → Prop} (Inv : List PV → St → Prop) (Done : St → Prop) (ok : c.Ok n) (hc : c.comp = none)
    (h : WE c (eval iter c.env) (fun pv σ1 => ∃ xs, items pv = some xs ∧ PV.cleans xs ∧ Inv [] σ1 ∧
      (∀ pre y post σ, xs = pre ++ y :: post → Inv pre σ → WS c (execs body c.env) (lp (Inv (pre ++ [y]))) (σ.set x y)) ∧ (∀ σ, Inv xs σ → Done σ)) σ) (hd : ∀ σ, Done σ → Q .next σ)
    (hk : c.env.kindOf x = some .local := by rfl) (hs : ∀ v, foldedSetIterable iter c.env v = pure v := by intro _; rfl) :
    WS c (exec (.For (.Name x px) iter body [] pos) c.env) Q σ :=
  WS.for Inv ok hc (WE.mono h fun pv σ1 ⟨xs, h1, h2, h3, h4, h5⟩ => ⟨xs, h1, h2, h3, fun pre y post σ e hi => WS.mono (h4 pre y post σ e hi) fun f _ h => by cases f <;> exact h, fun σ hi => hd σ (h5 σ hi)⟩) hk hs
noncomputable def St.frozen (σ : St) : St := ⟨fun y => (σ.loc y).map (PV.frz σ.H), [], fun _ => none⟩
theorem WS.frz {t : Sem Flow} {Q : PF → St → Prop} (hf : σ.flat) (h : WS c t Q σ.frozen) : WS c t Q σ := WS.le (St.Le.freeze hf) h
theorem frz_ref {x : Str} {i : Nat} {xs : List PV} (h1 : σ.loc x = some (.ref i)) (h2 : σ.H[i]? = some (.lst xs)) : σ.frozen.loc x = some (.lst xs) := by
  show (σ.loc x).map _ = _
  rw [h1, Option.map_some, PV.frz, h2]
theorem frz_str {x : Str} {l : Str} (h1 : σ.loc x = some (.str l)) : σ.frozen.loc x = some (.str l) := by
  show (σ.loc x).map _ = _
  rw [h1]; rfl
theorem frz_int {x : Str} {l : Int} (h1 : σ.loc x = some (.int l)) : σ.frozen.loc x = some (.int l) := by
  show (σ.loc x).map _ = _
  rw [h1]; rfl
theorem frz_lst {x : Str} {l : List PV} (h1 : σ.loc x = some (.lst l)) (hc : PV.frzs σ.H l = l) : σ.frozen.loc x = some (.lst l) := by
  show (σ.loc x).map _ = _
  rw [h1, Option.map_some, PV.frz, hc]
theorem lstq_ref {i : Nat} {xs : List PV} (h : σ.H[i]? = some (.lst xs)) : σ.lst? (.ref i) = some xs := by
  show (match σ.H[i]? with | some (.lst xs) => some xs | _ => none) = _
  rw [h]
theorem lstq_isSome {v : PV} {xs : List PV} (h : σ.lst? v = some xs) : (σ.lst? v).isSome = true := by rw [h]; rfl
theorem flat1 {xs : List PV} (h : σ.H = [.lst xs]) (hc : PV.cleans xs) : σ.flat := by
  rw [St.flat, h]
  intro po hp
  rw [List.mem_singleton.mp hp]
  exact ⟨_, rfl, hc⟩
theorem flat2 {xs ys : List PV} (h : σ.H = [.lst xs, .lst ys]) (hc : PV.cleans xs) (hd : PV.cleans ys) : σ.flat := by
  rw [St.flat, h]
  intro po hp
  rcases List.mem_cons.mp hp with rfl | hp
  · exact ⟨_, rfl, hc⟩
  rw [List.mem_singleton.mp hp]
  exact ⟨_, rfl, hd⟩
end
mutual
theorem frz_clean {H : List PO} : ∀ {x : PV}, x.clean → x.frz H = x
  | .none, _ => rfl
  | .bool _, _ => rfl
  | .int _, _ => rfl
  | .str _, _ => rfl
  | .raw _, _ => rfl
  | .ref _, h => h.elim
  | .lst xs, h => by rw [PV.frz, frzs_clean (xs := xs) h]
theorem frzs_clean {H : List PO} : ∀ {xs : List PV}, PV.cleans xs → PV.frzs H xs = xs
  | [], _ => rfl
  | x :: xs, h => by rw [PV.frzs, frz_clean h.1, frzs_clean h.2]
end
-- reading
noncomputable def tok (p : List Nat) (c : Nat) : Nat := if OPS.contains p then 7 + OPS.idxOf p else 256 + c
noncomputable def szL (l : List Nat) : Nat := if OPS.contains (l.take 3) then 3 else if OPS.contains (l.take 2) then 2 else 1
noncomputable def readF : Nat → List Nat → List Nat
  | 0, _ => []
  | _ + 1, [] => []
  | n + 1, c :: r => tok ((c :: r).take (szL (c :: r))) c :: readF n ((c :: r).drop (szL (c :: r)))
noncomputable def readL (l : List Nat) : List Nat := readF l.length l
theorem szL_pos (l : List Nat) : 1 ≤ szL l := by
  unfold szL
  split
  · lia
  · split <;> lia
theorem readF_nil (n : Nat) : readF n [] = [] := by cases n <;> rfl
theorem readF_eq : ∀ (n m : Nat) (l : List Nat), l.length ≤ n → l.length ≤ m → readF n l = readF m l
  | 0, m, l, h, _ => by have : l = [] := List.eq_nil_of_length_eq_zero (by lia); subst this; rw [readF_nil, readF_nil]
  | n, 0, l, _, h => by have : l = [] := List.eq_nil_of_length_eq_zero (by lia); subst this; rw [readF_nil, readF_nil]
  | n + 1, m + 1, [], _, _ => rfl
  | n + 1, m + 1, c :: r, h1, h2 => by
    have hs := szL_pos (c :: r)
    simp only [readF]
    rw [readF_eq n m]
    · simp at h1 ⊢; lia
    · simp at h2 ⊢; lia
theorem readL_nil : readL [] = [] := rfl
theorem readL_cons (c : Nat) (r : List Nat) : readL (c :: r) = tok ((c :: r).take (szL (c :: r))) c :: readL ((c :: r).drop (szL (c :: r))) := by
  have hs := szL_pos (c :: r)
  unfold readL
  simp only [List.length_cons, readF]
  rw [readF_eq r.length _ _ (by simp; lia) (Nat.le_refl _)]
noncomputable def nms (l : List Nat) : List PV := l.map fun (k : Nat) => PV.int (k : Int)
theorem nms_clean (l : List Nat) : PV.cleans (nms l) := by
  unfold nms
  induction l with
  | nil => trivial
  | cons y ys ih => exact ⟨trivial, ih⟩
theorem nms_app (a b : List Nat) : nms (a ++ b) = nms a ++ nms b := by simp [nms]
theorem nms_len (a : List Nat) : (nms a).length = a.length := by simp [nms]
end Mine
end
section
open PySem PySem.W PySem.Calls PyProof.Rows PySem.Spec
namespace Mine
noncomputable abbrev sts (ys : List (List Nat)) : List PV := ys.map fun y => PV.str (S y)
theorem sts_clean (ys : List (List Nat)) : PV.cleans (sts ys) := cleansS S ys
theorem sts_eq (ys : List (List Nat)) : sts ys = (ys.map S).map .str := by simp [sts]
noncomputable abbrev rowsP (rs : List (List (List Nat))) : List PV := rs.map fun r => PV.lst (sts r)
theorem rowsP_clean (rs : List (List (List Nat))) : PV.cleans (rowsP rs) := by
  induction rs with
  | nil => trivial
  | cons y ys ih => exact ⟨sts_clean _, ih⟩
section
variable {c : Cx} {T Z R : List (Addr × Obj)} {σ : St} {s : Shared} {n : Nat} {Q : PV → St → Prop}
theorem WS.forM {α : Type} (f : α → PV) (l : List α) {x : Str} {px pos : Pos} {iter : Expr} {body : List Stmt} {Q : PF → St → Prop} (Inv : List α → St → Prop) (Done : St → Prop) (ok : c.Ok n) (hc : c.comp = none)
    (h : WE c (eval iter c.env) (fun pv σ1 => items pv = some (l.map f) ∧ Inv [] σ1) σ) (hcl : PV.cleans (l.map f))
    (hstep : ∀ pre y post σ, l = pre ++ y :: post → Inv pre σ → WS c (execs body c.env) (lp (Inv (pre ++ [y]))) (σ.set x (f y))) (hdone : ∀ σ, Inv l σ → Done σ) (hd : ∀ σ, Done σ → Q .next σ)
    (hk : c.env.kindOf x = some .local := by rfl) (hs : ∀ v, foldedSetIterable iter c.env v = pure v := by intro _; rfl) :
    WS c (exec (.For (.Name x px) iter body [] pos) c.env) Q σ := by
  refine WS.forD (fun pre σ => ∃ ks post, l = ks ++ post ∧ pre = ks.map f ∧ Inv ks σ) Done ok hc (WE.mono h ?_) hd hk hs
  rintro pv σ1 ⟨h1, h3⟩
  refine ⟨l.map f, h1, hcl, ⟨[], l, rfl, rfl, h3⟩, ?_, ?_⟩
  · rintro pre y post σ e ⟨ks, rest, e1, rfl, hi⟩
    rw [e1, List.map_append] at e
    have e2 := List.append_cancel_left e
    cases rest with
    | nil => cases e2
    | cons k rest =>
      simp only [List.map_cons, List.cons.injEq] at e2
      obtain ⟨rfl, e3⟩ := e2
      exact WS.mono (hstep ks k rest σ e1 hi) fun fl σ' h => by
        cases fl with
        | ret _ => exact h
        | next => exact ⟨ks ++ [k], rest, by rw [e1]; simp, by simp, h⟩
        | cont => exact ⟨ks ++ [k], rest, by rw [e1]; simp, by simp, h⟩
  · rintro σ ⟨ks, rest, e1, e2, hi⟩
    have hl : ks.length = l.length := by have := congrArg List.length e2; simpa using this.symm
    have : rest = [] := by
      rw [e1] at hl
      simp only [List.length_append] at hl
      exact List.eq_nil_of_length_eq_zero (by lia)
    subst this
    rw [List.append_nil] at e1
    subst e1
    exact hdone _ hi
theorem items_str (l : List Nat) : items (.str (S l)) = some (l.map fun k => PV.str (S [k])) := by
  show some ((S l).cps.toList.map _) = _
  rw [S_list]; rfl
theorem chars_clean (l : List Nat) : PV.cleans (l.map fun k => PV.str (S [k])) := cleansS (fun k => S [k]) l

theorem WO.joinS {sep : List Nat} {l : PV} {ys : List (List Nat)} (hl : σ.lst? l = some (sts ys)) (hx : sep.length ≤ 64) (hz : (ys.map (·.length)).sum + ys.length * 64 ≤ 16777216) (h : Q (.str (S (joinL sep ys))) σ) :
    WO c (fun ws => call (.builtin "str.join") ws) [.str (S sep), l] Q σ := by
  refine WO.join (ys := ys.map S) (by rw [hl, sts_eq]) (by rw [S_len]; exact hx) ?_ (by rw [joined]; exact h)
  rw [List.map_map, List.length_map, show (fun x => x.length) ∘ S = fun (x : List Nat) => x.length from funext fun x => S_len x]
  exact hz
theorem joinL_nil : ∀ ys : List (List Nat), joinL [] ys = ys.flatten
  | [] => rfl
  | [x] => by simp [joinL]
  | x :: y :: r => by
    have := joinL_nil (y :: r)
    simp only [joinL, List.append_nil] at this ⊢
    rw [this]; rfl

mutual
noncomputable def PV.lt (n : Nat) : PV → Prop
  | .ref i => i < n
  | .lst xs => PV.lts n xs
  | _ => True
noncomputable def PV.lts (n : Nat) : List PV → Prop
  | [] => True
  | x :: xs => x.lt n ∧ PV.lts n xs
end
mutual
theorem clean_lt {n : Nat} : ∀ {x : PV}, x.clean → x.lt n
  | .none, _ => trivial
  | .bool _, _ => trivial
  | .int _, _ => trivial
  | .str _, _ => trivial
  | .raw _, _ => trivial
  | .ref _, h => h.elim
  | .lst xs, h => cleans_lt (xs := xs) h
theorem cleans_lt {n : Nat} : ∀ {xs : List PV}, PV.cleans xs → PV.lts n xs
  | [], _ => trivial
  | _ :: _, h => ⟨clean_lt h.1, cleans_lt h.2⟩
end
section
variable {as as' : List Addr}
theorem VR.cutTo (he : ∀ (i : Nat) (a : Addr), i < n → as[i]? = some a → as'[i]? = some a) {v x} (h : VR as Z v x) : x.lt n → VR as' Z v x :=
  VR.rec (motive_1 := fun v x _ => x.lt n → VR as' Z v x) (motive_2 := fun v x _ => PV.lts n x → VRs as' Z v x) (fun _ => .none) (fun _ => .bool) (fun _ => .int) (fun _ => .str) (fun _ => .raw) (fun h l => .ref (he _ _ l h)) (fun h _ ih l => .lst h (ih l)) (fun _ => .nil) (fun _ _ h t l => .cons (h l.1) (t l.2)) h
theorem VRs.cutTo (he : ∀ (i : Nat) (a : Addr), i < n → as[i]? = some a → as'[i]? = some a) {v x} (h : VRs as Z v x) : PV.lts n x → VRs as' Z v x :=
  VRs.rec (motive_1 := fun v x _ => x.lt n → VR as' Z v x) (motive_2 := fun v x _ => PV.lts n x → VRs as' Z v x) (fun _ => .none) (fun _ => .bool) (fun _ => .int) (fun _ => .str) (fun _ => .raw) (fun h l => .ref (he _ _ l h)) (fun h _ ih l => .lst h (ih l)) (fun _ => .nil) (fun _ _ h t l => .cons (h l.1) (t l.2)) h
end
/-- the last tracked object is forgotten -/
theorem St.Le.drop {σ' : St} {po : PO} (hH : σ.H = σ'.H ++ [po]) (hl : ∀ x pv, σ'.loc x = some pv → σ.loc x = some pv ∧ pv.lt σ'.H.length) (ho : ∀ po ∈ σ'.H, ∃ xs, po = .lst xs ∧ PV.lts σ'.H.length xs) (hce : ∀ x i, σ'.cel x = some i → σ.cel x = some i ∧ i < σ'.H.length) : σ.Le c σ' := by
  intro T Z R s r
  obtain ⟨m, P, F⟩ := r.fr
  have hlen := P.len
  rw [hH, List.length_append] at hlen
  simp only [List.length_cons, List.length_nil] at hlen
  obtain ⟨T0, p, rfl⟩ : ∃ T0 p, T = T0 ++ [p] := by
    refine ⟨T.dropLast, T.getLast (by intro h; rw [h] at hlen; simp at hlen), ?_⟩
    exact (List.dropLast_concat_getLast _).symm
  have hl0 : T0.length = σ'.H.length := by simp at hlen; lia
  have he : ∀ (i : Nat) (a : Addr), i < σ'.H.length → (ads (T0 ++ [p]))[i]? = some a → (ads T0)[i]? = some a := by
    intro i a hi h
    simp only [ads, List.map_append] at h
    rw [List.getElem?_append_left (by simp; lia)] at h
    exact h
  have zz : ∀ q ∈ Z, q ∈ p :: Z := fun q h => .tail _ h
  refine ⟨T0, p :: Z, zz, r.sh, ?_, m, ?_, F⟩
  · intro q hq
    refine r.N q ?_
    simp only [List.mem_append, List.mem_cons, List.not_mem_nil, or_false] at hq ⊢
    rcases hq with h | ((h | h) | h)
    · exact .inl (.inl h)
    · exact .inl (.inr h)
    · exact .inr (.inl h)
    · exact .inr (.inr h)
  · have nd := P.nd
    simp only [List.map_append, List.nodup_append] at nd
    refine ⟨fun x pv e => ?_, nd.1, ?_, ?_, hl0, ?_, ?_, P.mm⟩
    · obtain ⟨e1, e2⟩ := hl x pv e
      obtain ⟨v, hv, hm⟩ := P.loc x pv e1
      exact ⟨v, (hv.cutTo he e2).mono zz, hm⟩
    · intro a ha b hb
      rw [List.cons_append] at hb
      rcases List.mem_cons.mp hb with rfl | hb
      · exact nd.2.2 _ (List.mem_map_of_mem ha) _ (by simp)
      · exact P.dT a (List.mem_append_left _ ha) b hb
    · intro a ha b hb
      rcases List.mem_cons.mp ha with rfl | ha
      · exact P.dT _ (List.mem_append_right _ (.head _)) b (List.mem_append_right _ hb)
      · exact P.dZ a ha b hb
    · intro i q po' e1 e2
      have hi : i < T0.length := (List.getElem?_eq_some_iff.mp e1).1
      have e3 : (T0 ++ [p])[i]? = some q := by rw [List.getElem?_append_left hi]; exact e1
      have e4 : σ.H[i]? = some po' := by rw [hH, List.getElem?_append_left (by lia)]; exact e2
      have o := P.ob i q po' e3 e4
      obtain ⟨xs, rfl, hx⟩ := ho po' (List.mem_of_getElem? e2)
      obtain ⟨qa, qo⟩ := q
      cases o with
      | lst t => exact .lst ((t.cutTo he hx).mono zz)
    · intro x i e
      obtain ⟨e1, e2⟩ := hce x i e
      obtain ⟨a, h1, h2⟩ := P.ce x i e1
      exact ⟨a, h1, he _ _ e2 h2⟩
end
end Mine
end
section
open PySem PySem.W PySem.Calls PyProof.Rows PySem.Spec
namespace Mine
noncomputable def plainC (k : Nat) : Bool := k == 9 || (decide (31 < k) && decide (k < 127) && k != 61)
noncomputable def piece (k : Nat) : List Nat := if plainC k then [k] else esc k
noncomputable def isWs (k : Nat) : Bool := k == 32 || k == 9
noncomputable def fill (w : Nat) : Nat → List (List Nat) → List (List Nat) × List (List Nat)
  | _, [] => ([], [])
  | a, p :: ps => if a + p.length < w then ((p :: (fill w (a + p.length) ps).1), (fill w (a + p.length) ps).2) else ([], p :: ps)
noncomputable def cutF (w : Nat) : Nat → List (List Nat) → List (List (List Nat)) × List (List Nat)
  | 0, ps => ([], ps)
  | n + 1, ps => if w < ps.flatten.length then (((fill w 0 ps).1 ++ [[61]]) :: (cutF w n (fill w 0 ps).2).1, (cutF w n (fill w 0 ps).2).2) else ([], ps)
noncomputable def lawTail (rows : List (List (List Nat))) (ps : List (List Nat)) (free : Nat) : Option Nat → List (List (List Nat))
  | none => rows ++ [ps]
  | some k => if isWs k = false then rows ++ [ps] else if 1 < free then rows ++ [ps.dropLast ++ [esc k]] else if free = 1 then rows ++ [ps ++ [[61]], []] else rows ++ [ps.dropLast ++ [[61]], [esc k]]
noncomputable def lawRows (line : List Nat) (w : Nat) : List (List (List Nat)) :=
  lawTail (cutF w line.length (line.map piece)).1 (cutF w line.length (line.map piece)).2 (w - (cutF w line.length (line.map piece)).2.flatten.length) line.getLast?
theorem piece_len (k : Nat) : 1 ≤ (piece k).length ∧ (piece k).length ≤ 3 := by
  unfold piece; split <;> simp [esc]
theorem sum3 {ys : List (List Nat)} (h : ∀ y ∈ ys, y.length ≤ 3) : (ys.map (·.length)).sum ≤ 3 * ys.length := by
  induction ys with
  | nil => simp
  | cons y ys ih =>
    have := h y (.head _)
    have := ih fun z hz => h z (.tail _ hz)
    simp only [List.map_cons, List.sum_cons, List.length_cons]; omega
theorem flat_len (ys : List (List Nat)) : ys.flatten.length = (ys.map (·.length)).sum := by simp [List.length_flatten]
theorem ops_len : (Str.ofString "( ) [ ] : , ; + - * / | & < > = . % { } == != <= >= ~ ^ << >> ** += -= *= /= %= &= |= ^= <<= >>= **= // //= @ @= -> ... := !").length + 2 ≤ sizeLine := by decide +kernel
theorem sp_len : ((Str.ofString " ").length == 0) = false := by decide +kernel
section
variable {c : Cx} {T Z R : List (Addr × Obj)} {σ : St} {s : Shared} {n : Nat} {Q : PV → St → Prop}
/-- an if whose test is a word known beforehand -/
theorem WS.iteB {test : Expr} {body orelse : List Stmt} {pos : Pos} {Q : PF → St → Prop} (b0 : Bool) (ht : WT c (isTrue test c.env (eval test c.env)) (fun b σ' => b = b0 ∧ σ' = σ) σ)
    (h1 : b0 = true → WS c (execs body c.env) Q σ) (h2 : b0 = false → WS c (execs orelse c.env) Q σ) : WS c (exec (.If test body orelse pos) c.env) Q σ :=
  WS.ite (WT.mono ht fun b σ' ⟨e1, e2⟩ => by subst e1 e2; cases b with
    | true => exact h1 rfl
    | false => exact h2 rfl)
theorem WO2.eqL {a b : List Nat} (h : Q (.bool (a == b)) σ) : WO2 c (compareOp .Eq) (.str (S a)) (.str (S b)) Q σ := WO2.eqS (by rw [S_beq]; exact h)
theorem WO2.neL {a b : List Nat} (h : Q (.bool (a != b)) σ) : WO2 c (compareOp .NotEq) (.str (S a)) (.str (S b)) Q σ := WO2.neS (by rw [S_bne]; exact h)
theorem beq1 {a b : Nat} : ([a] == [b]) = (a == b) := by rw [Bool.eq_iff_iff]; simp
theorem bne1 {a b : Nat} : ([a] != [b]) = (a != b) := by unfold bne; rw [beq1]
theorem WO2.eqC {a b : Nat} (h : Q (.bool (a == b)) σ) : WO2 c (compareOp .Eq) (.str (S [a])) (.str (S [b])) Q σ := WO2.eqL (by rw [beq1]; exact h)
theorem WO2.neC {a b : Nat} (h : Q (.bool (a != b)) σ) : WO2 c (compareOp .NotEq) (.str (S [a])) (.str (S [b])) Q σ := WO2.neL (by rw [bne1]; exact h)
/-- a sign in a text -/
theorem WO2.inC {l : List Nat} {k : Nat} (h : Q (.bool (l.contains k)) σ) : WO2 c (compareOp .In) (.str (S [k])) (.str (S l)) Q σ := WO2.inS (by rw [in_one]; exact h)
theorem WO2.notInC {l : List Nat} {k : Nat} (h : Q (.bool (!l.contains k)) σ) : WO2 c (compareOp .NotIn) (.str (S [k])) (.str (S l)) Q σ := by
  refine ⟨?_⟩; rintro T Z R s _ _ r (_ | _) (_ | _); exact notIn_str (r.post0 (by rw [in_one]; exact h) .bool)
theorem flats_len {ys : List (List Nat)} (h : ∀ y ∈ ys, y.length ≤ 3) : (joinL [] ys).length ≤ 3 * ys.length := by
  rw [joinL_nil, flat_len]; exact sum3 h
theorem WO2.addN {a b : List Nat} (hz : a.length + b.length ≤ sizeLine) (h : Q (.str (S (a ++ b))) σ) : WO2 c (binaryOp .Add) (.str (S a)) (.str (S b)) Q σ := WO2.addS (by rw [S_cat]; exact h) (by rw [S_len, S_len]; exact hz)
theorem WO2.iaddN {a b : List Nat} (hz : a.length + b.length ≤ sizeLine) (h : Q (.str (S (a ++ b))) σ) : WO2 c (inplaceOp .Add) (.str (S a)) (.str (S b)) Q σ := WO2.iaddS (by rw [S_cat]; exact h) (by rw [S_len, S_len]; exact hz)
theorem WO2.inLN {k : List Nat} {l : PV} {ys : List (List Nat)} (hl : σ.lst? l = some (sts ys)) (h : Q (.bool (ys.contains k)) σ) : WO2 c (compareOp .In) (.str (S k)) l Q σ :=
  WO2.inL (xs := ys.map S) (by rw [hl, sts_eq]) (by rw [S_any]; exact h)
theorem WE.sliceX {value : Expr} {lo hi : Option Expr} {p pos : Pos}
    (h : WE c (eval value c.env) (fun a σ1 => WP c lo (fun i σ2 => WP c hi (fun j σ3 => ∃ xs, σ3.lst? a = some xs ∧ xs.length ≤ sizeLine ∧ Q (.lst ((xs.drop (kms_lo i xs.length)).take (kms_hi j xs.length - kms_lo i xs.length))) σ3) σ2) σ1) σ)
    (ht : ∀ (o r : Value), letTemporaryGo value o r = pure () := by intros; rfl) :
    WE c (eval (.Subscript value (.Slice lo hi none p) pos) c.env) Q σ := by
  have key : ∀ (e : Option Expr) (Q1 Q2 : Option Int → St → Prop) (σ : St), (∀ vs σ1, Q1 vs σ1 → Q2 vs σ1) → WP c e Q1 σ → WP c e Q2 σ := by
    intro e Q1 Q2 σ hq h
    cases e with
    | none => exact hq _ _ h
    | some e => exact WE.mono h fun v σ' ⟨i, e, h'⟩ => ⟨i, e, hq _ _ h'⟩
  refine WE.sliceL (WE.mono h fun a σ1 h1 => key _ _ _ _ (fun i σ2 h2 => key _ _ _ _ (fun j σ3 h3 => ?_) h2) h1) ht
  obtain ⟨xs, e, hz, q⟩ := h3
  refine ⟨_, ?_, ?_, q⟩
  · simp only [List.length_take, List.length_drop]; omega
  · intro T Z R s v r hv
    obtain ⟨l, vs, rfl, hL, t⟩ := r.asList hv e
    refine ⟨l, vs, rfl, hL, by rw [t.length]; exact hz, ?_⟩
    rw [kms_pick_eq]
    unfold kms_pick
    simp only [t.length]
    exact (t.drop _).take _
theorem WE.slice2 {value : Expr} {lo hi : Option Expr} {p pos : Pos}
    (h : WE c (eval value c.env) (fun a σ1 => (∃ l, a = .str (S l) ∧ l.length ≤ sizeLine ∧ WP c lo (fun i σ2 => WP c hi (fun j σ3 => Q (.str (Txt.slice (S l) i j)) σ3) σ2) σ1) ) σ) :
    WE c (eval (.Subscript value (.Slice lo hi none p) pos) c.env) Q σ := WE.sliceN h
theorem lookup_mem {x : Str} {pv : PV} : ∀ {tab : List (Str × PV)}, tab.lookup x = some pv → (x, pv) ∈ tab
  | (y, v) :: t, h => by
    rw [List.lookup_cons] at h
    split at h
    · rename_i e; cases h; rw [eq_of_beq e]; exact .head _
    · exact .tail _ (lookup_mem h)
/-- only these names and all but the last tracked list -/
theorem WS.drop {t : Sem Flow} {Q : PF → St → Prop} {H : List PO} {po : PO} (tab : List (Str × PV)) (hH : σ.H = H ++ [po]) (hl : ∀ p ∈ tab, σ.loc p.1 = some p.2 ∧ p.2.lt H.length) (ho : ∀ po ∈ H, ∃ xs, po = .lst xs ∧ PV.lts H.length xs)
    (h : WS c t Q ⟨fun y => tab.lookup y, H, fun _ => none⟩) : WS c t Q σ :=
  WS.le (St.Le.drop (σ' := ⟨fun y => tab.lookup y, H, fun _ => none⟩) hH (fun x pv e => hl _ (lookup_mem e)) ho (fun _ _ e => by cases e)) h
theorem pick_init (xs : List PV) : (xs.drop (kms_lo none xs.length)).take (kms_hi (some (-1)) xs.length - kms_lo none xs.length) = xs.dropLast := by
  show (xs.drop 0).take (xs.length - 1 - 0) = _
  rw [List.drop_zero, Nat.sub_zero, List.dropLast_eq_take]
theorem sts_dropLast (ys : List (List Nat)) : (sts ys).dropLast = sts ys.dropLast := by simp [sts, List.map_dropLast]
theorem WO.indexN {l : PV} {ys : List (List Nat)} {k : List Nat} (hl : σ.lst? l = some (sts ys)) (hm : ys.contains k = true) (hz : ys.length ≤ sizeLine) (h : Q (.int ((ys.idxOf k : Nat) : Int)) σ) : WO c (fun ws => call (.builtin "list.index") ws) [l, .str (S k)] Q σ :=
  WO.index (ys := ys.map S) (by rw [hl, sts_eq]) (List.mem_map_of_mem (List.contains_iff_mem.mp hm)) (by rw [List.length_map]; exact hz) (by rw [S_idx]; exact h)
end
noncomputable def partF : Nat → List Nat → List Nat
  | 0, _ => []
  | n + 1, p => if p = [] then [] else if OPS.contains p then [7 + OPS.idxOf p] else partF n p.dropLast ++ partF n (p.drop (p.length - 1))
noncomputable def partL (p : List Nat) : List Nat := partF (p.length + 1) p
noncomputable def opSigns (p : List Nat) : Prop := ∀ k ∈ p, OPS.contains [k] = true
theorem partF_len : ∀ (n : Nat) (p : List Nat), (partF n p).length ≤ 2 ^ n
  | 0, _ => by simp [partF]
  | n + 1, p => by
    have h1 := partF_len n p.dropLast
    have h2 := partF_len n (p.drop (p.length - 1))
    have : 1 ≤ 2 ^ n := Nat.one_le_two_pow
    rw [partF]
    have hp : 2 ^ (n + 1) = 2 ^ n * 2 := Nat.pow_succ ..
    split
    · simp
    · split
      · rw [List.length_singleton]; omega
      · rw [List.length_append]; omega
theorem partF_eq : ∀ (n : Nat) (p : List Nat), p.length < n → opSigns p → partF n p = partL p
  | 0, _, h, _ => by omega
  | n + 1, p, h, hs => by
    unfold partL
    rw [partF, partF]
    split
    · rfl
    · rename_i hp
      split
      · rfl
      · rename_i ho
        have hlen : 2 ≤ p.length := by
          match p, hp, ho, hs with
          | [], hp, _, _ => exact absurd rfl hp
          | [k], _, ho, hs => exact absurd (hs k (.head _)) ho
          | _ :: _ :: _, _, _, _ => simp
        have hs1 : opSigns p.dropLast := fun k hk => hs k (List.dropLast_subset p hk)
        have hs2 : opSigns (p.drop (p.length - 1)) := fun k hk => hs k (List.mem_of_mem_drop hk)
        rw [partF_eq n _ (by simp; omega) hs1, partF_eq n _ (by simp; omega) hs2, partF_eq p.length _ (by simp; omega) hs1, partF_eq p.length _ (by simp; omega) hs2]
noncomputable def onceMore (row : List Nat) : List Nat := row.flatMap fun k => if k < 256 ∧ ((OPS[k - 7]?).bind List.getLast?) = some 61 then [k, 307, 324] else [k]
end Mine
end
section
open PySem PySem.W PySem.Calls PyProof.Rows PySem.Spec PySem.NumText
set_option maxRecDepth 100000
namespace Mine
theorem typeCall_int_2 (a b : Value) : checkTypeCall "int" ⟨[a, b], []⟩ = pure () := by kernel_rfl
theorem newCall_int_2 (a b : Value) : checkBuiltinCall "int.__new__" ⟨[.type "int", a, b], []⟩ = pure () := by kernel_rfl
theorem args_object_init_3 (x a b : Value) : argsOk "object.__init__" ⟨[x, a, b], []⟩ := by
  first | exact PySem.F.args_object_init_3 x a b | (unfold argsOk; rw [signature?_of (id := "object.__init__") (n := ['_', '_', 't', 'i', 'n', 'i', '_', '_']) (o := ['t', 'c', 'e', 'j', 'b', 'o']) (by kernel_rfl) PySem.F.owner_object]; kernel_rfl) 
theorem hexPair : ∀ a b : Fin 16, sign ([hexd a.val, hexd b.val].dropWhile blank) = (false, [hexd a.val, hexd b.val]) ∧ based 16 [hexd a.val, hexd b.val] = (16, false, [hexd a.val, hexd b.val]) ∧
    digits? 16 (([hexd a.val, hexd b.val].reverse.dropWhile blank).reverse) = some #[a.val, b.val] ∧ [hexd a.val, hexd b.val].takeWhile (· != 0) = [hexd a.val, hexd b.val] := by decide +kernel
theorem readHex {a b : Nat} (ha : a < 16) (hb : b < 16) : (int_private% "readNumeral") 0 16 ([hexd a, hexd b].takeWhile (· != 0)) = (int_private% "Numeral.value") ((16 * a + b : Nat) : Int) := by
  obtain ⟨h1, h2, h3, h4⟩ := hexPair ⟨a, ha⟩ ⟨b, hb⟩
  dsimp only at h1 h2 h3 h4
  rw [h4, readNumeral_eq, h1]
  dsimp only
  rw [h2]
  dsimp only
  rw [h3]
  have : judge 0 false 16 false (some #[a, b]) = (int_private% "Numeral.value") (((0 * 16 + a) * 16 + b : Nat) : Int) := rfl
  rw [this]
  congr 2
  lia
theorem wp_hex {M : Model} {A : Around} {E : Value → Shared → Prop} {s : Shared} {Q : Value → Shared → Prop} {v : Value} {text : List Nat} {n : Int} {bb : Nat} (hbb : bb = 16)
    (hs : (text.takeWhile (· != 0)).length ≤ 640) (hr : (int_private% "readNumeral") 0 16 (text.takeWhile (· != 0)) = (int_private% "Numeral.value") n)
    (ha : ((text.takeWhile (· != 0)).length == text.length) = true) (h : Q (.int n s.toks) { s with toks := s.toks + 1 }) :
    wpAny M A ((int_private% "intFromText") v text bb) Q E s := by
  subst hbb
  obtain ⟨hp, g, d, tk, os⟩ := s
  repeat (any_goals (first
    | assumption
    | (with_reducible refine wpAny_ite_true (decide_eq_true hs) ?_)
    | (with_reducible refine wpAny_ite_true (decide_eq_true ha) ?_)
    | wp_step))
  all_goals (try rw [hr])
  all_goals (try dsimp only)
  repeat (any_goals (first
    | assumption
    | (with_reducible refine wpAny_ite_true (decide_eq_true hs) ?_)
    | (with_reducible refine wpAny_ite_true (decide_eq_true ha) ?_)
    | wp_step))
set_option maxHeartbeats 4000000 in
theorem gives_hex {x : Str} {u w : Tok} {n : Int} (hs : ((numTextOf x).takeWhile (· != 0)).length ≤ 640) (hr : (int_private% "readNumeral") 0 16 ((numTextOf x).takeWhile (· != 0)) = (int_private% "Numeral.value") n)
    (ha : (((numTextOf x).takeWhile (· != 0)).length == (numTextOf x).length) = true) : Gives (Builtin.«int.__new__» ⟨[.type "int", .str x u, .int 16 w], []⟩) (.int n) :=
  .of_wp fun M A E s Q h => by
    obtain ⟨hp, g, d, tk, os⟩ := s
    have f1 := F.conv_sub_int
    have f2 := F.madeHere_int
    repeat (any_goals (first
      | assumption
      | ((with_reducible show wpAny _ _ ((int_private% "intFromText") _ _ _) _ _ _); refine wp_hex rfl hs hr ha ?_)
      | wp_step))
    all_goals first | exact ⟨_, rfl, h⟩ | skip
theorem args_init3 (x a b : Value) : argsOk "object.__init__" ⟨[x, a, b], []⟩ := args_object_init_3 x a b
section
variable {c : Cx} {T Z R : List (Addr × Obj)} {σ : St} {s : Shared} {n : Nat} {Q : PV → St → Prop}
theorem WO.hex {a b : Nat} (ha : a < 16) (hb : b < 16) (h : Q (.int ((16 * a + b : Nat) : Int)) σ) : WO c (fun ws => call (.type "int") ws) [.str (S [hexd a, hexd b]), .int 16] Q σ := by
  refine ⟨?_⟩; rintro T Z R s _ r (_ | ⟨(_ | _), (_ | ⟨(_ | _), (_ | _)⟩)⟩)
  have hall : ((S [hexd a, hexd b]).cps.all fun x => decide (x < 128)) = true := by
    have : ∀ a b : Fin 16, ((S [hexd a.val, hexd b.val]).cps.all fun x => decide (x < 128)) = true := by decide +kernel
    exact this ⟨a, ha⟩ ⟨b, hb⟩
  have hnt : numTextOf (S [hexd a, hexd b]) = [hexd a, hexd b] := by
    unfold numTextOf; rw [if_pos hall, S_list]
  obtain ⟨_, _, _, h4⟩ := hexPair ⟨a, ha⟩ ⟨b, hb⟩
  dsimp only at h4
  refine callType_new F.called_int F.newNe_int (typeCall_int_2 _ _) (newCall_int_2 _ _) (fun obj => args_object_init_3 obj _ _) F.entry_int_new (gives_hex (n := ((16 * a + b : Nat) : Int)) ?_ ?_ ?_).meets ⟨rfl, r.post h .int⟩
  · rw [hnt, h4]; simp
  · rw [hnt]; exact readHex ha hb
  · rw [hnt, h4]; simp
end
end Mine
end
section
open PySem PySem.W PySem.Calls PyProof.Rows PySem.Spec
set_option maxRecDepth 100000
namespace Mine
theorem wp_lookup {prog : Program} {w : World} {A : Around} {E : Value → Shared → Prop} {s : Shared} {a : Addr} {vs : List Value} {k : Nat} {x : Str} {t : Tok} {Q : Builtin.Str.Mapped → Shared → Prop} (hl : s.heap.IsList a vs.toArray) (hk : k < 1000) (hx : vs[k]? = some (.str x t))
    (h : Q (.text x) { s with toks := s.toks + 1 }) : wpAny (model prog w) A (Builtin.Str.tableLookup (.ref a) k) Q E s := by
  unfold Builtin.Str.tableLookup
  refine wpAny_bind (wpAny_attempt ?_)
  refine wpAny_bind ?_
  refine wpAny_mkInt ?_
  refine wpAny_getItem_list (x := .str x t) hl (by lia) (by lia) (by simpa using hx) ?_
  dsimp only
  refine wpAny_bind ?_
  refine wpAny_of_eq (show asInt? (.str x t) = pure none from rfl) ?_
  dsimp only
  refine wpAny_bind ?_
  refine wpAny_of_eq (show asStr? (.str x t) = pure (some x) from rfl) ?_
  dsimp only
  exact wpAny_pure h

section
variable {c : Cx} {T Z R : List (Addr × Obj)} {σ : St} {s : Shared} {n : Nat} {Q : PV → St → Prop}
theorem WO.translate {l : List Nat} {a : Addr} {vs : List Value} {k : Nat} {f : Nat → List Nat} (ok : c.Ok n) (hl : c.g.K.lookup a = some (listOf vs.toArray k)) (hf : ∀ k ∈ l, k < 256 ∧ ∃ t, vs[k]? = some (.str (S (f k)) t)) (hnil : l ≠ [])
    (hsz : (l.flatMap f).length ≤ 16000000) (h : Q (.str (S (l.flatMap f))) σ) : WO c (fun ws => call (.builtin "str.translate") ws) [.str (S l), .raw (.ref a)] Q σ := by
  refine ⟨?_⟩; rintro T Z R s _ r (_ | ⟨(_ | _), (_ | ⟨(_ | _), (_ | _)⟩)⟩)
  refine wpAny_call_entry PySem.F.slot_str_translate (typeIs_str _ _ _) PySem.F.entry_str_translate ?_ (PySem.F.args_str_translate_2 _ _)
  have isl : ∀ s', Rel c T Z R σ s' → s'.heap.IsList a vs.toArray := fun s' r' => ⟨_, r'.K ok _ _ hl, rfl, _, rfl⟩
  rename_i t0
  have hlen : ((S l).length == 0) = false := by rw [S_len]; cases l with | nil => exact absurd rfl hnil | cons _ _ => rfl
  unfold Builtin.«str.translate»
  refine wpAny_bind (wpAny_of_eq (show Builtin.Str.strOneArg "translate" ⟨[.str (S l) t0, .ref a], []⟩ = pure (.str (S l) t0, S l, .ref a) from rfl) ?_)
  dsimp only
  rw [hlen]
  simp only [Bool.false_eq_true, if_false]
  rw [← Array.forIn_toList, S_list]
  refine wpAny_bind (wpAny_mono (wpAny_forIn_list _ (fun (rest : List Nat) (b : List Str × Nat × Bool × List (Nat × Option Nat) × Bool) s' => Rel c T Z R σ s' ∧ ∃ done, done ++ rest = l ∧ b.1.reverse.foldl (fun acc p => acc ++ p.cps) #[] = (done.flatMap f).toArray ∧ b.2.1 = (done.flatMap f).length ∧ b.2.2.2.2 = false ∧ ∀ k a, b.2.2.2.1.lookup k = some a → ∃ d, a = some d ∧ f k = [d]) _ ?_ (fun _ _ h => h) _ _ ?_) (fun b s' hb => ?_) fun _ _ e => e)
  · rintro k rest ⟨pieces, total, fast, known, drop⟩ s' ⟨r', done, hd, hp, ht, hdr, hkn⟩
    dsimp only at hp ht hdr hkn ⊢
    subst hdr
    have hkl : k ∈ l := by rw [← hd]; simp
    obtain ⟨hk256, t1, hv⟩ := hf k hkl
    have hdl : (done.flatMap f).length ≤ 16000000 := by
      refine Nat.le_trans ?_ hsz
      rw [← hd, List.flatMap_append, List.length_append]; lia
    have hsmall : ¬ (Builtin.Str.tooLong total = true) := by
      unfold Builtin.Str.tooLong
      rw [ht]
      have := PySem.sizeLine_eq
      simp only [decide_eq_true_eq]
      lia
    have next1 : ∀ (d : Nat) (s2 : Shared) (fast' : Bool) (known' : List (Nat × Option Nat)), Rel c T Z R σ s2 → f k = [d] → (∀ k a, known'.lookup k = some a → ∃ d, a = some d ∧ f k = [d]) →
        (Rel c T Z R σ s2 ∧ ∃ done, done ++ rest = l ∧ (({ cps := #[d] } : Str) :: pieces).reverse.foldl (fun acc p => acc ++ p.cps) #[] = (done.flatMap f).toArray ∧ total + 1 = (done.flatMap f).length ∧ false = false ∧ ∀ k a, (known', fast').1.lookup k = some a → ∃ d, a = some d ∧ f k = [d]) := by
      intro d s2 fast' known' r2 hfk hkn'
      refine ⟨r2, done ++ [k], by rw [← hd]; simp, ?_, ?_, rfl, hkn'⟩
      · rw [List.reverse_cons, List.foldl_append, hp]; simp [hfk]
      · rw [List.flatMap_append, List.length_append, ← ht]; simp [hfk]
    have next2 : ∀ (s2 : Shared) (fast' : Bool) (known' : List (Nat × Option Nat)), Rel c T Z R σ s2 → (∀ k a, known'.lookup k = some a → ∃ d, a = some d ∧ f k = [d]) →
        (Rel c T Z R σ s2 ∧ ∃ done, done ++ rest = l ∧ (S (f k) :: pieces).reverse.foldl (fun acc p => acc ++ p.cps) #[] = (done.flatMap f).toArray ∧ total + (S (f k)).length = (done.flatMap f).length ∧ false = false ∧ ∀ k a, (known', fast').1.lookup k = some a → ∃ d, a = some d ∧ f k = [d]) := by
      intro s2 fast' known' r2 hkn'
      refine ⟨r2, done ++ [k], by rw [← hd]; simp, ?_, ?_, rfl, hkn'⟩
      · rw [List.reverse_cons, List.foldl_append, hp]; simp [S]
      · rw [List.flatMap_append, List.length_append, ← ht, S_len]; simp
    rw [if_neg hsmall]
    have slow : ∀ (s2 : Shared) (fast' : Bool) (known' : List (Nat × Option Nat)), Rel c T Z R σ s2 → (∀ k a, known'.lookup k = some a → ∃ d, a = some d ∧ f k = [d]) → True := fun _ _ _ _ _ => trivial
    cases fast with
    | true =>
      simp only [if_true]
      cases hlk : known.lookup k with
      | some a =>
        obtain ⟨d, rfl, hfd⟩ := hkn k a hlk
        dsimp only
        refine wpAny_bind (wpAny_pure ?_)
        dsimp only
        refine wpAny_pure ?_
        exact next1 d _ true known r' hfd hkn
      | none =>
        dsimp only
        refine wpAny_bind (wp_lookup (isl _ r') (by lia) hv ?_)
        dsimp only
        by_cases hc : ((S (f k)).length == 1 && (S (f k)).cps.all fun x => decide (x < 128)) = true
        · rw [if_pos hc]
          obtain ⟨d, hd1⟩ : ∃ d, f k = [d] := by
            rw [Bool.and_eq_true, beq_iff_eq, S_len] at hc
            match hfk : f k with
            | [] => rw [hfk] at hc; cases hc.1
            | [d] => exact ⟨d, rfl⟩
            | _ :: _ :: _ => rw [hfk] at hc; simp at hc
          have h0 : (S (f k)).cps[0]? = some d := by rw [hd1]; rfl
          rw [h0]
          dsimp only
          refine wpAny_bind (wpAny_pure ?_)
          dsimp only
          refine wpAny_pure ?_
          refine next1 d _ true ((k, some d) :: known) r'.toks hd1 ?_
          intro j a ha
          rw [List.lookup_cons] at ha
          split at ha
          · rename_i hj
            cases ha
            rw [eq_of_beq hj]
            exact ⟨d, rfl, hd1⟩
          · exact hkn j a ha
        · rw [if_neg hc]
          dsimp only
          refine wpAny_bind (wpAny_pure ?_)
          dsimp only
          refine wpAny_bind (wpAny_rule ?_)
          simp only [Bool.false_eq_true, if_false]
          refine wpAny_bind (wp_lookup (isl _ r'.toks) (by lia) hv ?_)
          dsimp only
          refine wpAny_pure ?_
          exact next2 _ false known r'.toks hkn
    | false =>
      simp only [Bool.false_eq_true, if_false]
      refine wpAny_bind (wp_lookup (isl _ r') (by lia) hv ?_)
      dsimp only
      refine wpAny_pure ?_
      exact next2 _ false known r'.toks hkn
  · exact ⟨r, [], rfl, rfl, rfl, rfl, by simp⟩
  · obtain ⟨r', done, hd, hp, ht, _, _⟩ := hb
    rw [List.append_nil] at hd
    subst hd
    have hsmall : ¬ (Builtin.Str.tooLong b.2.1 = true) := by
      unfold Builtin.Str.tooLong
      rw [ht]
      have := PySem.sizeLine_eq
      simp only [decide_eq_true_eq]
      lia
    rw [if_neg hsmall, hp]
    unfold retStr
    refine wpAny_bind (wpAny_mkStr ?_)
    exact wpAny_pure ⟨_, rfl, r'.post h .str⟩
end
end Mine
end
section
open PySem PySem.W PySem.Calls PyProof.Rows PySem.Spec
set_option maxRecDepth 100000
namespace Mine
theorem md_entry : entryFor table "method_descriptor.__get__" = some Builtin.«method_descriptor.__get__» := entryFor_of_tree (by kernel_rfl)
theorem md_lookup : typeLookup (.type "method_descriptor") "__get__" = pure (some (.builtin "method_descriptor.__get__")) := by rw [typeLookup_type, builtinLookup_eq_fast]; kernel_rfl
theorem md_set : typeLookup (.type "method_descriptor") "__set__" = pure none := by rw [typeLookup_type, builtinLookup_eq_fast]; kernel_rfl
theorem md_delete : typeLookup (.type "method_descriptor") "__delete__" = pure none := by rw [typeLookup_type, builtinLookup_eq_fast]; kernel_rfl
theorem md_list : isSubtype (.type "list") (.type "list") = pure true := by rw [isSubtype_type]; kernel_rfl
noncomputable def bfm (a : Addr) : Obj := { cls := .type "builtin_function_or_method", data := .fields #[.builtin "list.append", .ref a] }
theorem md_meets (a : Addr) (o : Obj) (hc : o.cls = .type "list") : Meets (Builtin.«method_descriptor.__get__» ⟨[.builtin "list.append", .ref a, .type "list"], []⟩)
    (fun _ R s => s.heap.get? a = some o ∧ R (.ok (.ret (.ref s.heap.objs.size))) { s with heap := s.heap.push (bfm a) }) :=
  Meets.of_wp fun prog w A R s hs => by
    obtain ⟨hp, g, d, tk, os⟩ := s
    obtain ⟨hx, hs⟩ := hs
    have hT : (⟨hp, g, d, tk, os⟩ : Shared).TypeIs (.ref a) "list" := ⟨_, hx, hc⟩
    have f1 := md_list
    unfold Builtin.«method_descriptor.__get__»
    repeat (any_goals (first | assumption | wp_step))
    have e1 : ".".intercalate ("list.append".cutAt '.').dropLast = "list" := by decide +kernel
    rw [e1]
    refine wpAny_of_eq f1 ?_
    simp only [Bool.not_true, Bool.false_eq_true, if_false]
    refine wpAny_pure ?_
    repeat (any_goals (first | assumption | wp_step))
    all_goals exact ⟨_, rfl, hs⟩

theorem md_slot : Slot "method_descriptor" "__get__" "method_descriptor.__get__" :=
  .of (owner := "method_descriptor") (n := "__get__") (by rw [typeLookup_type, builtinLookup_eq_fast]; kernel_rfl) (by decide +kernel) (by decide +kernel) (by decide +kernel)
    (by first | exact .inl (by decide +kernel) | exact .inr (by decide +kernel)) (by rw [isSubtype_type]; kernel_rfl)
theorem md_args (a b c : Value) : argsOk "method_descriptor.__get__" ⟨[a, b, c], []⟩ := by
  unfold argsOk; kernel_rfl
theorem list_append_lookup : typeLookup (.type "list") "append" = pure (some (.builtin "list.append")) := PySem.F.slot_list_append.lookup
theorem ga_meets (a : Addr) (xs : Array Value) (k : Nat) (u : Tok) : Meets (Builtin.«object.__getattribute__» ⟨[.ref a, .str "append" u], []⟩)
    (fun _ R s => s.heap.get? a = some (W.listOf xs k) ∧ R (.ok (.ret (.ref s.heap.objs.size))) { s with heap := s.heap.push (bfm a) }) :=
  Meets.of_wp fun prog w A R s hs => by
    obtain ⟨hp, g, d, tk, os⟩ := s
    obtain ⟨hx, hs⟩ := hs
    have hT : (⟨hp, g, d, tk, os⟩ : Shared).TypeIs (.ref a) "list" := ⟨_, hx, rfl⟩
    have f1 := list_append_lookup
    have f2 := ty_list_append
    have f3 := md_lookup
    have f4 := md_set
    have f5 := md_delete
    unfold Builtin.«object.__getattribute__»
    repeat (any_goals (first | assumption | ((with_reducible show wpAny _ _ (call (Value.builtin "method_descriptor.__get__") _ _) _ _ _); refine call_meets md_slot f2 md_entry (md_args _ _ _) (md_meets a _ rfl) ⟨hx, ?_⟩) | wp_step))
    exact wpAny_pure ⟨_, rfl, hs⟩

theorem getAttr_append {prog : Program} {w : World} {A : Around} {E : Value → Shared → Prop} {s : Shared} {a : Addr} {xs : Array Value} {k : Nat} {Q : Value → Shared → Prop}
    (hx : s.heap.get? a = some (W.listOf xs k)) (h : ∀ tk, Q (.ref s.heap.objs.size) { s with heap := s.heap.push (bfm a), toks := tk }) : wpAny (model prog w) A (getAttr (.ref a) "append" true) Q E s := by
  obtain ⟨hp, g, d, tk, os⟩ := s
  have hT : ∀ tk', (⟨hp, g, d, tk', os⟩ : Shared).TypeIs (.ref a) "list" := fun _ => ⟨_, hx, rfl⟩
  have f3 := PySem.F.slot_list_getattribute.lookup
  have f4 := PySem.F.slot_list_getattribute.bind (.ref a)
  have f5 := am_list_getattr_none
  unfold getAttr getAttrBy
  repeat (any_goals (first | assumption | exact hT _ | ((with_reducible show wpAny _ _ (call (Value.builtin "list.__getattribute__") _ _) _ _ _); refine call_meets PySem.F.slot_list_getattribute (hT _) am_entry_list_getattribute (PySem.F.args_list_getattribute_2 _ _) (ga_meets a xs k _) ⟨hx, ?_⟩) | wp_step))
  show wpAny _ _ (handedOut (.ref _)) _ _ _
  rw [handedOut_of rfl]
  exact wpAny_pure (h _)

theorem la_has : (Manifest.sig_list.lookup (String.ofList ['d', 'n', 'e', 'p', 'p', 'a'].reverse)).isSome = true := by decide +kernel
noncomputable def laSig : Manifest.Signature := (Manifest.sig_list.lookup (String.ofList ['d', 'n', 'e', 'p', 'p', 'a'].reverse)).get la_has
theorem la_sig : Manifest.signature? "list.append" = some laSig := by
  rw [signature?_of (id := "list.append") (n := ['d', 'n', 'e', 'p', 'p', 'a']) (o := ['t', 's', 'i', 'l']) (by kernel_rfl) PySem.F.owner_list]
  exact (Option.some_get _).symm
theorem la_args (a b : Value) : Bind.checkArgs "list.append" { laSig with full := s!"{Bind.lastOf "list"}.{Bind.lastOf "list.append"}" } ⟨[a, b], []⟩ = pure () := by kernel_rfl
theorem la_kind : builtinKind "list.append" = some .method := by decide +kernel
theorem la_var : Manifest.varargsMethods.contains "list.append" = false := by decide +kernel
theorem list_module : isSubtype (.type "list") (.type "module") = pure false := by rw [isSubtype_type]; kernel_rfl
theorem la_check {M : Model} {A : Around} {E : Value → Shared → Prop} {s : Shared} {a : Addr} {xs : Array Value} {k : Nat} {x : Value} {Q : Unit → Shared → Prop} (hx : s.heap.get? a = some (W.listOf xs k)) (h : Q () s) :
    wpAny M A (checkBoundCall "list.append" ⟨[.ref a, x], []⟩) Q E s := by
  have hT : s.TypeIs (.ref a) "list" := ⟨_, hx, rfl⟩
  have h1 := la_sig
  have h2 := la_kind
  have h3 := la_var
  have f1 := list_module
  have h4 := la_args
  obtain ⟨hp, g, d, tk, os⟩ := s
  unfold checkBoundCall
  rw [h1]
  dsimp only
  rw [h2]
  dsimp only
  refine wpAny_bind (wpAny_isInstance hT f1 ?_)
  rw [h3]
  simp only [Bool.false_or, Bool.false_eq_true, if_false]
  refine wpAny_bind ?_
  have ht : wpAny M A (isType (.ref a)) (fun b s' => b = false ∧ s' = ⟨hp, g, d, tk, os⟩) E ⟨hp, g, d, tk, os⟩ := by
    repeat (any_goals (first | assumption | wp_step))
    exact ⟨rfl, rfl⟩
  refine wpAny_mono ht ?_ fun _ _ e => e
  rintro b s' ⟨rfl, rfl⟩
  simp only [Bool.false_eq_true, if_false]
  refine wpAny_bind (wpAny_typeOf hT ?_)
  exact wpAny_of_eq (h4 _ _) h

theorem call_bound {prog : Program} {w : World} {A : Around} {E : Value → Shared → Prop} {s : Shared} {a D : Addr} {vs : List Value} {k : Nat} {x : Value} {Q : Value → Shared → Prop}
    (hx : s.heap.get? a = some (W.listOf vs.toArray k)) (hD : s.heap.get? D = some (bfm a))
    (h : wpAny (model prog w) A.in1 (Builtin.«list.append» ⟨[.ref a, x], []⟩) (fun fin s' => ∃ v, fin = Fin.done (Flow.ret v) ∧ Q v s') E s) : wpAny (model prog w) A (call (.ref D) [x]) Q E s := by
  refine wpAny_call (codeAny_of_tree ?_)
  show wpAny _ _ (callAny (.ref D) ⟨[x], []⟩) _ _ _
  unfold callAny
  refine wpAny_bind (wpAny_load hD ?_)
  show wpAny _ _ (do checkBoundCall "list.append" ⟨[.ref a, x], []⟩; again (.builtin "list.append" ⟨[.ref a, x], []⟩)) _ _ _
  refine wpAny_bind (la_check hx (wpAny_pure ⟨plainId_quiet PySem.slot_list_append.plain _, ?_⟩))
  refine codeAny_builtin PySem.entry_list_append ?_
  rw [Around.under_plainId PySem.slot_list_append.plain]
  refine wpAny_mono h (fun fin s' hf => ?_) fun _ _ e => e
  obtain ⟨v, rfl, hv⟩ := hf
  exact hv
end Mine
end
section
open PySem PySem.W PySem.Calls PyProof.Rows PySem.Spec
namespace Mine
section
variable {c : Cx} {T Z R : List (Addr × Obj)} {σ : St} {s : Shared} {n : Nat} {Q : PV → St → Prop}
theorem callWith_TA {es : List Expr} {pos : Pos} {ty : String} {Q : List PV → St → Prop} {QQ : Value → Shared → Prop} (hs : noStars es = true) (r : Rel c T Z R σ s) (h : WA c es Q σ)
    (hq : ∀ vs s', PostL c T Z R Q vs s' → wpAny (model c.g.prog c.g.w) c.A (call (.type ty) vs) QQ (fun _ _ => False) s') :
    wpAny (model c.g.prog c.g.w) c.A (callWith pos (.type ty) [] (backTo pos (starEach es c.env)) []) QQ (fun _ _ => False) s :=
  PyProof.Rows.callWith_type (starEach_any hs) (evalArgs_A hs r h hq)
theorem WE.callT {x : Str} {p pos : Pos} {args : List Expr} {ty : String} (ok : c.Ok n) (e : nsIn c.g.K mainGlobals x = some none) (hv : bootBuiltins x = some (.type ty)) (hn : x ≠ "__name__")
    (h : WA c args (fun vs σ1 => WO c (fun ws => call (.type ty) ws) vs Q σ1) σ) (hs : noStars args = true := by rfl) (hx : c.env.kindOf x = some .globalImplicit := by rfl) (hd : (x == ("__debug__" : Str)) = false := by decide) :
    WE c (eval (.Call (.Name x p) args [] pos) c.env) Q σ := by
  refine ⟨?_⟩; intro T Z R s r
  obtain ⟨m, P, F⟩ := r.fr
  refine wpAny_Call_NameR (Name_function_global ok.kind hx (loadGlobal_builtin (by rw [ok.glob]; exact ok.top.g.keeps F.keep) (mg_none_of ok.X ok.top.g e) (by rw [ok.blt]; exact ok.top.b.keeps F.keep) ((ok.top.builtins x hn).trans hv) ?_) hd)
  refine callWith_TA hs r h fun vs s' ⟨pvs, σ', T', Z', q, a, z, hv, r'⟩ => ?_
  exact wpAny_mono (q.run T' Z' R s' vs r' hv) (fun _ _ p => p.up a z) fun _ _ e => e
theorem WT.nameS {x : Str} {pos : Pos} {l : List Nat} {Q : Bool → St → Prop} (ok : c.Ok n) (hx : σ.loc x = some (.str (S l))) (hl : l.length < 9223372036854775808) (h : Q (!l.isEmpty) σ) (hk : c.env.kindOf x = some .local := by rfl) (hd : (x == ("__debug__" : Str)) = false := by decide) :
    WT c (isTrue (.Name x pos) c.env (eval (.Name x pos) c.env)) Q σ := by
  refine WT.val (WE.name ok hx ?_ hk hd) (fun _ => rfl)
  refine truthyS (by rw [S_len]; lia) ?_
  rw [S_len]
  cases l with
  | nil => exact h
  | cons a b =>
    have : (((a :: b).length : Int) != 0) = (!(a :: b).isEmpty) := by simp [bne, BEq.beq]; lia
    rw [this]; exact h
/-- an item of a list that the head has written -/
theorem WO2.itemK {value slice : Expr} {a : Addr} {vs : List Value} {m k : Nat} {x : Str} {t : Tok} (ok : c.Ok n) (hl : c.g.K.lookup a = some (listOf vs.toArray m)) (hk : k < 1000) (hx : vs[k]? = some (.str x t)) (h : Q (.str x) σ)
    (hs : ∀ o j, subscripted slice false o j = operate [o, j] (getItem o j) := by intros; rfl) : WO2 c (subscriptTail value slice) (.raw (.ref a)) (.int k) Q σ := by
  refine ⟨?_⟩; rintro T Z R s _ _ r (_ | _) (_ | _)
  refine kba_turn (value' := PySem.Expr.Name (PySem.Str.ofString "_") ⟨0, 0, 0, 0⟩) (fun _ => rfl) ?_
  exact item_listL ⟨_, r.K ok _ _ hl, rfl, _, rfl⟩ (by lia) (by lia) (by simpa using hx) (r.post0 h .str) (hs _ _) (fun _ => rfl)

-- a bound append
theorem WS.assignApp {x y : Str} {px py pa pos : Pos} {i : Nat} {xs : List PV} {Q : PF → St → Prop} (ok : c.Ok n) (hc : c.comp = none) (hy : σ.loc y = some (.ref i)) (hx : σ.H[i]? = some (.lst xs))
    (h : Q .next { (σ.set x (.ref σ.H.length)) with H := σ.H ++ [.app i] }) (hk : c.env.kindOf x = some .local := by rfl) (hky : c.env.kindOf y = some .local := by rfl) (hd : (y == ("__debug__" : Str)) = false := by decide)
    (hs : swapsWith (.Attribute (.Name y py) "append" pa) (some (.Name x px)) pos.line c.env = pure false := by rfl) : WS c (exec (.Assign [.Name x px] (.Attribute (.Name y py) "append" pa) pos) c.env) Q σ := by
  refine ⟨?_⟩; intro T Z R s r
  refine wpAny_Assign_Name (PyProof.Rows.Attribute_name ?_) hs
  have hn := (WE.name (c := c) (σ := σ) (pos := py) (Q := fun a σ1 => a = .ref i ∧ σ1 = σ) ok hy ⟨rfl, rfl⟩ hky hd).run T Z R s r
  refine wpAny_mono hn (fun v s' p => ?_) fun _ _ e => e
  obtain ⟨pv, σ', T', Z', ⟨rfl, rfl⟩, a, z, hv, r'⟩ := p
  obtain ⟨D, vs, k, rfl, h1, h2, t⟩ := r'.tracked hv hx
  obtain ⟨m, P, F⟩ := r'.fr
  obtain ⟨hh, tk, rfl⟩ := r'.sh
  refine getAttr_append h2 fun tk2 => ?_
  have hDa : (ads T')[i]? = some D := by simp [ads, h1]
  have r2 := r'.grow (tk := tk2) (po := .app i) (o := bfm D) rfl P (F.push _) (r'.N.push F _) (.app (by
    have := (List.getElem?_eq_some_iff.mp hDa).1
    rw [List.getElem?_append_left this]; exact hDa))
  refine r2.store (pv := .ref σ'.H.length) ok hc (.ref ?_) hk fun s2 r3 => ⟨_, _, _, Z', h, z, .next, r3⟩
  show (ads (T' ++ [_]))[σ'.H.length]? = _
  rw [← P.len]
  simp [ads]
theorem callWith_bound {M : Model} {A : Around} {E : Value → Shared → Prop} {s : Shared} {pos : Pos} {D : Addr} {args : List (Bool × Sem Value)} {Q : Value → Shared → Prop} (hplain : args.any (·.1) = false)
    (h : wpAny M A (evalArgs (.ref D) true args []) (fun a s₁ => (∃ l, s₁.heap.get? D = some (bfm l)) ∧ wpAny M A (call (.ref D) a.pos a.kw) Q E s₁) E s) :
    wpAny M A (callWith pos (.ref D) [] args []) Q E s := by
  unfold callWith
  refine wpAny_bind (wpAny_holding (wpAny_mono h (fun a s₁ h₁ => wpAny_bind (wpAny_standAt ?_)) fun _ _ x => x))
  obtain ⟨⟨l, h1⟩, h2⟩ := h₁
  simp only [hplain, List.any_nil, Bool.or_false]
  have hk : wpAny M A (keeperOf (.ref D)) (fun k s' => k = .machine ∧ s' = s₁) E s₁ := by
    unfold keeperOf
    refine wpAny_bind (wpAny_load h1 ?_)
    exact wpAny_pure ⟨rfl, rfl⟩
  refine wpAny_bind (wpAny_mono hk ?_ fun _ _ e => e)
  rintro _ _ ⟨rfl, rfl⟩
  refine wpAny_bind ?_
  show wpAny _ _ (call (.ref D) ([] ++ a.pos) a.kw) _ _ _
  exact wpAny_mono h2 (fun r s₂ hr => wpAny_bind (wpAny_holding (wpAny_point (wpAny_pure hr)))) fun _ _ x => x
theorem WE.callApp {x : Str} {p pos : Pos} {e : Expr} {j : Nat} (ok : c.Ok n) (hx : σ.loc x = some (.ref j))
    (h : WE c (eval e c.env) (fun a σ1 => ∃ i xs, σ1.H[j]? = some (.app i) ∧ σ1.H[i]? = some (.lst xs) ∧ xs.length ≤ sizeLine ∧ Q .none { σ1 with H := σ1.H.set i (.lst (xs ++ [a])) }) σ)
    (hs : noStars [e] = true := by rfl) (hk : c.env.kindOf x = some .local := by rfl) (hd : (x == ("__debug__" : Str)) = false := by decide) :
    WE c (eval (.Call (.Name x p) [e] [] pos) c.env) Q σ := by
  refine ⟨?_⟩; intro T Z R s r
  have hn := (WE.name (c := c) (σ := σ) (pos := p) (Q := fun a σ1 => a = .ref j ∧ σ1 = σ) ok hx ⟨rfl, rfl⟩ hk hd).run T Z R s r
  refine wpAny_Call_NameR (wpAny_mono hn (fun v s' pp => ?_) fun _ _ e => e)
  obtain ⟨pv, σ', T', Z', ⟨rfl, rfl⟩, a, z, hv, r'⟩ := pp
  cases hv
  rename_i D hD
  refine callWith_bound (starEach_any hs) ?_
  refine evalArgs_A hs r' (Q := fun vs σ1 => ∃ a i xs, vs = [a] ∧ σ1.H[j]? = some (.app i) ∧ σ1.H[i]? = some (.lst xs) ∧ xs.length ≤ sizeLine ∧ Q .none { σ1 with H := σ1.H.set i (.lst (xs ++ [a])) }) (WA.cons_ (WE.mono h fun a σ1 ⟨i, xs, h1, h2, h3, h4⟩ => WA.nil_ ⟨a, i, xs, rfl, h1, h2, h3, h4⟩)) fun vs s' pl => ?_
  obtain ⟨pvs, σ2, T2, Z2, ⟨pa, i, xs, rfl, hj, hi, hz, hq⟩, a2, z2, hvs, r2⟩ := pl
  cases hvs with
  | cons hv0 hnil =>
    rename_i v0 vs0
    cases hnil
    have hD2 : (ads T2)[j]? = some D := by rw [a2]; exact hD
    obtain ⟨m, P, F⟩ := r2.fr
    have hD3 := hD2
    rw [List.getElem?_map] at hD3
    obtain ⟨p2, hp2, hpD⟩ := Option.map_eq_some_iff.mp hD3
    have o := P.ob j p2 _ hp2 hj
    obtain ⟨pa2, po2⟩ := p2
    dsimp only at hpD
    subst hpD
    cases o with
    | app hl =>
      rename_i l
      have gD := (r2.N _ (List.mem_append_left _ (List.mem_of_getElem? hp2))).1
      obtain ⟨D', ws, k, hDl, h1, h2, t⟩ := r2.tracked (.ref hl) hi
      have hDl' : l = D' := by injection hDl
      subst hDl'
      refine ⟨⟨_, gD⟩, ?_⟩
      refine call_bound h2 gD ?_
      show wpAny _ _ (updateSeq l (·.push v0) >>= fun _ => PySem.ret .none) _ _ s'
      refine wpAny_bind (wpAny_updateSeq h2 rfl (wpAny_pure ⟨.none, rfl, ?_⟩) (by rw [List.size_toArray, t.length]; exact hz) (by rw [Array.size_push, List.size_toArray, t.length]; lia))
      have e3 : (s'.heap.update l (Obj.mapSeq (·.push v0))).get? l = some (listOf (ws ++ [v0]).toArray (k + 1)) := by
        rw [Heap.get?_update_self _ h2 (by rw [Obj.mapSeq_push_plain]; rfl), Obj.mapSeq_push_plain]
        simp
      have r3 := r2.mut (tk := s'.toks) (po' := .lst (xs ++ [pa])) h1 (Heap.SameBut.update _ _ _) e3 (.lst (t.append (.cons hv0 .nil)))
      exact ⟨_, _, _, Z2, hq, (ads_set h1).trans (a2.trans a), fun p hp => z2 p (z p hp), .none, r3⟩
end
end Mine
end
section
open PySem PySem.W PySem.Calls PyProof.Rows PySem.Spec
namespace Mine
open PySem.Builtin PySem.Builtin.Str PySem.StrLaws
noncomputable def okC (c : Nat) : Prop := c = 9 ∨ c = 10 ∨ (32 ≤ c ∧ c ≤ 126)
theorem okC_lt {c : Nat} (h : okC c) : c < 127 := by rcases h with h | h | h <;> lia
theorem okC_break {c : Nat} (h : okC c) : Unicode.isLineBreak c = (c == 10) := by
  have : ∀ c : Fin 127, (c.val = 9 ∨ c.val = 10 ∨ (32 ≤ c.val ∧ c.val ≤ 126)) → Unicode.isLineBreak c.val = (c.val == 10) := by decide +kernel
  exact this ⟨c, okC_lt h⟩ h
noncomputable def spF (start cur : Nat) : List Nat → List (Nat × Nat × Nat)
  | [] => if start < cur then [(start, cur, cur)] else []
  | c :: r => if c = 10 then (start, cur, cur + 1) :: spF (cur + 1) (cur + 1) r else spF start (cur + 1) r
theorem sp_run (l : List Nat) (hl : ∀ c ∈ l, okC c) : ∀ (rest pre : List Nat) (lines : Array (Nat × Nat × Nat)) (start : Nat), pre ++ rest = l → start ≤ pre.length →
    lsEnd (S l) (Id.run (forIn (m := Id) (List.range' pre.length rest.length) ((lines, start) : LsSt) (lsBody (S l)))) = lines.toList ++ spF start pre.length rest := by
  intro rest
  induction rest with
  | nil =>
    intro pre lines start he hs
    have hlen : (S l).length = pre.length := by rw [S_len, ← he]; simp
    simp only [List.length_nil, List.range'_zero, List.forIn_nil]
    show lsEnd (S l) (lines, start) = _
    unfold lsEnd spF
    rw [hlen]
    by_cases h : start < pre.length
    · simp [h]
    · simp [h]
  | cons c r ih =>
    intro pre lines start he hs
    have hget : (S l).cps.getD pre.length 0 = c := by
      have : l[pre.length]? = some c := by rw [← he]; simp
      show l.toArray.getD pre.length 0 = c
      have h2 := (List.getElem?_eq_some_iff.mp this)
      obtain ⟨h3, h4⟩ := h2
      simp only [Array.getD, List.size_toArray]
      rw [dif_pos h3]
      simpa using h4
    have hok : okC c := hl c (by rw [← he]; simp)
    have he' : (pre ++ [c]) ++ r = l := by rw [← he]; simp
    have hlen' : (pre ++ [c]).length = pre.length + 1 := by simp
    rw [List.length_cons, List.range'_succ, List.forIn_cons]
    unfold lsBody
    rw [hget, okC_break hok]
    by_cases hc : c = 10
    · subst hc
      have hnext : lsNext (S l) pre.length = pre.length + 1 := by
        unfold lsNext
        rw [hget]; rfl
      simp only [hs, decide_true, beq_self_eq_true, Bool.and_self, if_true, hnext]
      have := ih (pre ++ [10]) (lines.push (start, pre.length, pre.length + 1)) (pre.length + 1) he' (by simp)
      rw [hlen'] at this
      show lsEnd (S l) (Id.run (forIn (List.range' (pre.length + 1) r.length) _ (lsBody (S l)))) = _
      rw [this]
      simp [spF]
    · have hcb : (c == 10) = false := by simpa using hc
      simp only [hcb, Bool.and_false, Bool.false_eq_true, if_false]
      have := ih (pre ++ [c]) lines start he' (by simp; lia)
      rw [hlen'] at this
      show lsEnd (S l) (Id.run (forIn (List.range' (pre.length + 1) r.length) _ (lsBody (S l)))) = _
      rw [this]
      simp [spF, hc]
noncomputable def lnF (acc : List Nat) : List Nat → List (List Nat)
  | [] => if acc = [] then [] else [acc]
  | c :: r => if c = 10 then acc :: lnF [] r else lnF (acc ++ [c]) r
noncomputable def linesL (l : List Nat) : List (List Nat) := lnF [] l
theorem spF_lines (l : List Nat) : ∀ (rest pre : List Nat) (start : Nat), pre ++ rest = l → start ≤ pre.length →
    ((spF start pre.length rest).map fun (p : Nat × Nat × Nat) => strSub (S l) p.1 p.2.1) = (lnF (pre.drop start) rest).map S := by
  intro rest
  induction rest with
  | nil =>
    intro pre start he hs
    unfold spF lnF
    rw [List.append_nil] at he
    subst he
    by_cases h : start < pre.length
    · rw [if_pos h, if_neg (by intro h2; rw [List.drop_eq_nil_iff] at h2; lia)]
      simp only [List.map_cons, List.map_nil]
      congr 1
      apply Str.ext'
      apply Array.ext'
      rw [strSub_toList, S_list, S_list, List.take_of_length_le (by simp)]
    · rw [if_neg h, if_pos (List.drop_eq_nil_of_le (by lia))]
      rfl
  | cons c r ih =>
    intro pre start he hs
    have he' : (pre ++ [c]) ++ r = l := by rw [← he]; simp
    unfold spF lnF
    by_cases hc : c = 10
    · rw [if_pos hc, if_pos hc]
      have := ih (pre ++ [c]) (pre.length + 1) he' (by simp)
      simp only [List.length_append, List.length_singleton] at this
      rw [List.drop_of_length_le (by simp)] at this
      simp only [List.map_cons]
      rw [this]
      congr 1
      apply Str.ext'
      apply Array.ext'
      rw [strSub_toList, S_list, S_list, ← he, List.drop_append_of_le_length hs, List.take_append_of_le_length (by simp), List.take_of_length_le (by simp)]
    · rw [if_neg hc, if_neg hc]
      have := ih (pre ++ [c]) start he' (by simp; lia)
      simp only [List.length_append, List.length_singleton] at this
      rw [List.drop_append_of_le_length hs] at this
      exact this
theorem lines_S (l : List Nat) (hl : ∀ c ∈ l, okC c) : Txt.lines (S l) = (linesL l).map S := by
  have h1 := sp_run l hl l [] #[] 0 rfl (Nat.le_refl _)
  have h2 := spF_lines l l [] 0 rfl (Nat.le_refl _)
  have h3 : linesOf (S l) = (linesL l).map S := by
    unfold linesOf lineCuts
    rw [List.map_map, ls_eq, S_len]
    simp only [List.length_nil] at h1 h2
    rw [h1]
    exact h2
  unfold Txt.lines
  split
  · rename_i h
    rw [← h3]
    unfold linesOf
    rw [eq_of_beq h]
    simp only [List.map_cons, List.map_nil]
    rw [sub_whole]
  · exact h3
theorem cuts_len (l : List Nat) : (lineCuts (S l)).length ≤ l.length + 1 := by
  have := lineCuts_le (S l)
  rw [S_len] at this
  exact this
theorem lnF_free : ∀ (p acc : List Nat), (10 : Nat) ∉ p → lnF acc p = if acc ++ p = [] then [] else [acc ++ p]
  | [], acc, _ => by simp [lnF]
  | c :: p, acc, h => by
    have hc : c ≠ 10 := fun e => h (by rw [e]; exact .head _)
    rw [lnF, if_neg hc, lnF_free p (acc ++ [c]) (fun hm => h (.tail _ hm))]
    simp
theorem lnF_cut : ∀ (p acc r : List Nat), (10 : Nat) ∉ p → lnF acc (p ++ 10 :: r) = (acc ++ p) :: lnF [] r
  | [], acc, r, _ => by simp [lnF]
  | c :: p, acc, r, h => by
    have hc : c ≠ 10 := fun e => h (by rw [e]; exact .head _)
    rw [List.cons_append, lnF, if_neg hc, lnF_cut p (acc ++ [c]) r (fun hm => h (.tail _ hm))]
    simp
/-- the lines of joined rows: a last empty row is no line -/
theorem lines_join : ∀ (ps : List (List Nat)), (∀ p ∈ ps, (10 : Nat) ∉ p) → linesL (joinL [10] ps) = if ps.getLast? = some [] then ps.dropLast else ps
  | [], _ => rfl
  | [p], h => by
    show lnF [] p = _
    rw [lnF_free p [] (h p (.head _))]
    cases p with
    | nil => rfl
    | cons a b => simp
  | p :: q :: r, h => by
    have ih := lines_join (q :: r) fun x hx => h x (.tail _ hx)
    show lnF [] (p ++ [10] ++ joinL [10] (q :: r)) = _
    rw [List.append_assoc, List.singleton_append, lnF_cut p [] _ (h p (.head _))]
    have e : lnF [] (joinL [10] (q :: r)) = linesL (joinL [10] (q :: r)) := rfl
    rw [e, ih, List.getLast?_cons_cons]
    split
    · simp
    · simp
-- blanks at the end
theorem spS_one : ∀ c : Fin 127, (c.val = 9 ∨ c.val = 10 ∨ (32 ≤ c.val ∧ c.val ≤ 126)) → spS ⟨#[c.val]⟩ = (c.val == 9 || c.val == 10 || c.val == 32) := by decide +kernel
theorem rstrip_S (p ws : List Nat) (hp : ∀ c ∈ p, okC c) (hw : ∀ c ∈ ws, c = 9 ∨ c = 32) (hl : ∀ c, p.getLast? = some c → c ≠ 9 ∧ c ≠ 10 ∧ c ≠ 32) : Txt.rstrip (S (p ++ ws)) = S p := by
  have hall : ∀ c ∈ p ++ ws, okC c := by
    intro c hc
    rcases List.mem_append.mp hc with h | h
    · exact hp c h
    · rcases hw c h with h | h <;> (subst h; unfold okC; lia)
  have hA : ∀ c ∈ (S (p ++ ws)).cps.toList, c < 128 := by
    intro c hc; rw [S_list] at hc; have := okC_lt (hall c hc); lia
  have hat : ∀ k c, (p ++ ws)[k]? = some c → (S (p ++ ws)).cps.getD k 0 = c := by
    intro k c h
    obtain ⟨h1, h2⟩ := List.getElem?_eq_some_iff.mp h
    show (p ++ ws).toArray.getD k 0 = c
    simp only [Array.getD, List.size_toArray]
    rw [dif_pos h1]
    simpa using h2
  obtain ⟨hi, h1, h2, h3, h4⟩ := rstrip_cut hA
  rw [S_len, List.length_append] at h1
  have key : hi = p.length := by
    rcases Nat.lt_trichotomy hi p.length with h | h | h
    · exfalso
      have hne : p ≠ [] := by intro e; rw [e] at h; simp at h
      have hlast : p.getLast? = some (p.getLast hne) := List.getLast?_eq_some_getLast hne
      have hx := hl _ hlast
      have hg : (p ++ ws)[p.length - 1]? = some (p.getLast hne) := by
        rw [List.getElem?_append_left (by lia), ← List.getLast?_eq_getElem?, hlast]
      have h5 := h3 (p.length - 1) (by lia) (by rw [S_len, List.length_append]; lia)
      rw [hat _ _ hg] at h5
      have hok := hp _ (List.getLast_mem hne)
      have h6 := spS_one ⟨_, okC_lt hok⟩ hok
      dsimp only at h6
      rw [h6] at h5
      simp at h5
      lia
    · exact h
    · exfalso
      rcases h4 with h4 | h4
      · lia
      · obtain ⟨c, hc⟩ : ∃ c, (p ++ ws)[hi - 1]? = some c := ⟨_, List.getElem?_eq_getElem (by rw [List.length_append]; lia)⟩
        rw [hat _ _ hc] at h4
        have hcw : c ∈ ws := by
          rw [List.getElem?_append_right (by lia)] at hc
          exact List.mem_of_getElem? hc
        rcases hw c hcw with rfl | rfl
        · revert h4; decide +kernel
        · revert h4; decide +kernel
  rw [h2, key]
  apply Str.ext'
  apply Array.ext'
  rw [strSub_toList, S_list, S_list]
  simp
theorem endswith_S (d : List Nat) (k : Nat) : Txt.endswith (S d) (S [k]) = (d.getLast? == some k) := by
  unfold Txt.endswith
  rw [subAt_eq, S_list, S_list, S_len, S_len]
  cases hd : d.getLast? with
  | none =>
    have : d = [] := List.getLast?_eq_none_iff.mp hd
    subst this
    rfl
  | some c =>
    have hne : d ≠ [] := by intro e; rw [e] at hd; cases hd
    have hl : 1 ≤ d.length := by cases d with | nil => exact absurd rfl hne | cons _ _ => simp
    obtain ⟨e, he⟩ : ∃ e, d = e ++ [c] := ⟨d.dropLast, by
      have := List.dropLast_concat_getLast hne
      rw [List.getLast?_eq_some_getLast hne] at hd
      cases hd
      exact this.symm⟩
    subst he
    rw [Bool.eq_iff_iff]
    simp
end Mine
end
section
open PySem PySem.W PySem.Calls PyProof.Rows PySem.Spec
namespace Mine
inductive Dec : List Nat → List Nat → Prop
  | soft : Dec [61] []
  | plain1 {c} : c ≠ 61 → Dec [c] [c, 10]
  | plain {c r o} : c ≠ 61 → r ≠ [] → Dec r o → Dec (c :: r) (c :: o)
  | esc1 {a b} : a < 16 → b < 16 → Dec [61, hexd a, hexd b] [16 * a + b, 10]
  | esc {a b r o} : a < 16 → b < 16 → r ≠ [] → Dec r o → Dec (61 :: hexd a :: hexd b :: r) ((16 * a + b) :: o)
structure DLine where
  raw : List Nat
  str : List Nat
  out : List Nat
structure DLine.Good (d : DLine) : Prop where
  strip : Txt.rstrip (S d.raw) = S d.str
  len : d.raw.length < 1000000 ∧ d.str.length < 1000000
  dec : (d.str = [] ∧ d.out = [10]) ∨ (d.str ≠ [] ∧ Dec d.str d.out)
noncomputable def decTail (e D : List Nat) : List Nat := if (e.getLast? ≠ some 10 ∧ e.getLast? ≠ some 13) ∧ D.getLast? = some 10 then D.dropLast else D
noncomputable def hexAll : List Nat := [48,49,50,51,52,53,54,55,56,57,97,98,99,100,101,102,65,66,67,68,69,70]
theorem hexAll_has {k : Nat} (h : k < 16) : hexAll.contains (hexd k) = true := by
  have : ∀ k : Fin 16, hexAll.contains (hexd k.val) = true := by decide
  exact this ⟨k, h⟩
structure GD (g : Gl) : Prop where
  hexdigits : ∃ t, nsIn g.K mainGlobals "hexdigits" = some (some (.str (S hexAll) t))
  crlf : ∃ t, nsIn g.K mainGlobals "CRLF" = some (some (.str (S [13, 10]) t))
  unquote : FnAt g.K "unquote" fd_unquote 1 ["s"] []
  quote : FnAt g.K "quote" fd_quote 1 ["c"] []
  qmap : ∃ a vs m, nsIn g.K mainGlobals "_QUOPRI_MAP" = some (some (.ref a)) ∧ g.K.lookup a = some (listOf (List.toArray vs) m) ∧ ∀ k, k = 9 ∨ k = 32 → ∃ t, vs[k]? = some (.str (S (esc k)) t)
  bmap : ∃ a vs m, nsIn g.K mainGlobals "_QUOPRI_BODY_ENCODE_MAP" = some (some (.ref a)) ∧ g.K.lookup a = some (listOf (List.toArray vs) m) ∧ ∀ k, k < 256 → ∃ t, vs[k]? = some (.str (S (if k = 10 ∨ k = 13 then [k] else piece k)) t)
section
variable {c : Cx} {T Z R : List (Addr × Obj)} {σ : St} {s : Shared} {n : Nat} {Q : PV → St → Prop}
theorem WS.mid {t : Sem Flow} {Q2 : St → Prop} {Q : PF → St → Prop} (Mid : St → Prop) (h1 : WS c t (thn Mid Q) σ) (h2 : ∀ σ, Mid σ → Q2 σ) : WS c t (thn Q2 Q) σ :=
  WS.mono h1 fun f σ' h => by
    cases f with
    | next => exact h2 _ h
    | cont => exact h
    | ret v => exact h
theorem truthyB {b : Bool} {Q : Bool → St → Prop} (h : Q b σ) :
    ∀ T Z R s v, Rel c T Z R σ s → VR (ads T) Z v (.bool b) → wpAny (model c.g.prog c.g.w) c.A (truthy v) (PostB c T Z R Q) (fun _ _ => False) s := by
  rintro T Z R s _ r (_ | _)
  exact wpAny_truthy_bool ⟨σ, T, Z, h, rfl, fun _ h => h, r⟩
end
end Mine
end
section
open PySem PySem.W PySem.Calls PyProof.Rows PySem.Spec
namespace Mine
noncomputable def bmapF (k : Nat) : List Nat := if k = 10 ∨ k = 13 then [k] else piece k
noncomputable def cutK (w : Nat) (r : List Nat) : Nat := if r[w - 3]? = some 61 then w - 3 else if r[w - 2]? = some 61 then w - 2 else w - 1
noncomputable def encF (w : Nat) : Nat → List Nat → List (List Nat) × List Nat
  | 0, r => ([], r)
  | n + 1, r => if w < r.length then ((r.take (cutK w r) ++ [61]) :: (encF w n (r.drop (cutK w r))).1, (encF w n (r.drop (cutK w r))).2) else ([], r)
noncomputable def encTail (w : Nat) (r : List Nat) : List Nat := match r.getLast? with
  | some k => if isWs k = true then (if r.length + 2 ≤ w then r.dropLast ++ esc k else if r.length + 1 = w then r.dropLast ++ ([k] ++ [61, 10]) else r.dropLast ++ ([61, 10] ++ esc k)) else r
  | none => r
noncomputable def encLine (w : Nat) (line : List Nat) : List (List Nat) := (encF w line.length line).1 ++ [encTail w (encF w line.length line).2]
noncomputable def encItems (w : Nat) (tb : List Nat) : List (List Nat) := (linesL tb).flatMap (encLine w) ++ (if tb.getLast? = some 10 then [[]] else [])
noncomputable def encBody (w : Nat) (b : List Nat) : List Nat := joinL [10] (encItems w (b.flatMap bmapF))
theorem cutK_bounds {w : Nat} {r : List Nat} (hw : 4 ≤ w) : 1 ≤ cutK w r ∧ cutK w r ≤ w - 1 := by
  unfold cutK
  split
  · lia
  · split <;> lia
theorem encF_count (w : Nat) : ∀ n r, (encF w n r).1.length ≤ n
  | 0, _ => Nat.le_refl _
  | n + 1, r => by
    rw [encF]
    split
    · simp only [List.length_cons]; have := encF_count w n (r.drop (cutK w r)); lia
    · exact Nat.zero_le _
theorem drop_last {l : List Nat} {k : Nat} (h : k < l.length) : (l.drop k).getLast? = l.getLast? := by
  rw [List.getLast?_drop, if_neg (by lia)]
end Mine
end
section
open PySem PySem.W PySem.Calls PyProof.Rows PySem.Spec
namespace Mine
section
variable {c : Cx} {T Z R : List (Addr × Obj)} {σ : St} {s : Shared} {n : Nat} {Q : PV → St → Prop}
theorem Rel.memR {R' : List (Addr × Obj)} (r : Rel c T Z R σ s) (h : ∀ p, p ∈ R' → p ∈ R) (hh : ∀ p, p ∈ R → p ∈ R') : Rel c T Z R' σ s := by
  obtain ⟨m, P, F⟩ := r.fr
  refine ⟨r.sh, ?_, m, ?_, F⟩
  · intro p hp
    refine r.N p ?_
    simp only [List.mem_append] at hp ⊢
    rcases hp with h1 | h1 | h1
    · exact .inl h1
    · exact .inr (.inl h1)
    · exact .inr (.inr (h p h1))
  · refine ⟨fun x pv e => ?_, P.nd, ?_, fun p hp q hq => P.dZ p hp q (h q hq), P.len, P.ob, P.ce, P.mm⟩
    · obtain ⟨v, hv, hm⟩ := P.loc x pv e
      refine ⟨v, hv, ?_⟩
      unfold Cx.Holds at hm ⊢
      split at hm
      · exact hm
      · obtain ⟨o, es, ep, h1, h2⟩ := hm
        exact ⟨o, es, ep, hh _ h1, h2⟩
    · intro p hp q hq
      refine P.dT p hp q ?_
      rcases List.mem_append.mp hq with h1 | h1
      · exact List.mem_append_left _ h1
      · exact List.mem_append_right _ (h q h1)
/-- less is known of the names -/
theorem Rel.weak {σ' : St} (r : Rel c T Z R σ s) (hl : ∀ x pv, σ'.loc x = some pv → σ.loc x = some pv) (hH : σ'.H = σ.H) (hc : ∀ x i, σ'.cel x = some i → σ.cel x = some i) : Rel c T Z R σ' s := by
  obtain ⟨m, P, F⟩ := r.fr
  refine ⟨r.sh, r.N, m, ?_, F⟩
  exact ⟨fun x pv e => P.loc x pv (hl x pv e), P.nd, P.dT, P.dZ, by rw [hH]; exact P.len, fun i p po e1 e2 => P.ob i p po e1 (by rw [← hH]; exact e2), fun x i e => P.ce x i (hc x i e), P.mm⟩
/-- the iterator alone is turned -/
theorem Rel.butI {I : Addr} {h' : Heap} {tk : Nat} (r : Rel c T Z R σ s) (hk : ∀ b o, b ∉ [I] → s.heap.get? b = some o → h'.get? b = some o) (hap : ∀ p ∈ T ++ (Z ++ R), p.1 ≠ I) (hL : c.L ≠ I) (hI : c.h₀.get? I = none) : Rel c T Z R σ { s with heap := h', toks := tk } := by
  obtain ⟨hh, t, rfl⟩ := r.sh
  obtain ⟨m, P, F⟩ := r.fr
  exact ⟨⟨h', tk, rfl⟩, LCg.news_but r.N hk hap, m, P, LCg.fr_but F hk hL hI⟩
noncomputable def isNs (o : Obj) : Prop := ∃ es ep, o.data = .dict es ep ∧ StrKeys es
theorem Rel.storeC {C : Addr} {oC : Obj} {R0 : List (Addr × Obj)} {x : Str} {v : Value} {pv : PV} {Q : Unit → Shared → Prop} {E : Value → Shared → Prop} (ok : c.Ok n) (hcomp : c.comp = some C) (hns : isNs oC) (r : Rel c T Z ((C, oC) :: R0) σ s) (hR : ∀ p ∈ R0, p.1 ≠ C) (hv : VR (ads T) Z v pv) (hk : c.env.kindOf x = some .local)
    (h : ∀ oC' s', isNs oC' → Rel c T Z ((C, oC') :: R0) (σ.set x pv) s' → (∀ b o, b ≠ C → s.heap.get? b = some o → s'.heap.get? b = some o) → Q () s') : wpAny (model c.g.prog c.g.w) c.A (storeName c.env x v) Q E s := by
  obtain ⟨hh, tk, rfl⟩ := r.sh
  obtain ⟨m, P, F⟩ := r.fr
  have hl : c.env.locals = C := by have := ok.locs; rw [hcomp] at this; exact this
  obtain ⟨es, ep, hd, hsk⟩ := hns
  have hmem : (C, oC) ∈ T ++ (Z ++ ((C, oC) :: R0)) := List.mem_append_right _ (List.mem_append_right _ (.head _))
  have hNC := r.N _ hmem
  have hN : hh.Ns C (nsFind es) := ⟨oC, es, ep, hNC.1, hd, hsk, fun _ => rfl⟩
  refine wpAny_storeName_local hk (m := nsFind es) (hl ▸ hN) (fun h' hn hs => ?_) (by rw [ok.kind]; rfl)
  rw [hl] at hn hs
  obtain ⟨oC', es', ep', e1, e2, e3, e4⟩ := hn
  have hne : ∀ p ∈ T ++ (Z ++ R0), p.1 ≠ C := by
    intro p hp
    simp only [List.mem_append] at hp
    rcases hp with h1 | h1 | h1
    · exact P.dT p h1 (C, oC) (List.mem_append_right _ (.head _))
    · exact P.dZ p h1 (C, oC) (.head _)
    · exact hR p h1
  refine h oC' _ ⟨es', ep', e2, e3⟩ ⟨⟨h', _, rfl⟩, ?_, m, ?_, F.change hs hNC.2.1 hNC.2.2⟩ (fun b o hb e => hs.extBut b o hb e)
  · intro p hp
    simp only [List.mem_append, List.mem_cons] at hp
    rcases hp with h1 | h1 | rfl | h1
    · have := r.N p (List.mem_append_left _ h1)
      exact ⟨hs.extBut _ _ (hne p (by simp [h1])) this.1, this.2⟩
    · have := r.N p (List.mem_append_right _ (List.mem_append_left _ h1))
      exact ⟨hs.extBut _ _ (hne p (by simp [h1])) this.1, this.2⟩
    · exact ⟨e1, hNC.2⟩
    · have := r.N p (List.mem_append_right _ (List.mem_append_right _ (.tail _ h1)))
      exact ⟨hs.extBut _ _ (hne p (by simp [h1])) this.1, this.2⟩
  · refine ⟨fun y qv e => ?_, P.nd, ?_, ?_, P.len, P.ob, P.ce, P.mm⟩
    · unfold St.set at e
      dsimp only at e
      by_cases hy : y = x
      · rw [if_pos hy] at e
        cases e
        refine ⟨v, hv, ?_⟩
        unfold Cx.Holds; rw [hcomp]
        exact ⟨oC', es', ep', .head _, e2, e3, by rw [e4]; simp [hy]⟩
      · rw [if_neg hy] at e
        obtain ⟨u, hu, hm⟩ := P.loc y qv e
        refine ⟨u, hu, ?_⟩
        unfold Cx.Holds at hm ⊢
        rw [hcomp] at hm ⊢
        obtain ⟨o, es2, ep2, h1, h2, h3, h4⟩ := hm
        have ho : o = oC := by
          have := (r.N (C, o) (List.mem_append_right _ (List.mem_append_right _ h1))).1
          rw [hNC.1] at this
          exact (Option.some.inj this).symm
        subst ho
        rw [hd] at h2
        cases h2
        exact ⟨oC', es', ep', .head _, e2, e3, by rw [e4]; simp [hy, h4]⟩
    · intro p hp q hq
      simp only [List.mem_append, List.mem_cons] at hq
      rcases hq with h1 | rfl | h1
      · exact P.dT p hp q (List.mem_append_left _ h1)
      · exact P.dT p hp (C, oC) (List.mem_append_right _ (.head _))
      · exact P.dT p hp q (List.mem_append_right _ (.tail _ h1))
    · intro p hp q hq
      rcases List.mem_cons.mp hq with rfl | h1
      · exact P.dZ p hp (C, oC) (.head _)
      · exact P.dZ p hp q (.tail _ h1)

theorem comp_loop {C I : Addr} {R0 Z0 : List (Addr × Obj)} {asT : List Addr} {elt iter : Expr} {gens : List Comprehension} {scope : Scope} {pos px : Pos} {depth : Nat} {x : Str} {acc : Value} {fp : List Addr} {nn : Nat} {P : Nat → Value → Prop} {St' : Nat → Heap → Prop}
    (ok : c.Ok n) (hcomp : c.comp = some C) (hk : c.env.kindOf x = some .local) (W : Walks c.g.prog c.g.w c.A I fp [I] nn P St') (hfp : ∀ b ∈ fp, b = I ∨ ∃ o, (b, o) ∈ Z0) (hSt : ∀ i h, St' i h → ∃ o, h.get? I = some o)
    (hIL : c.L ≠ I) (hI0 : c.h₀.get? I = none) (hIC : I ≠ C) (hR0 : ∀ p ∈ R0, p.1 ≠ C ∧ p.1 ≠ I) (xs : List PV) (hnn : nn = xs.length) (hP : ∀ i v, P i v → i < nn → ∃ y, xs[i]? = some y ∧ ∀ T', VR T' Z0 v y)
    (Inv : List PV → St → Prop) (act : Sem Unit)
    (hturn : compTurn (.ListComp elt gens scope pos) depth (.ref I) acc c.env = (standAt iter.pos >>= fun _ => pyNext (.ref I) >>= fun r => match r with
      | none => pure (.done .next)
      | some v => letOwnedTupleGo (.Name x px) (.ref I) v >>= fun _ => assign (.Name x px) c.env v >>= fun _ => act >>= fun _ => again (.compLoop (.ListComp elt gens scope pos) depth (.ref I) acc c.env)))
    (hact : ∀ pre y post σ T Z oI oC s, xs = pre ++ y :: post → Inv pre σ → (∀ p ∈ Z0, p ∈ Z) → ads T = asT → isNs oC → Rel c T Z ((I, oI) :: (C, oC) :: R0) (σ.set x y) s →
      wpAny (model c.g.prog c.g.w) c.A act (fun _ s' => ∃ σ' T' Z' oC', Inv (pre ++ [y]) σ' ∧ ads T' = asT ∧ (∀ p ∈ Z, p ∈ Z') ∧ isNs oC' ∧ Rel c T' Z' ((I, oI) :: (C, oC') :: R0) σ' s') (fun _ _ => False) s)
    (RR : Result → Shared → Prop) (hdone : ∀ σ T Z oC s, Inv xs σ → (∀ p ∈ Z0, p ∈ Z) → ads T = asT → isNs oC → Rel c T Z ((C, oC) :: R0) σ s → RR (.ok .next) s)
    {oC : Obj} (h0 : Inv [] σ) (hns : isNs oC) (r : Rel c T Z0 ((C, oC) :: R0) σ s) (haT : ads T = asT) (hst : St' 0 s.heap) (hap : ∀ p ∈ T ++ Z0, p.1 ≠ I) :
    codeAny (model c.g.prog c.g.w) c.A (.compLoop (.ListComp elt gens scope pos) depth (.ref I) acc c.env) RR s := by
  refine codeAny_loop rfl (fun k s => ∃ i T Z oC σ, k = nn + 1 - i ∧ i ≤ nn ∧ St' i s.heap ∧ Rel c T Z ((C, oC) :: R0) σ s ∧ (∀ p ∈ Z0, p ∈ Z) ∧ ads T = asT ∧ isNs oC ∧ (∀ p ∈ T ++ Z, p.1 ≠ I) ∧ Inv (xs.take i) σ) ?_ (nn + 1)
    ⟨0, T, Z0, oC, σ, rfl, Nat.zero_le _, hst, r, fun _ h => h, haT, hns, hap, by simpa using h0⟩
  rintro k s ⟨i, T, Z, oC, σ, rfl, hi, hst, r, hZ, haT, hns, hap, hinv⟩
  show wpAny _ c.A ((compTurn (.ListComp elt gens scope pos) depth (.ref I) acc c.env).onRaise (fun x => do noteFrame x c.env; theTreesLotGoes x)) _ _ s
  refine wpAny_noted ?_
  rw [hturn]
  refine wpAny_bind (wpAny_standAt (wpAny_bind ?_))
  have hapR : ∀ p ∈ T ++ (Z ++ ((C, oC) :: R0)), p.1 ≠ I := by
    intro p hp
    simp only [List.mem_append, List.mem_cons] at hp
    rcases hp with h | h | rfl | h
    · exact hap p (List.mem_append_left _ h)
    · exact hap p (List.mem_append_right _ h)
    · exact fun e => hIC e.symm
    · exact (hR0 p h).2
  by_cases hlt : i < nn
  · refine W.item i _ _ _ hlt hst fun v h₂ tk₂ hPv hst₂ hk₂ => ?_
    obtain ⟨y, hy, hvy⟩ := hP i v hPv hlt
    have r2 : Rel c T Z ((C, oC) :: R0) σ { s with heap := h₂, toks := tk₂ } := r.butI hk₂ hapR hIL hI0
    dsimp only
    refine wpAny_bind (wpAny_of_eq (rfl : letOwnedTupleGo (.Name x px) (.ref I) v = pure ()) (wpAny_bind (wpAny_assign_Name ?_)))
    refine r2.storeC ok hcomp hns (fun p hp => (hR0 p hp).1) ((hvy (ads T)).mono hZ) hk fun oC' s3 hns3 r3 hkeep3 => ?_
    obtain ⟨oI, hoI2⟩ := hSt _ _ hst₂
    have hoI : s3.heap.get? I = some oI := hkeep3 I oI hIC hoI2
    have hst3 : St' (i + 1) s3.heap := W.frame _ _ _ hst₂ fun b hb o e => by
      rcases hfp b hb with rfl | ⟨ob, hob⟩
      · exact hkeep3 _ o hIC e
      · refine hkeep3 b o ?_ e
        obtain ⟨m2, P2, F2⟩ := r2.fr
        exact P2.dZ (b, ob) (hZ _ hob) (C, oC) (.head _)
    have r4 : Rel c T Z ((I, oI) :: (C, oC') :: R0) (σ.set x y) s3 := by
      obtain ⟨m3, P3, F3⟩ := r3.fr
      refine ⟨r3.sh, ?_, m3, ?_, F3⟩
      · intro p hp
        simp only [List.mem_append, List.mem_cons] at hp
        rcases hp with h | h | rfl | h
        · exact r3.N p (List.mem_append_left _ h)
        · exact r3.N p (List.mem_append_right _ (List.mem_append_left _ h))
        · exact ⟨hoI, hIL.symm, hI0⟩
        · exact r3.N p (List.mem_append_right _ (List.mem_append_right _ (by simpa using h)))
      · refine ⟨fun y qv e => ?_, P3.nd, ?_, ?_, P3.len, P3.ob, P3.ce, P3.mm⟩
        · obtain ⟨u, hu, hm⟩ := P3.loc y qv e
          refine ⟨u, hu, ?_⟩
          unfold Cx.Holds at hm ⊢
          rw [hcomp] at hm ⊢
          obtain ⟨o, es2, ep2, h1, h2⟩ := hm
          exact ⟨o, es2, ep2, .tail _ h1, h2⟩
        · intro p hp q hq
          simp only [List.mem_append, List.mem_cons] at hq
          rcases hq with h1 | rfl | h1
          · exact P3.dT p hp q (List.mem_append_left _ h1)
          · exact hap p (List.mem_append_left _ hp)
          · exact P3.dT p hp q (List.mem_append_right _ (by simpa using h1))
        · intro p hp q hq
          rcases List.mem_cons.mp hq with rfl | h1
          · exact hap p (List.mem_append_right _ hp)
          · exact P3.dZ p hp q h1
    have hsplit : xs = xs.take i ++ y :: xs.drop (i + 1) := by
      have hl2 : i < xs.length := (List.getElem?_eq_some_iff.mp hy).1
      have hh : xs[i] = y := by have := List.getElem?_eq_getElem hl2; rw [this] at hy; exact Option.some.inj hy
      rw [← hh]
      simp
    refine wpAny_bind (wpAny_mono (hact _ y _ σ T Z oI oC' s3 hsplit hinv hZ haT hns3 r4) (fun _ s5 h5 => ?_) fun _ _ e => e.elim)
    obtain ⟨σ5, T5, Z5, oC5, hinv5, haT5, hZ5, hns5, r5⟩ := h5
    obtain ⟨m5, P5, F5⟩ := r5.fr
    refine wpAny_pure ⟨rfl, nn + 1 - (i + 1), by omega, i + 1, T5, Z5, oC5, σ5, rfl, hlt, ?_, ?_, fun p hp => hZ5 p (hZ p hp), haT5, hns5, ?_, ?_⟩
    · refine W.frame _ _ _ hst3 fun b hb o e => ?_
      rcases hfp b hb with rfl | ⟨ob, hob⟩
      · rw [hoI] at e
        cases e
        exact (r5.N (b, oI) (List.mem_append_right _ (List.mem_append_right _ (.head _)))).1
      · have e1 := (r5.N (b, ob) (List.mem_append_right _ (List.mem_append_left _ (hZ5 _ (hZ _ hob))))).1
        have e2 := (r4.N (b, ob) (List.mem_append_right _ (List.mem_append_left _ (hZ _ hob)))).1
        rw [e2] at e
        cases e
        exact e1
    · refine ⟨r5.sh, fun p hp => r5.N p ?_, m5, ?_, F5⟩
      · simp only [List.mem_append, List.mem_cons] at hp ⊢
        rcases hp with h | h | h
        · exact .inl h
        · exact .inr (.inl h)
        · exact .inr (.inr (.inr h))
      · refine ⟨fun y qv e => ?_, P5.nd, fun p hp q hq => P5.dT p hp q ?_, fun p hp q hq => P5.dZ p hp q (.tail _ hq), P5.len, P5.ob, P5.ce, P5.mm⟩
        · obtain ⟨u, hu, hm⟩ := P5.loc y qv e
          refine ⟨u, hu, ?_⟩
          unfold Cx.Holds at hm ⊢
          rw [hcomp] at hm ⊢
          obtain ⟨o, es2, ep2, h1, h2⟩ := hm
          rcases List.mem_cons.mp h1 with e1 | h1
          · exact absurd (congrArg Prod.fst e1).symm hIC
          · exact ⟨o, es2, ep2, h1, h2⟩
        · rcases List.mem_append.mp hq with h | h
          · exact List.mem_append_left _ h
          · exact List.mem_append_right _ (.tail _ h)
    · intro p hp
      rcases List.mem_append.mp hp with h | h
      · exact P5.dT p h (I, oI) (List.mem_append_right _ (.head _))
      · exact P5.dZ p h (I, oI) (.head _)
    · have : xs.take (i + 1) = xs.take i ++ [y] := by rw [List.take_add_one, hy]; rfl
      rw [this]; exact hinv5
  · obtain rfl : i = nn := Nat.le_antisymm hi (Nat.not_lt.mp hlt)
    refine W.done _ _ _ hst fun h₂ tk₂ hk₂ => ?_
    dsimp only
    refine wpAny_pure ?_
    rw [hnn, List.take_length] at hinv
    exact hdone σ T Z oC _ hinv hZ haT hns (r.butI hk₂ hapR hIL hI0)
end
end Mine
end
section
open PySem PySem.W PySem.Calls PyProof.Rows PySem.Spec
namespace Mine
section
variable {as as' : List Addr} {Z Z' : List (Addr × Obj)}
theorem VR.isLt {v x} (h : VR as Z v x) : x.lt as.length :=
  VR.rec (motive_1 := fun _ x _ => x.lt as.length) (motive_2 := fun _ x _ => PV.lts as.length x) trivial trivial trivial trivial trivial (fun h => (List.getElem?_eq_some_iff.mp h).1) (fun _ _ t => t) trivial (fun _ _ h t => ⟨h, t⟩) h
theorem VRs.isLt {v x} (h : VRs as Z v x) : PV.lts as.length x :=
  VRs.rec (motive_1 := fun _ x _ => x.lt as.length) (motive_2 := fun _ x _ => PV.lts as.length x) trivial trivial trivial trivial trivial (fun h => (List.getElem?_eq_some_iff.mp h).1) (fun _ _ t => t) trivial (fun _ _ h t => ⟨h, t⟩) h
theorem OR.cut {o o' : Obj} {po : PO} (h1 : OR as Z o po) (h2 : OR as' Z' o' po) (he : ∀ (i : Nat) (a : Addr), i < as.length → as'[i]? = some a → as[i]? = some a) : OR as Z' o' po := by
  cases h1 with
  | lst t1 => cases h2 with | lst t2 => exact .lst (t2.cutTo he t1.isLt)
  | app e1 => cases h2 with | app e2 => exact .app (he _ _ (List.getElem?_eq_some_iff.mp e1).1 e2)
  | cell d1 t1 => cases h2 with | cell d2 t2 => exact .cell d2 (t2.cutTo he t1.isLt)
  | cell0 d1 => cases h2 with | cell0 d2 => exact .cell0 d2
end
noncomputable def cxC (c : Cx) (scope : Scope) (cl : List (Str × Addr)) (C : Addr) (m : Str → Option Value) : Cx := { c with env := compEnvC scope cl C c.env, comp := some C, m₀ := m }
section
variable {c : Cx} {T Z R : List (Addr × Obj)} {σ : St} {s : Shared} {n : Nat} {Q : PV → St → Prop}
theorem cxC_ok {scope : Scope} {cl : List (Str × Addr)} {C : Addr} {m : Str → Option Value} (ok : c.Ok n) (hk : scope.kind = .function) : (cxC c scope cl C m).Ok n :=
  ⟨ok.hh, ok.X, ok.top, ok.fn, hk, rfl, ok.glob, ok.blt, ok.dep, ok.un⟩
/-- a new comprehension's scope -/
theorem Rel.enter {scope : Scope} {cl : List (Str × Addr)} {cel' : Str → Option Nat} {h₁ : Heap} {tk : Nat} {mC : Str → Option Value} (r : Rel c T Z R σ s) (hc : c.comp = none) (hcel : ∀ y i, cel' y = some i → σ.cel y = some i ∧ ∃ a, cl.lookup y = some a ∧ c.env.cells.lookup y = some a)
    (hns₁ : h₁.Ns (s.heap.objs.size + 1) mC) (hold : ∀ b o, s.heap.get? b = some o → h₁.get? b = some o) (hacc : h₁.get? s.heap.objs.size = some (listOf ([] : List Value).toArray 0)) :
    ∃ m oC, isNs oC ∧ (∃ P : RelP c T Z R σ m, True) ∧ Rel (cxC c scope cl (s.heap.objs.size + 1) m) (T ++ [(s.heap.objs.size, listOf ([] : List Value).toArray 0)]) Z ((s.heap.objs.size + 1, oC) :: R) ⟨fun _ => none, σ.H ++ [.lst []], cel'⟩ { s with heap := h₁, toks := tk } := by
  obtain ⟨hh, t, rfl⟩ := r.sh
  obtain ⟨m, P, F⟩ := r.fr
  obtain ⟨oC, es, ep, e1, e2, e3, e4⟩ := hns₁
  have hN := r.N
  have hlt : ∀ p ∈ T ++ (Z ++ R), p.1 < hh.objs.size := fun p hp => Heap.lt_size (hN p hp).1
  have hnn : ∀ p ∈ T ++ (Z ++ R), p.1 ≠ hh.objs.size ∧ p.1 ≠ hh.objs.size + 1 := fun p hp => ⟨Nat.ne_of_lt (hlt p hp), Nat.ne_of_lt (Nat.lt_succ_of_lt (hlt p hp))⟩
  have hL : c.L < hh.objs.size := F.ns.lt
  have fresh : ∀ a, hh.objs.size ≤ a → c.h₀.get? a = none := fun a ha => by
    cases e : c.h₀.get? a with
    | none => rfl
    | some o' => exact absurd (Heap.lt_size (F.keep a o' e)) (Nat.not_lt.mpr ha)
  refine ⟨m, oC, ⟨es, ep, e2, e3⟩, ⟨P, trivial⟩, ⟨h₁, tk, rfl⟩, ?_, m, ?_, F.keeps hold⟩
  · intro p hp
    simp only [List.mem_append, List.mem_cons, List.not_mem_nil, or_false] at hp
    rcases hp with (h | rfl) | h | rfl | h
    · exact ⟨hold _ _ (hN p (List.mem_append_left _ h)).1, (hN p (List.mem_append_left _ h)).2⟩
    · exact ⟨hacc, Nat.ne_of_gt hL, fresh _ (Nat.le_refl _)⟩
    · have := hN p (List.mem_append_right _ (List.mem_append_left _ h)); exact ⟨hold _ _ this.1, this.2⟩
    · exact ⟨e1, Nat.ne_of_gt (Nat.lt_succ_of_lt hL), fresh _ (Nat.le_succ _)⟩
    · have := hN p (List.mem_append_right _ (List.mem_append_right _ h)); exact ⟨hold _ _ this.1, this.2⟩
  · have ex : ∀ (i : Nat) (a : Addr), (ads T)[i]? = some a → (ads T ++ [hh.objs.size])[i]? = some a := fun i a e => by
      have := (List.getElem?_eq_some_iff.mp e).1
      rw [List.getElem?_append_left this]; exact e
    have ea : ads (T ++ [(hh.objs.size, listOf ([] : List Value).toArray 0)]) = ads T ++ [hh.objs.size] := by simp
    refine ⟨fun x pv e => by (cases e), ?_, ?_, ?_, by simp [P.len], ?_, ?_, fun _ _ => rfl⟩
    · show (ads _).Nodup
      rw [ea]
      refine List.nodup_append.mpr ⟨P.nd, by simp, ?_⟩
      intro a ha b hb e
      rw [List.mem_singleton] at hb
      obtain ⟨p, hp, rfl⟩ := List.mem_map.mp ha
      exact (hnn p (List.mem_append_left _ hp)).1 (e.trans hb)
    · intro p hp q hq
      have hq' : q.1 = hh.objs.size + 1 ∨ q ∈ Z ++ R := by
        simp only [List.mem_append, List.mem_cons] at hq ⊢
        rcases hq with h | rfl | h
        · exact .inr (.inl h)
        · exact .inl rfl
        · exact .inr (.inr h)
      rcases List.mem_append.mp hp with h | h
      · rcases hq' with h2 | h2
        · rw [h2]; exact (hnn p (List.mem_append_left _ h)).2
        · exact P.dT p h q h2
      · rw [List.mem_singleton.mp h]
        rcases hq' with h2 | h2
        · rw [h2]; exact Nat.ne_of_lt (Nat.lt_succ_self _)
        · exact (hnn q (List.mem_append_right _ h2)).1.symm
    · intro p hp q hq
      rcases List.mem_cons.mp hq with rfl | h
      · exact (hnn p (List.mem_append_right _ (List.mem_append_left _ hp))).2
      · exact P.dZ p hp q h
    · intro i p po e1 e2
      show OR (ads _) _ _ _
      rw [ea]
      by_cases hi : i < T.length
      · rw [List.getElem?_append_left hi] at e1
        rw [show (σ.H ++ [.lst []])[i]? = σ.H[i]? from List.getElem?_append_left (by rw [← P.len]; exact hi)] at e2
        exact (P.ob i p po e1 e2).ext ex
      · have h1 := (List.getElem?_eq_some_iff.mp e1).1
        have : i = T.length := by simp at h1; lia
        subst this
        rw [List.getElem?_concat_length] at e1
        rw [show (σ.H ++ [PO.lst []])[T.length]? = some (.lst []) from by rw [P.len]; exact List.getElem?_concat_length] at e2
        cases e1; cases e2
        exact .lst .nil
    · intro x j e
      obtain ⟨h1, a, h2, h3⟩ := hcel x j e
      obtain ⟨b, h4, h5⟩ := P.ce x j h1
      rw [h3] at h4
      cases h4
      exact ⟨a, h2, by show (ads _)[j]? = _; rw [ea]; exact ex _ _ h5⟩
/-- out of a comprehension's scope, with the new list -/
theorem Rel.leave {scope : Scope} {cl : List (Str × Addr)} {C D : Addr} {m : Str → Option Value} {T1 Z1 T' Z' : List (Addr × Obj)} {oC : Obj} {σ' : St} {ys : List PV} {h' : Heap} {s' : Shared} (P : RelP c T1 Z1 R σ m) (hc : c.comp = none)
    (r : Rel (cxC c scope cl C m) T' Z' ((C, oC) :: R) σ' s') (hZ : ∀ p ∈ Z1, p ∈ Z') (haT : ads T' = ads T1 ++ [D]) (hH : σ'.H = σ.H ++ [.lst ys]) (hys : PV.cleans ys) (hs : Heap.SameBut C s'.heap h') (hRC : ∀ p ∈ R, p.1 ≠ C) :
    ∃ T2 vs k, ads T2 = ads T1 ∧ VRs (ads T2) Z' vs ys ∧ Rel c T2 ((D, listOf (List.toArray vs) k) :: Z') R σ { s' with heap := h' } := by
  obtain ⟨hh, t, rfl⟩ := r.sh
  obtain ⟨m', P', F⟩ := r.fr
  have hm : m' = m := P'.mm C rfl
  subst hm
  obtain ⟨T2, p, rfl⟩ : ∃ T0 p, T' = T0 ++ [p] := by
    refine ⟨T'.dropLast, T'.getLast (by intro h; rw [h] at haT; simp at haT), ?_⟩
    exact (List.dropLast_concat_getLast _).symm
  obtain ⟨pD, po⟩ := p
  simp only [ads, List.map_append, List.map_cons, List.map_nil] at haT
  have ha2 : ads T2 = ads T1 ∧ pD = D := by
    have := List.append_inj' haT rfl
    exact ⟨this.1, by simpa using this.2⟩
  obtain ⟨ha2, rfl⟩ := ha2
  have hl2 : T2.length = σ.H.length := by
    have h1 := congrArg List.length ha2
    simp only [ads, List.length_map] at h1
    rw [h1]; exact P.len
  have hob := P'.ob T2.length (pD, po) (.lst ys) List.getElem?_concat_length (by rw [hH, hl2]; exact List.getElem?_concat_length)
  cases hob with
  | lst tt =>
    rename_i vs k
    have hNC := r.N (C, oC) (List.mem_append_right _ (List.mem_append_right _ (.head _)))
    have hne : ∀ p ∈ (T2 ++ [(pD, listOf vs.toArray k)]) ++ Z', p.1 ≠ C := by
      intro p hp
      rcases List.mem_append.mp hp with h | h
      · exact P'.dT p h (C, oC) (List.mem_append_right _ (.head _))
      · exact P'.dZ p h (C, oC) (.head _)
    have he : ∀ (i : Nat) (a : Addr), i < (ads T1).length → (ads (T2 ++ [(pD, listOf vs.toArray k)]))[i]? = some a → (ads T1)[i]? = some a := by
      intro i a hi e
      simp only [ads, List.map_append] at e
      rw [show List.map (·.1) T2 = ads T1 from ha2, List.getElem?_append_left hi] at e
      exact e
    refine ⟨T2, vs, k, ha2, ?_, ⟨h', t, rfl⟩, ?_, m', ?_, F.change hs hNC.2.1 hNC.2.2⟩
    · exact tt.ofClean hys
    · intro p hp
      simp only [List.cons_append, List.mem_append, List.mem_cons] at hp
      have go : ∀ p, p ∈ (T2 ++ [(pD, listOf vs.toArray k)]) ++ (Z' ++ ((C, oC) :: R)) → p.1 ≠ C → h'.get? p.1 = some p.2 ∧ p.1 ≠ c.L ∧ c.h₀.get? p.1 = none := fun p h1 h2 => ⟨hs.extBut _ _ h2 (r.N p h1).1, (r.N p h1).2⟩
      rcases hp with h | rfl | h | h
      · exact go p (List.mem_append_left _ (List.mem_append_left _ h)) (hne p (List.mem_append_left _ (List.mem_append_left _ h)))
      · exact go _ (List.mem_append_left _ (List.mem_append_right _ (.head _))) (hne _ (List.mem_append_left _ (List.mem_append_right _ (.head _))))
      · exact go p (List.mem_append_right _ (List.mem_append_left _ h)) (hne p (List.mem_append_right _ h))
      · exact go p (List.mem_append_right _ (List.mem_append_right _ (.tail _ h))) (hRC p h)
    · have nd := P'.nd
      simp only [List.map_append, List.nodup_append] at nd
      refine ⟨fun x pv e => ?_, nd.1, ?_, ?_, hl2, ?_, ?_, fun C h => by rw [hc] at h; cases h⟩
      · obtain ⟨v, hv, hm⟩ := P.loc x pv e
        refine ⟨v, ?_, ?_⟩
        · show VR (ads T2) _ _ _
          rw [ha2]; exact hv.mono fun p hp => .tail _ (hZ p hp)
        · unfold Cx.Holds at hm ⊢
          rw [hc] at hm ⊢
          exact hm
      · intro p hp q hq
        rw [List.cons_append] at hq
        rcases List.mem_cons.mp hq with rfl | h
        · exact nd.2.2 _ (List.mem_map_of_mem hp) _ (by simp)
        · refine P'.dT p (List.mem_append_left _ hp) q ?_
          rcases List.mem_append.mp h with h | h
          · exact List.mem_append_left _ h
          · exact List.mem_append_right _ (.tail _ h)
      · intro p hp q hq
        rcases List.mem_cons.mp hp with rfl | h
        · exact P'.dT _ (List.mem_append_right _ (.head _)) q (List.mem_append_right _ (.tail _ hq))
        · exact P'.dZ p h q (.tail _ hq)
      · intro i q po' e1 e2
        have hi : i < T2.length := (List.getElem?_eq_some_iff.mp e1).1
        have e3 : (T2 ++ [(pD, listOf vs.toArray k)])[i]? = some q := by rw [List.getElem?_append_left hi]; exact e1
        have e4 : σ'.H[i]? = some po' := by rw [hH, List.getElem?_append_left (by lia)]; exact e2
        have o := P'.ob i q po' e3 e4
        have hi1 : i < T1.length := by
          have h1 := congrArg List.length ha2
          simp only [ads, List.length_map] at h1
          lia
        obtain ⟨q1, hq1⟩ : ∃ q1, T1[i]? = some q1 := ⟨_, List.getElem?_eq_getElem hi1⟩
        have o1 := P.ob i q1 po' hq1 e2
        show OR (ads T2) _ _ _
        rw [ha2]
        exact (o1.cut o he).mono fun p hp => .tail _ hp
      · intro x j e
        obtain ⟨a, h1, h2⟩ := P.ce x j e
        exact ⟨a, h1, by show (ads T2)[j]? = _; rw [ha2]; exact h2⟩
/-- a list comprehension; `act` is what one turn does -/
theorem WE.compBase {elt : Expr} {gs : List Comprehension} {scope : Scope} {cl : List (Str × Addr)} {pos : Pos} {first : Expr} {x : Str} {px : Pos} (act : Env → Addr → Sem Unit)
    (ok : c.Ok n) (hc : c.comp = none) (hclos : closureFor scope c.env = pure cl) (hcell : ∀ y ∈ scope.names, y.2 ≠ .cell) (hkind : scope.kind = .function) (hnames : ∀ y ∈ scope.names, y.2 = .local → scope.names.lookup y.1 = some .local) (hx : scope.names.lookup x = some .local)
    (cel' : Str → Option Nat) (hcel : ∀ y i, cel' y = some i → ∃ a, cl.lookup y = some a ∧ c.env.cells.lookup y = some a)
    (hturn : ∀ (env' : Env) (I D : Addr), compTurn (.ListComp elt (⟨.Name x px, first, [], 0⟩ :: gs) scope pos) 0 (.ref I) (.ref D) env' = (standAt first.pos >>= fun _ => pyNext (.ref I) >>= fun r => match r with
          | none => pure (.done .next)
          | some v => letOwnedTupleGo (.Name x px) (.ref I) v >>= fun _ => assign (.Name x px) env' v >>= fun _ => act env' D >>= fun _ => again (.compLoop (.ListComp elt (⟨.Name x px, first, [], 0⟩ :: gs) scope pos) 0 (.ref I) (.ref D) env')))
    (h : WE c (eval first c.env) (fun pv σ1 => ∃ (xs ys : List PV) (Inv : List PV → St → Prop) , items pv = some xs ∧ PV.cleans xs ∧ PV.cleans ys ∧ (∀ y i, cel' y = some i → σ1.cel y = some i) ∧
      Inv [] ⟨fun _ => none, σ1.H ++ [.lst []], cel'⟩ ∧ (∀ σ', Inv xs σ' → σ'.H = σ1.H ++ [.lst ys]) ∧
      (∀ (C D : Addr) (m : Str → Option Value) (asT : List Addr) (R0 : List (Addr × Obj)) pre y post σ' T Z (I : Addr) oI oC s, xs = pre ++ y :: post → Inv pre σ' → (∀ p ∈ R0, p.1 ≠ C ∧ p.1 ≠ I) → I ≠ C → ads T = asT → asT[σ1.H.length]? = some D → isNs oC → Rel (cxC c scope cl C m) T Z ((I, oI) :: (C, oC) :: R0) (σ'.set x y) s →
        wpAny (model c.g.prog c.g.w) c.A (act (cxC c scope cl C m).env D) (fun _ s' => ∃ σ'' T' Z' oC', Inv (pre ++ [y]) σ'' ∧ ads T' = asT ∧ (∀ p ∈ Z, p ∈ Z') ∧ isNs oC' ∧ Rel (cxC c scope cl C m) T' Z' ((I, oI) :: (C, oC') :: R0) σ'' s') (fun _ _ => False) s) ∧
      Q (.lst ys) σ1) σ)
    (hs : ∀ v, foldedSetIterable first c.env v = pure v := by intro _; rfl) : WE c (eval (.ListComp elt (⟨.Name x px, first, [], 0⟩ :: gs) scope pos) c.env) Q σ := by
  refine ⟨?_⟩; intro T Z R s r
  rw [eval_ListComp]
  refine wpAny_comprehension_free (use := none) rfl hs hclos hkind hnames (wpAny_mono (h.run T Z R s r) (fun xv s₁ p => ?_) fun _ _ e => e)
  obtain ⟨pv, σ1, T1, Z1, ⟨xs, ys, Inv, hxs, hclx, hcly, hce, hi0, hifin, hstep, hq⟩, a1, z1, hv, r1⟩ := p
  have main : ∀ (I : Addr) (fp : List Addr) (nn : Nat) (Pw : Nat → Value → Prop) (Stw : Nat → Heap → Prop) (o : Obj), o.isFreed = false → Walks c.g.prog c.g.w c.A I fp [I] nn Pw Stw → I = s₁.heap.objs.size → (∀ b ∈ fp, b = I ∨ ∃ o, (b, o) ∈ Z1) → Stw 0 (s₁.heap.push o) → (∀ i h, Stw i h → ∃ o, h.get? I = some o) →
      nn = xs.length → (∀ i v, Pw i v → i < nn → ∃ y, xs[i]? = some y ∧ ∀ T' , VR T' Z1 v y) →
      wpAny (model c.g.prog c.g.w) c.A (newList []) (fun acc s₃ => wpAny (model c.g.prog c.g.w) c.A (newFunctionEnv scope c.env.globals cl [] c.env.qual none .none (some c.env)) (fun cenv s₄ =>
        codeAny (model c.g.prog c.g.w) c.A (.compStart (.ListComp elt (⟨.Name x px, first, [], 0⟩ :: gs) scope pos) 0 (.ref I) acc { cenv with scope := relabel scope c.env }) (compPost (model c.g.prog c.g.w) c.A (fun _ _ => False) none (Post c T Z R Q) acc cenv.locals) s₄) (fun _ _ => False) s₃) (fun _ _ => False) { s₁ with heap := s₁.heap.push o } := by
    intro I fp nn Pw Stw o hfree W hI hfp hst hSt hnn hP
    have r2 : Rel c T1 Z1 R σ1 { s₁ with heap := s₁.heap.push o } := r1.keep (tk := s₁.toks) fun b ob e => Heap.get?_push_of_some _ e
    have hlt1 : ∀ p ∈ T1 ++ (Z1 ++ R), p.1 < I := fun p hp => by rw [hI]; exact Heap.lt_size (r1.N p hp).1
    obtain ⟨m1, P1, F1⟩ := r1.fr
    have hIn : c.h₀.get? I = none := by rw [hI]; exact none_at_size F1
    have hLI : c.L < I := by rw [hI]; exact F1.ns.lt
    refine wpAny_newObj_type (wpAny_newFunctionEnv hcell (by intro y hy; simp at hy) (fun h₁ hns₁ hsb₁ => ?_) hkind)
    dsimp only at hns₁ hsb₁ ⊢
    have hD : (s₁.heap.push o).objs.size = I + 1 := by rw [Heap.size_push, hI]
    generalize hH1 : s₁.heap.push o = H1 at *
    generalize hH2 : H1.push { cls := .type "list", dict := none, data := .seq ([] : List Value).toArray } = H2 at hns₁ hsb₁ ⊢
    have hC : H2.objs.size = H1.objs.size + 1 := by rw [← hH2, Heap.size_push]
    have hold : ∀ b ob, H1.get? b = some ob → h₁.get? b = some ob := fun b ob e =>
      hsb₁.extBut b ob (by rw [hC]; exact Nat.ne_of_lt (Nat.lt_succ_of_lt (Heap.lt_size e))) (Heap.get?_push_of_some _ (hH2 ▸ Heap.get?_push_of_some _ e))
    have hacc : h₁.get? H1.objs.size = some (listOf ([] : List Value).toArray 0) :=
      hsb₁.extBut _ _ (by rw [hC]; exact Nat.ne_of_lt (Nat.lt_succ_self _)) (Heap.get?_push_of_some _ (hH2 ▸ Heap.get?_push_size _ rfl))
    rw [hC] at hns₁ ⊢
    obtain ⟨m, oC, hns, ⟨P, _⟩, r3⟩ := r2.enter (tk := s₁.toks + ([] : List (Str × Value)).length) hc (fun y i e => ⟨hce y i e, hcel y i e⟩) hns₁ hold hacc
    dsimp only at r3
    have hIC : I ≠ H1.objs.size + 1 := by rw [hD]; exact Nat.ne_of_lt (Nat.lt_succ_of_lt (Nat.lt_succ_self _))
    have hR0 : ∀ p ∈ R, p.1 ≠ H1.objs.size + 1 ∧ p.1 ≠ I := fun p hp => by
      have := hlt1 p (List.mem_append_right _ (List.mem_append_right _ hp))
      exact ⟨by rw [hD]; exact Nat.ne_of_lt (Nat.lt_succ_of_lt (Nat.lt_succ_of_lt this)), Nat.ne_of_lt this⟩
    have hst₁ : Stw 0 h₁ := W.frame _ _ _ hst fun b _ ob e => hold b ob e
    have loop : ∀ s₃ : Shared, s₃ = { s₁ with heap := h₁, toks := s₁.toks + ([] : List (Str × Value)).length } →
        codeAny (model c.g.prog c.g.w) c.A (.compLoop (.ListComp elt (⟨.Name x px, first, [], 0⟩ :: gs) scope pos) 0 (.ref I) (.ref H1.objs.size) (compEnvC scope cl (H1.objs.size + 1) c.env)) (compPost (model c.g.prog c.g.w) c.A (fun _ _ => False) none (Post c T Z R Q) (.ref H1.objs.size) (H1.objs.size + 1)) s₃ := by
      rintro s₃ rfl
      refine comp_loop (c := cxC c scope cl (H1.objs.size + 1) m) (C := H1.objs.size + 1) (I := I) (R0 := R) (Z0 := Z1) (asT := ads T1 ++ [H1.objs.size]) (iter := first) (px := px) (x := x) (σ := ⟨fun _ => none, σ1.H ++ [.lst []], cel'⟩) (cxC_ok ok hkind) rfl (lookup_relabel_local hx) W hfp hSt (Nat.ne_of_lt hLI) hIn hIC hR0 xs hnn hP Inv (act (cxC c scope cl (H1.objs.size + 1) m).env H1.objs.size) (hturn _ _ _) ?_ _ ?_ hi0 hns r3 (by simp) hst₁ ?_
      · intro pre y post σ' T' Z' oI oC' s' he hinv hZ haT hns' r'
        refine hstep _ _ m (ads T1 ++ [H1.objs.size]) R pre y post σ' T' Z' I oI oC' s' he hinv hR0 hIC haT ?_ hns' r'
        rw [← P.len]; simp [ads]
      · intro σ' T' Z' oC' s' hinv hZ haT hns' r'
        obtain ⟨es, ep, hd, hsk⟩ := hns'
        refine ⟨nsFind es, ⟨oC', es, ep, (r'.N (_, oC') (List.mem_append_right _ (List.mem_append_right _ (.head _)))).1, hd, hsk, fun _ => rfl⟩, fun h' hs' => ?_⟩
        obtain ⟨T2, vs, k, ha2, hvs, r4⟩ := Rel.leave P hc r' hZ haT (hifin σ' hinv) hcly hs' (fun p hp => (hR0 p hp).1)
        exact ⟨.lst ys, σ1, T2, _, hq, ha2.trans a1, fun p hp => .tail _ (hZ p (z1 p hp)), .lst (.head _) (hvs.mono fun _ h => .tail _ h), r4⟩
      · intro p hp
        simp only [List.mem_append, List.mem_cons, List.not_mem_nil, or_false] at hp
        rcases hp with (h | rfl) | h
        · exact Nat.ne_of_lt (hlt1 p (List.mem_append_left _ h))
        · show H1.objs.size ≠ I
          rw [hD]; exact Nat.ne_of_gt (Nat.lt_succ_self _)
        · exact Nat.ne_of_lt (hlt1 p (List.mem_append_right _ (List.mem_append_left _ h)))
    exact codeAny_compStart_list (loop _ rfl) (W.self 0 _ _ _ hst₁ (loop _ rfl))
  cases hv with
  | lst hz t =>
    rename_i a vs k yy
    cases hxs
    have hL := r1.isList hz
    have hne : a ≠ s₁.heap.objs.size := Nat.ne_of_lt (Heap.lt_size (r1.N _ (List.mem_append_right _ (List.mem_append_left _ hz))).1)
    refine wpAny_pyIter_list hL ?_
    have W := Walks.list (prog := c.g.prog) (w := c.g.w) (A := c.A) ok.hh s₁.heap.objs.size a hne vs.toArray
    refine main _ _ _ _ _ _ rfl W rfl ?_ ⟨⟨_, Heap.get?_push_size _ rfl, rfl, rfl⟩, hL.at fun o e => Heap.get?_push_of_some _ e⟩ (fun i h st => ⟨_, st.1.choose_spec.1⟩) (by rw [List.size_toArray, t.length]) ?_
    · intro b hb
      rcases List.mem_cons.mp hb with rfl | hb
      · exact .inl rfl
      · rw [List.mem_singleton] at hb; subst hb; exact .inr ⟨_, hz⟩
    · intro i v hv' _
      have hv2 : vs[i]? = some v := by simpa using hv'
      obtain ⟨y, hy, hvr⟩ := t.getV hv2
      have hcl : y.clean := cleans_iff.mp hclx y (List.mem_of_getElem? hy)
      exact ⟨y, hy, fun T' => hvr.ofClean hcl⟩
  | str =>
    rename_i x' t
    cases hxs
    have hsign : ∀ i v, SignAt x' i v → i < x'.cps.size → ∃ y, (x'.cps.toList.map fun k => PV.str ⟨#[k]⟩)[i]? = some y ∧ ∀ T', VR T' Z1 v y := by
      rintro i v ⟨k, u, hk, rfl⟩ _
      refine ⟨.str ⟨#[k]⟩, ?_, fun _ => .str⟩
      rw [List.getElem?_map, Array.getElem?_toList, hk]; rfl
    have hsz : x'.cps.size = (x'.cps.toList.map fun k => PV.str ⟨#[k]⟩).length := by simp
    cases ha : x'.cps.all (· < 128)
    · refine wpAny_pyIter_wide ha ?_
      exact main _ _ _ _ _ _ rfl (Walks.strWide ok.hh _ x' t) rfl (fun b hb => .inl (List.mem_singleton.mp hb)) ⟨_, Heap.get?_push_size _ rfl, rfl, rfl⟩ (fun i h st => ⟨_, st.choose_spec.1⟩) hsz hsign
    · refine wpAny_pyIter_ascii ha ?_
      exact main _ _ _ _ _ _ rfl (Walks.strAscii ok.hh _ x' t) rfl (fun b hb => .inl (List.mem_singleton.mp hb)) ⟨_, Heap.get?_push_size _ rfl, rfl, rfl⟩ (fun i h st => ⟨_, st.choose_spec.1⟩) hsz hsign
  | _ => cases hxs
end
end Mine
end
section
open PySem PySem.W PySem.Calls PyProof.Rows PySem.Spec
namespace Mine
section
variable {c : Cx} {T Z R : List (Addr × Obj)} {σ : St} {s : Shared} {n : Nat} {Q : PV → St → Prop}
noncomputable abbrev stE (x : Str) (y : PV) (H : List PO) (acc : List PV) (cel' : Str → Option Nat) : St := ⟨fun u => if u = x then some y else none, H ++ [.lst acc], cel'⟩
theorem WE.comp1 {elt : Expr} {scope : Scope} {cl : List (Str × Addr)} {pos : Pos} {first : Expr} {x : Str} {px : Pos}
    (ok : c.Ok n) (hc : c.comp = none) (hclos : closureFor scope c.env = pure cl) (hcell : ∀ y ∈ scope.names, y.2 ≠ .cell) (hkind : scope.kind = .function) (hnames : ∀ y ∈ scope.names, y.2 = .local → scope.names.lookup y.1 = some .local) (hx : scope.names.lookup x = some .local)
    (cel' : Str → Option Nat) (hcel : ∀ y i, cel' y = some i → ∃ a, cl.lookup y = some a ∧ c.env.cells.lookup y = some a)
    (h : WE c (eval first c.env) (fun pv σ1 => ∃ xs ys : List PV, items pv = some xs ∧ PV.cleans xs ∧ PV.cleans ys ∧ ys.length = xs.length ∧ xs.length ≤ sizeLine ∧ (∀ y i, cel' y = some i → σ1.cel y = some i) ∧
      (∀ (C : Addr) (m : Str → Option Value) (i : Nat) (y z : PV) (acc : List PV), xs[i]? = some y → ys[i]? = some z → WE (cxC c scope cl C m) (eval elt (cxC c scope cl C m).env) (fun v σ' => v = z ∧ σ' = stE x y σ1.H acc cel') (stE x y σ1.H acc cel')) ∧ Q (.lst ys) σ1) σ)
    (hs : ∀ v, foldedSetIterable first c.env v = pure v := by intro _; rfl) : WE c (eval (.ListComp elt [⟨.Name x px, first, [], 0⟩] scope pos) c.env) Q σ := by
  refine WE.compBase (fun env' D => eval elt env' >>= fun v => call (.builtin "list.append") [.ref D, v] >>= fun _ => pure ()) ok hc hclos hcell hkind hnames hx cel' hcel (fun env' I D => compTurn_list1 _ _ _ _ _ _ _ _) (WE.mono h ?_) hs
  rintro pv σ1 ⟨xs, ys, h1, h2, h3, h4, h5, h6, h7, h8⟩
  refine ⟨xs, ys, fun pre σ' => σ'.H = σ1.H ++ [.lst (ys.take pre.length)] ∧ σ'.cel = cel', h1, h2, h3, h6, ⟨rfl, rfl⟩, ?_, ?_, h8⟩
  · rintro σ' ⟨e1, _⟩
    rw [e1, ← h4, List.take_length]
  · rintro C D m asT R0 pre y post σ' T Z I oI oC s he ⟨e1, e2⟩ hR0 hIC haT hD hns r
    have hlen : pre.length < ys.length := by rw [h4, he]; simp
    have hy : xs[pre.length]? = some y := by rw [he]; simp
    obtain ⟨zz, hz⟩ : ∃ z, ys[pre.length]? = some z := ⟨_, List.getElem?_eq_getElem hlen⟩
    have r' : Rel (cxC c scope cl C m) T Z ((I, oI) :: (C, oC) :: R0) (stE x y σ1.H (ys.take pre.length) cel') s := by
      refine r.weak (fun u pv e => ?_) e1.symm (fun u i e => ?_)
      · dsimp only [stE] at e
        by_cases hu : u = x
        · rw [if_pos hu] at e; cases e; show (if u = x then some y else _) = _; rw [if_pos hu]
        · rw [if_neg hu] at e; cases e
      · show σ'.cel u = _; rw [e2]; exact e
    refine wpAny_bind (wpAny_mono ((h7 C m pre.length y zz (ys.take pre.length) hy hz).run T Z _ s r') (fun v s2 p => ?_) fun _ _ e => e)
    obtain ⟨pz, σ2, T2, Z2, ⟨hpz, rfl⟩, a2, z2, hv, r2⟩ := p
    rw [hpz] at hv
    have hl3 : (ys.take pre.length).length ≤ sizeLine := by rw [List.length_take]; lia
    have hW := (WO.append (c := cxC c scope cl C m) (σ := stE x y σ1.H (ys.take pre.length) cel') (i := σ1.H.length) (xs := ys.take pre.length) (y := zz) (Q := fun _ σ3 => σ3.H = σ1.H ++ [PO.lst (ys.take pre.length ++ [zz])] ∧ σ3.cel = cel')
      (List.getElem?_concat_length) hl3 ⟨by show (σ1.H ++ [_]).set σ1.H.length _ = _; rw [List.set_append_right _ _ (Nat.le_refl _), Nat.sub_self]; rfl, rfl⟩).run T2 Z2 _ s2 [.ref D, v] r2 (.cons (.ref (by rw [a2, haT]; exact hD)) (.cons hv .nil))
    refine wpAny_bind (wpAny_mono hW (fun _ s3 p => ?_) fun _ _ e => e)
    obtain ⟨_, σ3, T3, Z3, ⟨e3, e4⟩, a3, z3, _, r3⟩ := p
    refine wpAny_pure ⟨σ3, T3, Z3, oC, ⟨?_, e4⟩, (a3.trans a2).trans haT, fun p hp => z3 p (z2 p hp), hns, r3⟩
    rw [e3, List.length_append, List.length_singleton, List.take_add_one, hz]; rfl
end
end Mine
end
section
open PySem PySem.W PySem.Calls PyProof.Rows PySem.Spec
namespace Mine
noncomputable def numL (part : List Nat) : List (List Nat) → List Nat
  | [] => partL part
  | p :: ps => if OPS.contains p = true ∧ p ≠ [61] then numL (part ++ p) ps else if p.head? = some 61 then (partL (part ++ [61]) ++ (p.drop 1).map (256 + ·)) ++ numL [] ps else (partL part ++ p.map (256 + ·)) ++ numL [] ps
theorem partL_len (p : List Nat) (h : p.length < 20) : (partL p).length ≤ 1048576 := by
  have h1 := partF_len (p.length + 1) p
  have h2 : 2 ^ (p.length + 1) ≤ 2 ^ 20 := Nat.pow_le_pow_right (by decide) (by lia)
  exact Nat.le_trans h1 h2
end Mine
end
section
open PySem PySem.W PySem.Calls PyProof.Rows PySem.Spec
namespace Mine
section
variable {c : Cx} {T Z R : List (Addr × Obj)} {σ : St} {s : Shared} {n : Nat} {Q : PV → St → Prop}
/-- a name in a cell -/
theorem WE.nameCell {x : Str} {pos : Pos} {i : Nat} {pv : PV} (ok : c.Ok n) (hc : σ.cel x = some i) (hi : σ.H[i]? = some (.cell (some pv))) (h : Q pv σ) (hk : c.env.kindOf x = some .cell := by rfl) (hd : (x == ("__debug__" : Str)) = false := by decide) :
    WE c (eval (.Name x pos) c.env) Q σ := by
  refine ⟨?_⟩; intro T Z R s r
  obtain ⟨m, P, F⟩ := r.fr
  obtain ⟨a, h1, h2⟩ := P.ce x i hc
  rw [List.getElem?_map] at h2
  obtain ⟨p, hp, rfl⟩ := Option.map_eq_some_iff.mp h2
  have o := P.ob i p _ hp hi
  obtain ⟨pa, po⟩ := p
  cases o with
  | cell d hv =>
    refine wpAny_Name ?_ hd
    exact wpAny_loadName_cell ok.kind hk h1 ⟨_, (r.N _ (List.mem_append_left _ (List.mem_of_getElem? hp))).1, d⟩ (r.post0 h hv)
theorem WS.assignCell {x : Str} {px pos : Pos} {value : Expr} {Q : PF → St → Prop} {i : Nat} (ok : c.Ok n)
    (h : WE c (eval value c.env) (fun v σ' => σ'.cel x = some i ∧ (∃ old, σ'.H[i]? = some (.cell old)) ∧ Q .next { σ' with H := σ'.H.set i (.cell (some v)) }) σ)
    (hk : c.env.kindOf x = some .cell := by rfl) (hs : swapsWith value (some (.Name x px)) pos.line c.env = pure false := by rfl) : WS c (exec (.Assign [.Name x px] value pos) c.env) Q σ := by
  refine ⟨?_⟩; intro T Z R s r
  refine wpAny_Assign_Name (wpAny_mono (h.run T Z R s r) (fun v s' p => ?_) fun _ _ e => e) hs
  obtain ⟨pv, σ', T', Z', ⟨hc, ⟨old, hi⟩, q⟩, a, z, hv, r'⟩ := p
  obtain ⟨m, P, F⟩ := r'.fr
  obtain ⟨ad, h1, h2⟩ := P.ce x i hc
  rw [List.getElem?_map] at h2
  obtain ⟨p, hp, rfl⟩ := Option.map_eq_some_iff.mp h2
  have o := P.ob i p _ hp hi
  obtain ⟨pa, po⟩ := p
  have hN := r'.N _ (List.mem_append_left _ (List.mem_of_getElem? hp))
  have hcell : ∃ v₀, s'.heap.IsCell pa v₀ := by
    cases o with
    | cell d _ => exact ⟨_, _, hN.1, d⟩
    | cell0 d => exact ⟨_, _, hN.1, d⟩
  obtain ⟨v₀, hcell⟩ := hcell
  refine wpAny_storeName_cell ok.kind hk h1 hcell fun h' hc' hs' => ?_
  obtain ⟨o', ho', hd'⟩ := hc'
  have r2 := r'.mut (tk := s'.toks) (po' := .cell (some pv)) hp hs' ho' (.cell hd' hv)
  exact ⟨_, _, _, Z', q, z, .next, r2⟩
theorem WO.sumI {l : PV} {ns : List Int} (ok : c.Ok n) (hl : σ.lst? l = some (ns.map .int)) (h : Q (.int ns.sum) σ) : WO c (fun ws => call (.builtin "sum") ws) [l] Q σ := by
  refine ⟨?_⟩; rintro T Z R s _ r (_ | ⟨hv, (_ | _)⟩)
  obtain ⟨a, vs, rfl, hL, t⟩ := r.asList hv hl
  obtain ⟨m, P, F⟩ := r.fr
  obtain ⟨hh, tk, rfl⟩ := r.sh
  exact PyProof.Rows.LSm.sum_ints F r.N ok.hh hL t.ints fun h' tk' t' F' N' => ⟨_, σ, T, Z, h, rfl, fun _ h => h, .int, ⟨h', tk', rfl⟩, N', m, P, F'⟩
/-- a slice of the caller's list of numbers -/
theorem WE.sliceR {value : Expr} {lo hi : Option Expr} {p pos : Pos} {a : Addr} {vs : List Value} {ns : List Int} {i j : Option Int} {ms : List Int} (hL : c.h₀.IsList a vs.toArray) (hI : IntsAre vs ns) (hz : ns.length ≤ 10000) (hm : (ns.drop (kms_lo i ns.length)).take (kms_hi j ns.length - kms_lo i ns.length) = ms)
    (h : WE c (eval value c.env) (fun a' σ1 => a' = .raw (.ref a) ∧ WP c lo (fun i' σ2 => WP c hi (fun j' σ3 => i' = i ∧ j' = j ∧ Q (.lst (ms.map .int)) σ3) σ2) σ1) σ)
    (ht : ∀ (o r : Value), letTemporaryGo value o r = pure () := by intros; rfl) :
    WE c (eval (.Subscript value (.Slice lo hi none p) pos) c.env) Q σ := by
  have key : ∀ (e : Option Expr) (Q1 Q2 : Option Int → St → Prop) (σ : St), (∀ vs σ1, Q1 vs σ1 → Q2 vs σ1) → WP c e Q1 σ → WP c e Q2 σ := by
    intro e Q1 Q2 σ hq h
    cases e with
    | none => exact hq _ _ h
    | some e => exact WE.mono h fun v σ' ⟨i, e, h'⟩ => ⟨i, e, hq _ _ h'⟩
  have hlen : vs.length = ns.length := hI.length
  have hsl : sizeLine = 16777216 := rfl
  refine WE.sliceL (WE.mono h fun a' σ1 ⟨e1, h1⟩ => ?_) ht
  subst e1
  refine key _ _ _ _ (fun i' σ2 h2 => key _ _ _ _ (fun j' σ3 h3 => ?_) h2) h1
  obtain ⟨rfl, rfl, q⟩ := h3
  refine ⟨ms.map .int, ?_, ?_, q⟩
  · rw [List.length_map, ← hm, List.length_take, List.length_drop]; omega
  · rintro T Z R s v r (_ | _)
    obtain ⟨m, P, F⟩ := r.fr
    obtain ⟨o, e, ho⟩ := hL
    refine ⟨a, vs, rfl, ⟨o, F.keep _ _ e, ho⟩, by omega, ?_⟩
    have := kssn_any (lo := i') (hi := j') hI
    rw [hm] at this
    exact VRs.ofInts this
theorem WO2.eqD {a b : PV} {d : PyData} (ok : c.Ok (n + 4)) (ha : ∀ T Z R s v, Rel c T Z R σ s → VR (ads T) Z v a → ∃ as, Reads s.heap v d as) (hb : ∀ T Z R s v, Rel c T Z R σ s → VR (ads T) Z v b → ∃ as, Reads s.heap v d as)
    (hd : SeqAt.shaped d = true) (he : PyData.eqv d d = true) (h : Q (.bool true) σ) : WO2 c (compareOp .Eq) a b Q σ := by
  refine ⟨?_⟩; intro T Z R s v u r hv hu
  obtain ⟨as, ra⟩ := ha T Z R s v r hv
  obtain ⟨bs, rb⟩ := hb T Z R s u r hu
  refine eq_dataH ra rb hd hd (by have := ok.un; omega) ?_
  rw [he]
  exact r.post0 h .bool
end
end Mine
end
section
open PySem PySem.W PySem.Calls PyProof.Rows PySem.Spec
namespace Mine
section
variable {c : Cx} {T Z R : List (Addr × Obj)} {σ : St} {s : Shared} {n : Nat} {Q : PV → St → Prop}
theorem WO2.itemEnd {value slice : Expr} {l : PV} {xs : List PV} {x : PV} (hl : σ.lst? l = some xs) (hx : xs.getLast? = some x) (hz : xs.length < 1000000) (h : Q x σ)
    (hs : ∀ o j, subscripted slice false o j = operate [o, j] (getItem o j) := by intros; rfl) : WO2 c (subscriptTail value slice) l (.int (-1)) Q σ := by
  refine ⟨?_⟩; rintro T Z R s v _ r hv (_ | _)
  obtain ⟨a, vs, rfl, hL, t⟩ := r.asList hv hl
  have hne : 1 ≤ xs.length := by cases xs with | nil => cases hx | cons => simp
  rw [List.getLast?_eq_getElem?] at hx
  obtain ⟨u, hu, hvu⟩ := t.get hx
  have hlen := t.length
  refine kba_turn (value' := PySem.Expr.Name (PySem.Str.ofString "_") ⟨0, 0, 0, 0⟩) (fun _ => rfl) ?_
  refine subscriptTail_builtin hL.typeIs slot_list_getitem.lookup (wpAny_getItem_list_neg (x := u) hL (by decide) (by rw [List.size_toArray]; lia) (by decide) ?_ (r.post0 h hvu)) (hs _ _) (fun _ => rfl)
  rw [List.size_toArray, hlen]
  have : ((-1 : Int) + (xs.length : Int)).toNat = xs.length - 1 := by lia
  rw [this]
  simpa using hu
theorem ex_app (as : List Addr) (D : Addr) : ∀ (i : Nat) (a : Addr), as[i]? = some a → (as ++ [D])[i]? = some a := fun i a e => by
  have := (List.getElem?_eq_some_iff.mp e).1
  rw [List.getElem?_append_left this]; exact e
/-- `x = [[]]`, both lists to be turned -/
theorem WS.assignNN {x : Str} {px pos lp lq : Pos} {Q : PF → St → Prop} (ok : c.Ok n) (hc : c.comp = none)
    (h : Q .next { (σ.set x (.ref (σ.H.length + 1))) with H := σ.H ++ [.lst []] ++ [.lst [.ref σ.H.length]] })
    (hk : c.env.kindOf x = some .local := by rfl) (hs : swapsWith (.List [.List [] lq] lp) (some (.Name x px)) pos.line c.env = pure false := by rfl) :
    WS c (exec (.Assign [.Name x px] (.List [.List [] lq] lp) pos) c.env) Q σ := by
  refine ⟨?_⟩; intro T Z R s r
  obtain ⟨m, P, F⟩ := r.fr
  obtain ⟨hh, tk, rfl⟩ := r.sh
  refine wpAny_Assign_Name (List_ (spliced_more (List_ (spliced_none ?_)) rfl)) hs
  refine newList_N F r.N (fun h' F' N' => ?_) (Nat.zero_le _)
  have r2 := r.grow (tk := tk) (po := .lst []) rfl P F' N' (.lst .nil)
  obtain ⟨m2, P2, F2⟩ := r2.fr
  refine spliced_none ?_
  refine newList_N F2 r2.N (fun h2 F3 N3 => ?_) (Nat.le_of_ble_eq_true rfl)
  have hD : ∀ o : Obj, (ads (T ++ [(hh.objs.size, o)]))[σ.H.length]? = some hh.objs.size := fun o => by
    rw [← P.len]; simp [ads]
  have r3 := r2.grow (tk := tk) (po := .lst [.ref σ.H.length]) (D := h'.objs.size) rfl P2 F3 N3 (.lst (.cons (.ref (ex_app _ _ _ _ (hD _))) .nil))
  refine r3.store (pv := .ref (σ.H.length + 1)) ok hc (.ref ?_) hk fun s2 r4 => ⟨_, _, _, Z, h, fun _ h => h, .next, r4⟩
  show (ads (T ++ [_] ++ [_]))[σ.H.length + 1]? = _
  rw [← P.len]
  simp [ads]
/-- `x.append([])`, the new list to be turned -/
theorem WS.appendNew {x : Str} {px pa lp pos spos : Pos} {i : Nat} {xs : List PV} {Q : PF → St → Prop} (ok : c.Ok n) (hc : c.comp = none) (hx : σ.loc x = some (.ref i)) (hi : σ.H[i]? = some (.lst xs)) (hz : xs.length < 1000000)
    (h : Q .next { σ with H := (σ.H ++ [PO.lst []]).set i (PO.lst (xs ++ [PV.ref σ.H.length])) }) (hk : c.env.kindOf x = some .local := by rfl) (hd : (x == ("__debug__" : Str)) = false := by decide)
    (hin : interactive c.env = false := by rfl) (hs : swapsWith (.Call (.Attribute (.Name x px) "append" pa) [.List [] lp] [] pos) none spos.line c.env = pure false := by rfl)
    (ha : attributeBase (.Name x px) "append" c.env (eval (.Name x px) c.env) = eval (.Name x px) c.env := by rfl) (hp : (pa.endLine == pos.line) = true := by rfl) :
    WS c (exec (.Expr (.Call (.Attribute (.Name x px) "append" pa) [.List [] lp] [] pos) spos) c.env) Q σ := by
  refine ⟨?_⟩; intro T Z R s r
  have hsl : sizeLine = 16777216 := rfl
  refine wpAny_Expr_any ?_ hin hs
  have hn := (WE.name (c := c) (σ := σ) (pos := px) (Q := fun a σ1 => a = .ref i ∧ σ1 = σ) ok hx ⟨rfl, rfl⟩ hk hd).run T Z R s r
  refine wpAny_Call_method_late ha rfl hp rfl (wpAny_mono hn (fun v s' p => ?_) fun _ _ e => e)
  obtain ⟨pv, σ', T', Z', ⟨rfl, rfl⟩, a, z, hv, r'⟩ := p
  obtain ⟨t1, t2⟩ := listSelf hi T' Z' R s' v r' hv
  refine ⟨"list", "list.append", PySem.F.plainAttrs_list, PySem.F.slot_list_append, ty_list_append, t1, t2, ?_⟩
  refine callWith_builtin rfl ?_
  show wpAny _ _ (evalArgs _ true ((false, eval (.List [] lp) c.env) :: backTo pos (starEach [] c.env)) []) _ _ s'
  refine evalArgs_plain ?_
  show wpAny _ _ (spliced (backTo pos (starEach [.List [] lp] c.env))) _ _ s'
  refine spliced_more (List_ (spliced_none ?_)) rfl
  obtain ⟨m, P, F⟩ := r'.fr
  obtain ⟨hh, tk, rfl⟩ := r'.sh
  refine newList_N F r'.N (fun h' F' N' => ?_) (Nat.zero_le _)
  have r2 := r'.grow (tk := tk) (po := .lst []) rfl P F' N' (.lst .nil)
  refine spliced_none ?_
  have hlt : i < σ'.H.length := (List.getElem?_eq_some_iff.mp hi).1
  have hi2 : (σ'.H ++ [PO.lst []])[i]? = some (.lst xs) := by rw [List.getElem?_append_left hlt]; exact hi
  have hnew : ∀ o : Obj, VR (ads (T' ++ [(hh.objs.size, o)])) Z' (.ref hh.objs.size) (.ref σ'.H.length) := fun o => .ref (by
    rw [← P.len]; simp [ads])
  have hW := (WO.append (c := c) (σ := { σ' with H := σ'.H ++ [.lst []] }) (i := i) (xs := xs) (y := .ref σ'.H.length) (Q := fun _ σ3 => σ3 = { σ' with H := (σ'.H ++ [PO.lst []]).set i (.lst (xs ++ [.ref σ'.H.length])) }) hi2 (by lia) rfl).run _ _ _ _ [v, .ref hh.objs.size] r2 (.cons (hv.ext (by
    intro j b e
    simp only [ads, List.map_append, List.map_cons, List.map_nil]
    exact ex_app _ _ _ _ e)) (.cons (hnew _) .nil))
  refine wpAny_mono hW (fun _ s3 p => ?_) fun _ _ e => e
  obtain ⟨_, σ3, T3, Z3, rfl, a3, z3, _, r3⟩ := p
  exact ⟨.next, _, T3, Z3, h, fun p hp => z3 p (z p hp), .next, r3⟩
end
end Mine
end
section
open PySem PySem.W PySem.Calls PyProof.Rows PySem.Spec
namespace Mine
section
variable {prog : Program} {w : World} {A : Around} {R' : Result → Shared → Prop} {s' : Shared}
theorem codeAny_compStart_one {elt scope pos it acc env} {g1 : Comprehension} {target iter ifs}
    (h0 : codeAny (model prog w) A (.compLoop (.ListComp elt [g1, ⟨target, iter, ifs, 0⟩] scope pos) 1 it acc env) R' s')
    (h : wpAny (model prog w) A (pyIter it) (fun it' s' => codeAny (model prog w) A (.compLoop (.ListComp elt [g1, ⟨target, iter, ifs, 0⟩] scope pos) 1 it' acc env) R' s')
      (notedBy (model prog w) A env fun x s' => R' (.error x) s') s') :
    codeAny (model prog w) A (.compStart (.ListComp elt [g1, ⟨target, iter, ifs, 0⟩] scope pos) 1 it acc env) R' s' := by
  refine codeAny_of_tree ?_
  show wpAny _ _ ((compStart (.ListComp elt [g1, ⟨target, iter, ifs, 0⟩] scope pos) 1 it acc env).onRaise (fun x => do noteFrame x env; standAt theWindowsPlace)) _ _ s'
  refine wpAny_notedAt ?_
  unfold compStart
  show wpAny _ _ (ask >>= _) _ _ s'
  refine wpAny_bind (wpAny_askSetting (wpAny_ite ?_))
  split
  · first
      | exact wpAny_bind (wpAny_pure (wpAny_pure (And.intro rfl h0)))
      | exact wpAny_pure (And.intro rfl h0)
  · first
      | exact wpAny_bind (wpAny_rule (wpAny_bind (wpAny_standAt (wpAny_bind (wpAny_mono h (fun it' s' h' => wpAny_pure (And.intro rfl h')) fun _ _ x => x)))))
      | (refine wpAny_bind (wpAny_rule ?_); show wpAny _ _ (standAt iter.pos >>= _) _ _ s'; exact wpAny_bind (wpAny_standAt (wpAny_bind (wpAny_mono h (fun it' s' h' => wpAny_pure (And.intro rfl h')) fun _ _ x => x))))
end
section
variable {c : Cx} {T Z R : List (Addr × Obj)} {σ : St} {s : Shared} {n : Nat} {Q : PV → St → Prop}
noncomputable abbrev stE2 (x x2 : Str) (y y2 : PV) (H : List PO) (acc : List PV) (cel' : Str → Option Nat) : St := ⟨fun u => if u = x2 then some y2 else if u = x then some y else none, H ++ [.lst acc], cel'⟩
end
end Mine
end
section
open PySem PySem.W PySem.Calls PyProof.Rows PySem.Spec
namespace Mine
section
variable {c : Cx} {T Z R : List (Addr × Obj)} {σ : St} {s : Shared} {n : Nat} {Q : PV → St → Prop}
/-- some token has been given -/
structure WEn (c : Cx) (t : Sem Value) (Q : PV → St → Prop) (σ : St) : Prop where
  run : ∀ T Z R s, Rel c T Z R σ s → 1 ≤ s.toks → wpAny (model c.g.prog c.g.w) c.A t (Post c T Z R Q) (fun _ _ => False) s
structure WSn (c : Cx) (t : Sem Flow) (Q : PF → St → Prop) (σ : St) : Prop where
  run : ∀ T Z R s, Rel c T Z R σ s → 1 ≤ s.toks → wpAny (model c.g.prog c.g.w) c.A t (PostS c Z R Q) (fun _ _ => False) s
theorem WEn.of {t : Sem Value} (h : WE c t Q σ) : WEn c t Q σ := .mk fun T Z R s r _ => h.run T Z R s r
theorem WSn.of {t : Sem Flow} {Q : PF → St → Prop} (h : WS c t Q σ) : WSn c t Q σ := .mk fun T Z R s r _ => h.run T Z R s r
theorem WSn.seq {st : Stmt} {rest : List Stmt} {Q : PF → St → Prop} (h : WS c (exec st c.env) (thn (WSn c (execs rest c.env) Q) Q) σ) : WSn c (execs (st :: rest) c.env) Q σ := by
  refine ⟨?_⟩; intro T Z R s r ht
  refine wpAny_execs_cons (wpAny_with_toks ht (wpAny_mono (h.run T Z R s r) (fun f s' p ht' => ?_) fun _ _ e => e.elim))
  obtain ⟨pf, σ', T', Z', q, z, hf, r'⟩ := p
  cases hf with
  | next => exact wpAny_mono (q.run T' Z' R s' r' ht') (fun _ _ p => p.up z) fun _ _ e => e
  | cont => exact ⟨_, σ', T', Z', q, z, .cont, r'⟩
  | ret hv => exact ⟨_, σ', T', Z', q, z, .ret hv, r'⟩
theorem WSn.last {st : Stmt} {Q : PF → St → Prop} (h : WSn c (exec st c.env) (thn (fun σ => Q .next σ) Q) σ) : WSn c (execs [st] c.env) Q σ := by
  refine ⟨?_⟩; intro T Z R s r ht
  refine wpAny_execs_cons (wpAny_mono (h.run T Z R s r ht) (fun f s' p => ?_) fun _ _ e => e.elim)
  obtain ⟨pf, σ', T', Z', q, z, hf, r'⟩ := p
  cases hf with
  | next => exact wpAny_execs_nil ⟨.next, σ', T', Z', q, z, .next, r'⟩
  | cont => exact ⟨_, σ', T', Z', q, z, .cont, r'⟩
  | ret hv => exact ⟨_, σ', T', Z', q, z, .ret hv, r'⟩
/-- `x = 'text'` gives a token -/
theorem WS.assignTok {x y : Str} {px cp pos : Pos} {k : Nat} {rest : List Stmt} {Q : PF → St → Prop} (ok : c.Ok n) (hc : c.comp = none) (h : WSn c (execs rest c.env) Q (σ.set x (.str y)))
    (hk : c.env.kindOf x = some .local := by rfl) (hs : swapsWith (.Constant (.str y) k cp) (some (.Name x px)) pos.line c.env = pure false := by rfl) : WS c (execs (.Assign [.Name x px] (.Constant (.str y) k cp) pos :: rest) c.env) Q σ := by
  refine ⟨?_⟩; intro T Z R s r
  refine wpAny_execs_cons (wpAny_Assign_Name (wpAny_Constant_str ?_) hs)
  have r1 : Rel c T Z R σ { s with toks := s.toks + 1 } := r.toks
  refine wpAny_with_toks (n := 1) (Nat.succ_le_succ (Nat.zero_le _)) ?_
  refine r1.store (pv := .str y) ok hc .str hk fun s' r' ht => ?_
  exact h.run T Z R s' r' ht
theorem WSn.ret {e : Expr} {pos : Pos} {Q : PF → St → Prop} (h : WEn c (eval e c.env) (fun v σ' => Q (.ret v) σ') σ) : WSn c (exec (.Return (some e) pos) c.env) Q σ := by
  refine ⟨?_⟩; intro T Z R s r ht
  refine wpAny_Return_some (wpAny_mono (h.run T Z R s r ht) (fun v s' p => ?_) fun _ _ e => e)
  obtain ⟨pv, σ', T', Z', q, a, z, hv, r'⟩ := p
  exact ⟨_, σ', T', Z', q, z, .ret hv, r'⟩
theorem WEn.andn {e1 e2 : Expr} {rest : List Expr} {pos : Pos} (h : WEn c (eval e1 c.env) (fun v σ1 => v = .bool true ∧ WEn c (eval (.BoolOp .And (e2 :: rest) pos) c.env) Q σ1) σ) : WEn c (eval (.BoolOp .And (e1 :: e2 :: rest) pos) c.env) Q σ := by
  refine ⟨?_⟩; intro T Z R s r ht
  refine BoolOp_and (wpAny_with_toks ht (wpAny_mono (h.run T Z R s r ht) (fun v s' p ht' => ?_) fun _ _ e => e.elim))
  obtain ⟨pv, σ', T', Z', ⟨rfl, q⟩, a, z, hv, r'⟩ := p
  cases hv
  refine wpAny_truthy_bool ?_
  rw [if_pos rfl]
  exact wpAny_mono (q.run T' Z' R s' r' ht') (fun _ _ p => p.up a z) fun _ _ e => e
theorem WEn.one {e : Expr} {pos : Pos} (h : WEn c (eval e c.env) Q σ) : WEn c (eval (.BoolOp .And [e] pos) c.env) Q σ := .mk fun T Z R s r ht => BoolOp_one (h.run T Z R s r ht)
theorem WEn.cmp {l r : Expr} {op : CmpOp} {pos : Pos} (h : WEn c (eval l c.env) (fun a σ1 => WE c (eval r c.env) (fun b σ2 => WO2 c (compareOp op) a b Q σ2) σ1) σ)
    (hb : behindInMarks op r = false := by rfl) : WEn c (eval (.Compare l [op] [r] pos) c.env) Q σ := by
  refine ⟨?_⟩; intro T Z R s rr ht
  refine wpAny_Compare1 (wpAny_mono (h.run T Z R s rr ht) (fun v s' p => ?_) fun _ _ e => e) hb
  obtain ⟨pv, σ', T', Z', q, a, z, hv, r'⟩ := p
  refine wpAny_mono (q.run T' Z' R s' r') (fun u s2 p2 => ?_) fun _ _ e => e
  obtain ⟨pu, σ2, T2, Z2, q2, a2, z2, hu, r2⟩ := p2
  exact wpAny_mono (q2.run T2 Z2 R s2 v u r2 (by rw [a2]; exact hv.mono z2) hu) (fun _ _ p => p.up (a2.trans a) (fun p hp => z2 p (z p hp))) fun _ _ e => e
theorem WEn.callFn1 {name : Str} {p pos : Pos} {e : Expr} {fd : FD} {names : List Str} {dp : List PV} (ok : c.Ok (n + 1)) (fa : FnAt c.g.K name fd 1 names dp)
    (h : WEn c (eval e c.env) (fun a σ1 => a.clean ∧ ∃ P, Runs c.g name fd names n ([a] ++ dp) P ∧ ∀ pv, P pv → pv.clean → Q pv σ1) σ)
    (hs : noStars [e] = true := by rfl) (hx : c.env.kindOf name = some .globalImplicit := by rfl) (hd : (name == ("__debug__" : Str)) = false := by decide) :
    WEn c (eval (.Call (.Name name p) [e] [] pos) c.env) Q σ := by
  refine ⟨?_⟩; intro T Z R s r ht
  have fa' := fa
  obtain ⟨f, oc, od, osl, dV, kV, doc, pm, cdv, ct, an, dv, hf, hk, _⟩ := fa
  obtain ⟨m, P, F⟩ := r.fr
  have hs' := hs
  simp only [noStars, List.all_cons, Bool.and_eq_true, Bool.not_eq_true'] at hs
  refine wpAny_Call_NameR (Name_function_global ok.kind hx (loadGlobal_global (by rw [ok.glob]; exact ok.top.g.keeps F.keep) (mg_of ok.X ok.top.g hf) ?_) hd)
  refine callWith_K ok.X hk (spliced_more (wpAny_mono (h.run T Z R s r ht) (fun v s' p => spliced_none ?_) fun _ _ e => e) (starEach_cons hs.1)) (starEach_cons hs.1) (starEach_any hs.2)
  obtain ⟨pv, σ', T', Z', ⟨hcl, P', hr, hq⟩, a, z, hv, r'⟩ := p
  refine ⟨r'.K ok, ?_⟩
  have hW : WO c (fun ws => call (.ref f) ws) [pv] Q σ' := WO.callDef ok fa' hf rfl ⟨hcl, trivial⟩ hr hq
  exact wpAny_mono (hW.run T' Z' R s' [v] r' (.cons hv .nil)) (fun _ _ p => p.up a z) fun _ _ e => e
theorem WEn.replace {o : Expr} {apos pos p1 p2 : Pos} {y z' : Str} {k1 k2 : Nat} (hyz : (y == z') = false)
    (h : WE c (eval o c.env) (fun a σ1 => ∃ x, a = .str x ∧ x.length + (x.length + 1) * z'.length ≤ 16777216 ∧ Q (.str (Txt.replace x y z')) σ1) σ)
    (ha : attributeBase o "replace" c.env (eval o c.env) = eval o c.env := by rfl) (hp : (apos.endLine == pos.line) = true := by rfl) :
    WEn c (eval (.Call (.Attribute o "replace" apos) [.Constant (.str y) k1 p1, .Constant (.str z') k2 p2] [] pos) c.env) Q σ := by
  refine ⟨?_⟩; intro T Z R s r ht
  refine wpAny_Call_method_late ha rfl hp rfl (wpAny_with_toks ht (wpAny_mono (h.run T Z R s r) (fun v s' p ht' => ?_) fun _ _ e => e.elim))
  obtain ⟨pv, σ', T', Z', ⟨x, rfl, hz, q⟩, a, z, hv, r'⟩ := p
  cases hv
  rename_i t
  refine ⟨"str", "str.replace", PySem.F.plainAttrs_str, PySem.F.slot_str_replace, ty_str_replace, typeIs_str _ _ _, (fun y e => nomatch e), callWith_builtin rfl ?_⟩
  show wpAny _ _ (evalArgs _ true ((false, eval (.Constant (.str y) k1 p1) c.env) :: backTo pos (starEach [.Constant (.str z') k2 p2] c.env)) []) _ _ s'
  refine evalArgs_plain ?_
  show wpAny _ _ (spliced (backTo pos (starEach [.Constant (.str y) k1 p1, .Constant (.str z') k2 p2] c.env))) _ _ s'
  refine spliced_more (wpAny_Constant_str (spliced_more (wpAny_Constant_str (spliced_none ?_)) rfl)) rfl
  refine SC.replace (Nat.ne_of_gt ht') (Nat.succ_ne_zero _) (Nat.ne_of_lt (Nat.lt_succ_self _)) hyz hz fun t' k => ?_
  exact ⟨_, σ', T', Z', q, a, z, .str, r'.toks.toks⟩
end
end Mine
end
section
open PySem PySem.W PySem.Calls PyProof.Rows PySem.Spec
namespace Mine
section
variable {c : Cx} {T Z R : List (Addr × Obj)} {σ : St} {s : Shared} {n : Nat} {Q : PV → St → Prop}
theorem Rel.dropC {C : Addr} {oC : Obj} {h' : Heap} (r : Rel c T Z ((C, oC) :: R) σ s) (hc : c.comp = none) (hs : Heap.SameBut C s.heap h') (hRC : ∀ p ∈ R, p.1 ≠ C) : Rel c T Z R σ { s with heap := h' } := by
  obtain ⟨hh, t, rfl⟩ := r.sh
  obtain ⟨m, P, F⟩ := r.fr
  have hNC := r.N (C, oC) (List.mem_append_right _ (List.mem_append_right _ (.head _)))
  refine ⟨⟨h', t, rfl⟩, ?_, m, ?_, F.change hs hNC.2.1 hNC.2.2⟩
  · intro p hp
    have hne : p.1 ≠ C := by
      simp only [List.mem_append] at hp
      rcases hp with h | h | h
      · exact P.dT p h (C, oC) (List.mem_append_right _ (.head _))
      · exact P.dZ p h (C, oC) (.head _)
      · exact hRC p h
    have h2 := r.N p (by
      simp only [List.mem_append, List.mem_cons] at hp ⊢
      rcases hp with h | h | h
      · exact .inl h
      · exact .inr (.inl h)
      · exact .inr (.inr (.inr h)))
    exact ⟨hs.extBut _ _ hne h2.1, h2.2⟩
  · refine ⟨fun x pv e => ?_, P.nd, fun p hp q hq => P.dT p hp q ?_, fun p hp q hq => P.dZ p hp q (.tail _ hq), P.len, P.ob, P.ce, P.mm⟩
    · obtain ⟨v, hv, hm⟩ := P.loc x pv e
      refine ⟨v, hv, ?_⟩
      unfold Cx.Holds at hm ⊢
      rw [hc] at hm ⊢
      exact hm
    · rcases List.mem_append.mp hq with h | h
      · exact List.mem_append_left _ h
      · exact List.mem_append_right _ (.tail _ h)
/-- out of a comprehension's scope, with the new list -/
theorem Rel.leave0 {scope : Scope} {cl : List (Str × Addr)} {C D : Addr} {m : Str → Option Value} {T1 Z1 T' Z' : List (Addr × Obj)} {oC : Obj} {σ' : St} {ys : List PV} {s' : Shared} (P : RelP c T1 Z1 R σ m) (hc : c.comp = none)
    (r : Rel (cxC c scope cl C m) T' Z' ((C, oC) :: R) σ' s') (hZ : ∀ p ∈ Z1, p ∈ Z') (haT : ads T' = ads T1 ++ [D]) (hH : σ'.H = σ.H ++ [.lst ys]) (hys : PV.cleans ys) :
    ∃ T2 vs k, ads T2 = ads T1 ∧ VRs (ads T2) Z' vs ys ∧ Rel c T2 ((D, listOf (List.toArray vs) k) :: Z') ((C, oC) :: R) σ s' := by
  obtain ⟨hh, t, rfl⟩ := r.sh
  obtain ⟨m', P', F⟩ := r.fr
  have hm : m' = m := P'.mm C rfl
  subst hm
  obtain ⟨T2, p, rfl⟩ : ∃ T0 p, T' = T0 ++ [p] := by
    refine ⟨T'.dropLast, T'.getLast (by intro h; rw [h] at haT; simp at haT), ?_⟩
    exact (List.dropLast_concat_getLast _).symm
  obtain ⟨pD, po⟩ := p
  simp only [ads, List.map_append, List.map_cons, List.map_nil] at haT
  have ha2 : ads T2 = ads T1 ∧ pD = D := by
    have := List.append_inj' haT rfl
    exact ⟨this.1, by simpa using this.2⟩
  obtain ⟨ha2, rfl⟩ := ha2
  have hl2 : T2.length = σ.H.length := by
    have h1 := congrArg List.length ha2
    simp only [ads, List.length_map] at h1
    rw [h1]; exact P.len
  have hob := P'.ob T2.length (pD, po) (.lst ys) List.getElem?_concat_length (by rw [hH, hl2]; exact List.getElem?_concat_length)
  cases hob with
  | lst tt =>
    rename_i vs k
    have hNC := r.N (C, oC) (List.mem_append_right _ (List.mem_append_right _ (.head _)))
    have hne : ∀ p ∈ (T2 ++ [(pD, listOf vs.toArray k)]) ++ Z', p.1 ≠ C := by
      intro p hp
      rcases List.mem_append.mp hp with h | h
      · exact P'.dT p h (C, oC) (List.mem_append_right _ (.head _))
      · exact P'.dZ p h (C, oC) (.head _)
    have he : ∀ (i : Nat) (a : Addr), i < (ads T1).length → (ads (T2 ++ [(pD, listOf vs.toArray k)]))[i]? = some a → (ads T1)[i]? = some a := by
      intro i a hi e
      simp only [ads, List.map_append] at e
      rw [show List.map (·.1) T2 = ads T1 from ha2, List.getElem?_append_left hi] at e
      exact e
    refine ⟨T2, vs, k, ha2, ?_, ⟨hh, t, rfl⟩, ?_, m', ?_, F⟩
    · exact tt.ofClean hys
    · intro p hp
      refine r.N p ?_
      simp only [List.cons_append, List.mem_append, List.mem_cons, List.not_mem_nil, or_false] at hp ⊢
      rcases hp with h | rfl | h | rfl | h
      · exact .inl (.inl h)
      · exact .inl (.inr rfl)
      · exact .inr (.inl h)
      · exact .inr (.inr (.inl rfl))
      · exact .inr (.inr (.inr h))
    · have nd := P'.nd
      simp only [List.map_append, List.nodup_append] at nd
      refine ⟨fun x pv e => ?_, nd.1, ?_, ?_, hl2, ?_, ?_, fun C h => by rw [hc] at h; cases h⟩
      · obtain ⟨v, hv, hm⟩ := P.loc x pv e
        refine ⟨v, ?_, ?_⟩
        · show VR (ads T2) _ _ _
          rw [ha2]; exact hv.mono fun p hp => .tail _ (hZ p hp)
        · unfold Cx.Holds at hm ⊢
          rw [hc] at hm ⊢
          exact hm
      · intro p hp q hq
        rw [List.cons_append] at hq
        rcases List.mem_cons.mp hq with rfl | h
        · exact nd.2.2 _ (List.mem_map_of_mem hp) _ (by simp)
        · refine P'.dT p (List.mem_append_left _ hp) q ?_
          exact h
      · intro p hp q hq
        rcases List.mem_cons.mp hp with rfl | h
        · exact P'.dT _ (List.mem_append_right _ (.head _)) q (List.mem_append_right _ hq)
        · exact P'.dZ p h q hq
      · intro i q po' e1 e2
        have hi : i < T2.length := (List.getElem?_eq_some_iff.mp e1).1
        have e3 : (T2 ++ [(pD, listOf vs.toArray k)])[i]? = some q := by rw [List.getElem?_append_left hi]; exact e1
        have e4 : σ'.H[i]? = some po' := by rw [hH, List.getElem?_append_left (by lia)]; exact e2
        have o := P'.ob i q po' e3 e4
        have hi1 : i < T1.length := by
          have h1 := congrArg List.length ha2
          simp only [ads, List.length_map] at h1
          lia
        obtain ⟨q1, hq1⟩ : ∃ q1, T1[i]? = some q1 := ⟨_, List.getElem?_eq_getElem hi1⟩
        have o1 := P.ob i q1 po' hq1 e2
        show OR (ads T2) _ _ _
        rw [ha2]
        exact (o1.cut o he).mono fun p hp => .tail _ hp
      · intro x j e
        obtain ⟨a, h1, h2⟩ := P.ce x j e
        exact ⟨a, h1, by show (ads T2)[j]? = _; rw [ha2]; exact h2⟩
/-- a list comprehension; `act` is what one turn does -/
theorem compUseS {elt : Expr} {gs : List Comprehension} {scope : Scope} {cl : List (Str × Addr)} {pos : Pos} {first : Expr} {x y : Str} {px py spos : Pos} {Q : PF → St → Prop} (act : Env → Addr → Sem Unit)
    (ok : c.Ok n) (hc : c.comp = none) (hclos : closureFor scope c.env = pure cl) (hcell : ∀ y ∈ scope.names, y.2 ≠ .cell) (hkind : scope.kind = .function) (hnames : ∀ y ∈ scope.names, y.2 = .local → scope.names.lookup y.1 = some .local) (hx : scope.names.lookup x = some .local)
    (cel' : Str → Option Nat) (hcel : ∀ y i, cel' y = some i → ∃ a, cl.lookup y = some a ∧ c.env.cells.lookup y = some a)
    (hturn : ∀ (env' : Env) (I D : Addr), compTurn (.ListComp elt (⟨.Name x px, first, [], 0⟩ :: gs) scope pos) 0 (.ref I) (.ref D) env' = (standAt first.pos >>= fun _ => pyNext (.ref I) >>= fun r => match r with
          | none => pure (.done .next)
          | some v => letOwnedTupleGo (.Name x px) (.ref I) v >>= fun _ => assign (.Name x px) env' v >>= fun _ => act env' D >>= fun _ => again (.compLoop (.ListComp elt (⟨.Name x px, first, [], 0⟩ :: gs) scope pos) 0 (.ref I) (.ref D) env')))
    (h : WE c (eval first c.env) (fun pv σ1 => ∃ (xs ys : List PV) (Inv : List PV → St → Prop) , items pv = some xs ∧ PV.cleans xs ∧ PV.cleans ys ∧ (∀ y i, cel' y = some i → σ1.cel y = some i) ∧
      Inv [] ⟨fun _ => none, σ1.H ++ [.lst []], cel'⟩ ∧ (∀ σ', Inv xs σ' → σ'.H = σ1.H ++ [.lst ys]) ∧
      (∀ (C D : Addr) (m : Str → Option Value) (asT : List Addr) (R0 : List (Addr × Obj)) pre y post σ' T Z (I : Addr) oI oC s, xs = pre ++ y :: post → Inv pre σ' → (∀ p ∈ R0, p.1 ≠ C ∧ p.1 ≠ I) → I ≠ C → ads T = asT → asT[σ1.H.length]? = some D → isNs oC → Rel (cxC c scope cl C m) T Z ((I, oI) :: (C, oC) :: R0) (σ'.set x y) s →
        wpAny (model c.g.prog c.g.w) c.A (act (cxC c scope cl C m).env D) (fun _ s' => ∃ σ'' T' Z' oC', Inv (pre ++ [y]) σ'' ∧ ads T' = asT ∧ (∀ p ∈ Z, p ∈ Z') ∧ isNs oC' ∧ Rel (cxC c scope cl C m) T' Z' ((I, oI) :: (C, oC') :: R0) σ'' s') (fun _ _ => False) s) ∧
      Q .next (σ1.set y (.lst ys))) σ)
    (hky : c.env.kindOf y = some .local := by rfl) (hsw : swapsWith (.ListComp elt (⟨.Name x px, first, [], 0⟩ :: gs) scope pos) (some (.Name y py)) spos.line c.env = pure true := by rfl) (hs : ∀ v, foldedSetIterable first c.env v = pure v := by intro _; rfl) :
    WS c (exec (.Assign [.Name y py] (.ListComp elt (⟨.Name x px, first, [], 0⟩ :: gs) scope pos) spos) c.env) Q σ := by
  refine ⟨?_⟩; intro T Z R s r
  rw [exec_Assign_Name_used _ _ _ _ hsw]
  refine wpAny_bind (wpAny_standAt (wpAny_bind ?_))
  show wpAny _ c.A (do let _ ← comprehension (.ListComp elt (⟨.Name x px, first, [], 0⟩ :: gs) scope pos) scope c.env _ (newList []) false (eval first c.env) (some (assign (.Name y py) c.env))) _ _ s
  refine wpAny_bind (wpAny_mono (wpAny_comprehension_free (use := some (assign (.Name y py) c.env)) (Q := fun _ s' => PostS c Z R Q .next s') rfl hs hclos hkind hnames (wpAny_mono (h.run T Z R s r) (fun xv s₁ p => ?_) fun _ _ e => e)) (fun _ s' hq => wpAny_pure (wpAny_pure hq)) fun _ _ e => e)
  obtain ⟨pv, σ1, T1, Z1, ⟨xs, ys, Inv, hxs, hclx, hcly, hce, hi0, hifin, hstep, hq⟩, a1, z1, hv, r1⟩ := p
  have main : ∀ (I : Addr) (fp : List Addr) (nn : Nat) (Pw : Nat → Value → Prop) (Stw : Nat → Heap → Prop) (o : Obj), o.isFreed = false → Walks c.g.prog c.g.w c.A I fp [I] nn Pw Stw → I = s₁.heap.objs.size → (∀ b ∈ fp, b = I ∨ ∃ o, (b, o) ∈ Z1) → Stw 0 (s₁.heap.push o) → (∀ i h, Stw i h → ∃ o, h.get? I = some o) →
      nn = xs.length → (∀ i v, Pw i v → i < nn → ∃ y, xs[i]? = some y ∧ ∀ T' , VR T' Z1 v y) →
      wpAny (model c.g.prog c.g.w) c.A (newList []) (fun acc s₃ => wpAny (model c.g.prog c.g.w) c.A (newFunctionEnv scope c.env.globals cl [] c.env.qual none .none (some c.env)) (fun cenv s₄ =>
        codeAny (model c.g.prog c.g.w) c.A (.compStart (.ListComp elt (⟨.Name x px, first, [], 0⟩ :: gs) scope pos) 0 (.ref I) acc { cenv with scope := relabel scope c.env }) (compPost (model c.g.prog c.g.w) c.A (fun _ _ => False) (some (assign (.Name y py) c.env)) (fun _ s' => PostS c Z R Q .next s') acc cenv.locals) s₄) (fun _ _ => False) s₃) (fun _ _ => False) { s₁ with heap := s₁.heap.push o } := by
    intro I fp nn Pw Stw o hfree W hI hfp hst hSt hnn hP
    have r2 : Rel c T1 Z1 R σ1 { s₁ with heap := s₁.heap.push o } := r1.keep (tk := s₁.toks) fun b ob e => Heap.get?_push_of_some _ e
    have hlt1 : ∀ p ∈ T1 ++ (Z1 ++ R), p.1 < I := fun p hp => by rw [hI]; exact Heap.lt_size (r1.N p hp).1
    obtain ⟨m1, P1, F1⟩ := r1.fr
    have hIn : c.h₀.get? I = none := by rw [hI]; exact none_at_size F1
    have hLI : c.L < I := by rw [hI]; exact F1.ns.lt
    refine wpAny_newObj_type (wpAny_newFunctionEnv hcell (by intro y hy; simp at hy) (fun h₁ hns₁ hsb₁ => ?_) hkind)
    dsimp only at hns₁ hsb₁ ⊢
    have hD : (s₁.heap.push o).objs.size = I + 1 := by rw [Heap.size_push, hI]
    generalize hH1 : s₁.heap.push o = H1 at *
    generalize hH2 : H1.push { cls := .type "list", dict := none, data := .seq ([] : List Value).toArray } = H2 at hns₁ hsb₁ ⊢
    have hC : H2.objs.size = H1.objs.size + 1 := by rw [← hH2, Heap.size_push]
    have hold : ∀ b ob, H1.get? b = some ob → h₁.get? b = some ob := fun b ob e =>
      hsb₁.extBut b ob (by rw [hC]; exact Nat.ne_of_lt (Nat.lt_succ_of_lt (Heap.lt_size e))) (Heap.get?_push_of_some _ (hH2 ▸ Heap.get?_push_of_some _ e))
    have hacc : h₁.get? H1.objs.size = some (listOf ([] : List Value).toArray 0) :=
      hsb₁.extBut _ _ (by rw [hC]; exact Nat.ne_of_lt (Nat.lt_succ_self _)) (Heap.get?_push_of_some _ (hH2 ▸ Heap.get?_push_size _ rfl))
    rw [hC] at hns₁ ⊢
    obtain ⟨m, oC, hns, ⟨P, _⟩, r3⟩ := r2.enter (tk := s₁.toks + ([] : List (Str × Value)).length) hc (fun y i e => ⟨hce y i e, hcel y i e⟩) hns₁ hold hacc
    dsimp only at r3
    have hIC : I ≠ H1.objs.size + 1 := by rw [hD]; exact Nat.ne_of_lt (Nat.lt_succ_of_lt (Nat.lt_succ_self _))
    have hR0 : ∀ p ∈ R, p.1 ≠ H1.objs.size + 1 ∧ p.1 ≠ I := fun p hp => by
      have := hlt1 p (List.mem_append_right _ (List.mem_append_right _ hp))
      exact ⟨by rw [hD]; exact Nat.ne_of_lt (Nat.lt_succ_of_lt (Nat.lt_succ_of_lt this)), Nat.ne_of_lt this⟩
    have hst₁ : Stw 0 h₁ := W.frame _ _ _ hst fun b _ ob e => hold b ob e
    have loop : ∀ s₃ : Shared, s₃ = { s₁ with heap := h₁, toks := s₁.toks + ([] : List (Str × Value)).length } →
        codeAny (model c.g.prog c.g.w) c.A (.compLoop (.ListComp elt (⟨.Name x px, first, [], 0⟩ :: gs) scope pos) 0 (.ref I) (.ref H1.objs.size) (compEnvC scope cl (H1.objs.size + 1) c.env)) (compPost (model c.g.prog c.g.w) c.A (fun _ _ => False) (some (assign (.Name y py) c.env)) (fun _ s' => PostS c Z R Q .next s') (.ref H1.objs.size) (H1.objs.size + 1)) s₃ := by
      rintro s₃ rfl
      refine comp_loop (c := cxC c scope cl (H1.objs.size + 1) m) (C := H1.objs.size + 1) (I := I) (R0 := R) (Z0 := Z1) (asT := ads T1 ++ [H1.objs.size]) (iter := first) (px := px) (x := x) (σ := ⟨fun _ => none, σ1.H ++ [.lst []], cel'⟩) (cxC_ok ok hkind) rfl (lookup_relabel_local hx) W hfp hSt (Nat.ne_of_lt hLI) hIn hIC hR0 xs hnn hP Inv (act (cxC c scope cl (H1.objs.size + 1) m).env H1.objs.size) (hturn _ _ _) ?_ _ ?_ hi0 hns r3 (by simp) hst₁ ?_
      · intro pre y post σ' T' Z' oI oC' s' he hinv hZ haT hns' r'
        refine hstep _ _ m (ads T1 ++ [H1.objs.size]) R pre y post σ' T' Z' I oI oC' s' he hinv hR0 hIC haT ?_ hns' r'
        rw [← P.len]; simp [ads]
      · intro σ' T' Z' oC' s' hinv hZ haT hns' r'
        obtain ⟨es, ep, hd, hsk⟩ := hns'
        obtain ⟨T2, vs, k, ha2, hvs, r4⟩ := Rel.leave0 P hc r' hZ haT (hifin σ' hinv) hcly
        show wpAny _ c.A (assign (.Name y py) c.env (.ref H1.objs.size)) _ _ _
        refine wpAny_assign_Name (r4.store (pv := .lst ys) ok hc (.lst (.head _) (hvs.mono fun _ h => .tail _ h)) hky fun s5 r5 => ?_)
        refine ⟨nsFind es, ⟨oC', es, ep, (r5.N (_, oC') (List.mem_append_right _ (List.mem_append_right _ (.head _)))).1, hd, hsk, fun _ => rfl⟩, fun h' hs' => ?_⟩
        exact ⟨.next, _, T2, _, hq, fun p hp => .tail _ (hZ p (z1 p hp)), .next, r5.dropC hc hs' (fun p hp => (hR0 p hp).1)⟩
      · intro p hp
        simp only [List.mem_append, List.mem_cons, List.not_mem_nil, or_false] at hp
        rcases hp with (h | rfl) | h
        · exact Nat.ne_of_lt (hlt1 p (List.mem_append_left _ h))
        · show H1.objs.size ≠ I
          rw [hD]; exact Nat.ne_of_gt (Nat.lt_succ_self _)
        · exact Nat.ne_of_lt (hlt1 p (List.mem_append_right _ (List.mem_append_left _ h)))
    exact codeAny_compStart_list (loop _ rfl) (W.self 0 _ _ _ hst₁ (loop _ rfl))
  cases hv with
  | lst hz t =>
    rename_i a vs k yy
    cases hxs
    have hL := r1.isList hz
    have hne : a ≠ s₁.heap.objs.size := Nat.ne_of_lt (Heap.lt_size (r1.N _ (List.mem_append_right _ (List.mem_append_left _ hz))).1)
    refine wpAny_pyIter_list hL ?_
    have W := Walks.list (prog := c.g.prog) (w := c.g.w) (A := c.A) ok.hh s₁.heap.objs.size a hne vs.toArray
    refine main _ _ _ _ _ _ rfl W rfl ?_ ⟨⟨_, Heap.get?_push_size _ rfl, rfl, rfl⟩, hL.at fun o e => Heap.get?_push_of_some _ e⟩ (fun i h st => ⟨_, st.1.choose_spec.1⟩) (by rw [List.size_toArray, t.length]) ?_
    · intro b hb
      rcases List.mem_cons.mp hb with rfl | hb
      · exact .inl rfl
      · rw [List.mem_singleton] at hb; subst hb; exact .inr ⟨_, hz⟩
    · intro i v hv' _
      have hv2 : vs[i]? = some v := by simpa using hv'
      obtain ⟨y, hy, hvr⟩ := t.getV hv2
      have hcl : y.clean := cleans_iff.mp hclx y (List.mem_of_getElem? hy)
      exact ⟨y, hy, fun T' => hvr.ofClean hcl⟩
  | str =>
    rename_i x' t
    cases hxs
    have hsign : ∀ i v, SignAt x' i v → i < x'.cps.size → ∃ y, (x'.cps.toList.map fun k => PV.str ⟨#[k]⟩)[i]? = some y ∧ ∀ T', VR T' Z1 v y := by
      rintro i v ⟨k, u, hk, rfl⟩ _
      refine ⟨.str ⟨#[k]⟩, ?_, fun _ => .str⟩
      rw [List.getElem?_map, Array.getElem?_toList, hk]; rfl
    have hsz : x'.cps.size = (x'.cps.toList.map fun k => PV.str ⟨#[k]⟩).length := by simp
    cases ha : x'.cps.all (· < 128)
    · refine wpAny_pyIter_wide ha ?_
      exact main _ _ _ _ _ _ rfl (Walks.strWide ok.hh _ x' t) rfl (fun b hb => .inl (List.mem_singleton.mp hb)) ⟨_, Heap.get?_push_size _ rfl, rfl, rfl⟩ (fun i h st => ⟨_, st.choose_spec.1⟩) hsz hsign
    · refine wpAny_pyIter_ascii ha ?_
      exact main _ _ _ _ _ _ rfl (Walks.strAscii ok.hh _ x' t) rfl (fun b hb => .inl (List.mem_singleton.mp hb)) ⟨_, Heap.get?_push_size _ rfl, rfl, rfl⟩ (fun i h st => ⟨_, st.choose_spec.1⟩) hsz hsign
  | _ => cases hxs
end
end Mine
end
section
open PySem PySem.W PySem.Calls PyProof.Rows PySem.Spec
namespace Mine
section
variable {c : Cx} {T Z R : List (Addr × Obj)} {σ : St} {s : Shared} {n : Nat}
theorem comp1S {elt : Expr} {scope : Scope} {cl : List (Str × Addr)} {pos : Pos} {first : Expr} {x y₀ : Str} {px py spos : Pos} {Q : PF → St → Prop}
    (ok : c.Ok n) (hc : c.comp = none) (hclos : closureFor scope c.env = pure cl) (hcell : ∀ y ∈ scope.names, y.2 ≠ .cell) (hkind : scope.kind = .function) (hnames : ∀ y ∈ scope.names, y.2 = .local → scope.names.lookup y.1 = some .local) (hx : scope.names.lookup x = some .local)
    (cel' : Str → Option Nat) (hcel : ∀ y i, cel' y = some i → ∃ a, cl.lookup y = some a ∧ c.env.cells.lookup y = some a)
    (h : WE c (eval first c.env) (fun pv σ1 => ∃ xs ys : List PV, items pv = some xs ∧ PV.cleans xs ∧ PV.cleans ys ∧ ys.length = xs.length ∧ xs.length ≤ sizeLine ∧ (∀ y i, cel' y = some i → σ1.cel y = some i) ∧
      (∀ (C : Addr) (m : Str → Option Value) (i : Nat) (y z : PV) (acc : List PV), xs[i]? = some y → ys[i]? = some z → WE (cxC c scope cl C m) (eval elt (cxC c scope cl C m).env) (fun v σ' => v = z ∧ σ' = stE x y σ1.H acc cel') (stE x y σ1.H acc cel')) ∧ Q .next (σ1.set y₀ (.lst ys))) σ)
    (hky : c.env.kindOf y₀ = some .local := by rfl) (hsw : swapsWith (.ListComp elt [⟨.Name x px, first, [], 0⟩] scope pos) (some (.Name y₀ py)) spos.line c.env = pure true := by rfl) (hs : ∀ v, foldedSetIterable first c.env v = pure v := by intro _; rfl) : WS c (exec (.Assign [.Name y₀ py] (.ListComp elt [⟨.Name x px, first, [], 0⟩] scope pos) spos) c.env) Q σ := by
  refine compUseS (fun env' D => eval elt env' >>= fun v => call (.builtin "list.append") [.ref D, v] >>= fun _ => pure ()) ok hc hclos hcell hkind hnames hx cel' hcel (fun env' I D => compTurn_list1 _ _ _ _ _ _ _ _) (WE.mono h ?_) hky hsw hs
  rintro pv σ1 ⟨xs, ys, h1, h2, h3, h4, h5, h6, h7, h8⟩
  refine ⟨xs, ys, fun pre σ' => σ'.H = σ1.H ++ [.lst (ys.take pre.length)] ∧ σ'.cel = cel', h1, h2, h3, h6, ⟨rfl, rfl⟩, ?_, ?_, h8⟩
  · rintro σ' ⟨e1, _⟩
    rw [e1, ← h4, List.take_length]
  · rintro C D m asT R0 pre y post σ' T Z I oI oC s he ⟨e1, e2⟩ hR0 hIC haT hD hns r
    have hlen : pre.length < ys.length := by rw [h4, he]; simp
    have hy : xs[pre.length]? = some y := by rw [he]; simp
    obtain ⟨zz, hz⟩ : ∃ z, ys[pre.length]? = some z := ⟨_, List.getElem?_eq_getElem hlen⟩
    have r' : Rel (cxC c scope cl C m) T Z ((I, oI) :: (C, oC) :: R0) (stE x y σ1.H (ys.take pre.length) cel') s := by
      refine r.weak (fun u pv e => ?_) e1.symm (fun u i e => ?_)
      · dsimp only [stE] at e
        by_cases hu : u = x
        · rw [if_pos hu] at e; cases e; show (if u = x then some y else _) = _; rw [if_pos hu]
        · rw [if_neg hu] at e; cases e
      · show σ'.cel u = _; rw [e2]; exact e
    refine wpAny_bind (wpAny_mono ((h7 C m pre.length y zz (ys.take pre.length) hy hz).run T Z _ s r') (fun v s2 p => ?_) fun _ _ e => e)
    obtain ⟨pz, σ2, T2, Z2, ⟨hpz, rfl⟩, a2, z2, hv, r2⟩ := p
    rw [hpz] at hv
    have hl3 : (ys.take pre.length).length ≤ sizeLine := by rw [List.length_take]; lia
    have hW := (WO.append (c := cxC c scope cl C m) (σ := stE x y σ1.H (ys.take pre.length) cel') (i := σ1.H.length) (xs := ys.take pre.length) (y := zz) (Q := fun _ σ3 => σ3.H = σ1.H ++ [PO.lst (ys.take pre.length ++ [zz])] ∧ σ3.cel = cel')
      (List.getElem?_concat_length) hl3 ⟨by show (σ1.H ++ [_]).set σ1.H.length _ = _; rw [List.set_append_right _ _ (Nat.le_refl _), Nat.sub_self]; rfl, rfl⟩).run T2 Z2 _ s2 [.ref D, v] r2 (.cons (.ref (by rw [a2, haT]; exact hD)) (.cons hv .nil))
    refine wpAny_bind (wpAny_mono hW (fun _ s3 p => ?_) fun _ _ e => e)
    obtain ⟨_, σ3, T3, Z3, ⟨e3, e4⟩, a3, z3, _, r3⟩ := p
    refine wpAny_pure ⟨σ3, T3, Z3, oC, ⟨?_, e4⟩, (a3.trans a2).trans haT, fun p hp => z3 p (z2 p hp), hns, r3⟩
    rw [e3, List.length_append, List.length_singleton, List.take_add_one, hz]; rfl
theorem comp2S {elt : Expr} {scope : Scope} {cl : List (Str × Addr)} {pos : Pos} {first second : Expr} {x x2 y₀ : Str} {px px2 py spos : Pos} {Q : PF → St → Prop} (hxx : x ≠ x2)
    (ok : c.Ok n) (hc : c.comp = none) (hclos : closureFor scope c.env = pure cl) (hcell : ∀ y ∈ scope.names, y.2 ≠ .cell) (hkind : scope.kind = .function) (hnames : ∀ y ∈ scope.names, y.2 = .local → scope.names.lookup y.1 = some .local) (hx : scope.names.lookup x = some .local) (hx2 : scope.names.lookup x2 = some .local)
    (cel' : Str → Option Nat) (hcel : ∀ y i, cel' y = some i → ∃ a, cl.lookup y = some a ∧ c.env.cells.lookup y = some a) (xs2 zs : PV → List PV)
    (h : WE c (eval first c.env) (fun pv σ1 => ∃ xs : List PV, items pv = some xs ∧ PV.cleans xs ∧ (∀ y ∈ xs, PV.cleans (xs2 y) ∧ PV.cleans (zs y) ∧ (zs y).length = (xs2 y).length) ∧ (xs.flatMap zs).length ≤ 1000000 ∧ (∀ y i, cel' y = some i → σ1.cel y = some i) ∧
      (∀ (C : Addr) (m : Str → Option Value) (y : PV) (acc : List PV), y ∈ xs → WE (cxC c scope cl C m) (eval second (cxC c scope cl C m).env) (fun v σ' => v = .lst (xs2 y) ∧ σ' = stE x y σ1.H acc cel') (stE x y σ1.H acc cel')) ∧
      (∀ (C : Addr) (m : Str → Option Value) (i : Nat) (y y2 z : PV) (acc : List PV), y ∈ xs → (xs2 y)[i]? = some y2 → (zs y)[i]? = some z → WE (cxC c scope cl C m) (eval elt (cxC c scope cl C m).env) (fun v σ' => v = z ∧ σ' = stE2 x x2 y y2 σ1.H acc cel') (stE2 x x2 y y2 σ1.H acc cel')) ∧ Q .next (σ1.set y₀ (.lst (xs.flatMap zs)))) σ)
    (hky : c.env.kindOf y₀ = some .local := by rfl) (hsw : swapsWith (.ListComp elt [⟨.Name x px, first, [], 0⟩, ⟨.Name x2 px2, second, [], 0⟩] scope pos) (some (.Name y₀ py)) spos.line c.env = pure true := by rfl)
    (hs : ∀ v, foldedSetIterable first c.env v = pure v := by intro _; rfl) (hs2 : ∀ env v, foldedSetIterable second env v = pure v := by intros; rfl) : WS c (exec (.Assign [.Name y₀ py] (.ListComp elt [⟨.Name x px, first, [], 0⟩, ⟨.Name x2 px2, second, [], 0⟩] scope pos) spos) c.env) Q σ := by
  have hsl : sizeLine = 16777216 := rfl
  refine compUseS (fun env' D => do
      let xv ← eval second env'
      standAt second.pos
      let xv ← foldedSetIterable second env' xv
      let _ ← runOwn (.compStart (.ListComp elt [⟨.Name x px, first, [], 0⟩, ⟨.Name x2 px2, second, [], 0⟩] scope pos) 1 (← holding [xv] (pyIter xv)) (.ref D) env') env'
      pure ()) ok hc hclos hcell hkind hnames hx cel' hcel ?_ (WE.mono h ?_) hky hsw hs
  · intro env' I D
    simp only [bind_assoc, pure_bind]
    rfl
  rintro pv σ1 ⟨xs, h1, h2, h3, h5, h6, h7, h8, h9⟩
  refine ⟨xs, xs.flatMap zs, fun pre σ' => σ'.H = σ1.H ++ [.lst (pre.flatMap zs)] ∧ σ'.cel = cel', h1, h2, ?_, h6, ⟨rfl, rfl⟩, fun σ' h => h.1, ?_, h9⟩
  · rw [cleans_iff]
    intro z hz
    obtain ⟨y, hy, hz2⟩ := List.mem_flatMap.mp hz
    exact cleans_iff.mp (h3 y hy).2.1 z hz2
  · rintro C D m asT R0 pre y post σ' T Z I oI oC s he ⟨e1, e2⟩ hR0 hIC haT hD hns r
    have hy : y ∈ xs := by rw [he]; simp
    have hlenacc : (pre.flatMap zs).length + (zs y).length ≤ 1000000 := by
      rw [he] at h5
      simp only [List.flatMap_append, List.flatMap_cons, List.length_append] at h5
      lia
    generalize hacc : pre.flatMap zs = acc at *
    have r' : Rel (cxC c scope cl C m) T Z ((I, oI) :: (C, oC) :: R0) (stE x y σ1.H acc cel') s := by
      refine r.weak (fun u pv e => ?_) e1.symm (fun u i e => ?_)
      · dsimp only [stE] at e
        by_cases hu : u = x
        · rw [if_pos hu] at e; cases e; show (if u = x then some y else _) = _; rw [if_pos hu]
        · rw [if_neg hu] at e; cases e
      · show σ'.cel u = _; rw [e2]; exact e
    refine wpAny_bind (wpAny_mono ((h7 C m y acc hy).run T Z _ s r') (fun v s2 p => ?_) fun _ _ e => e)
    obtain ⟨pz, σ2, T2, Z2, ⟨hpz, rfl⟩, a2, z2, hv, r2⟩ := p
    rw [hpz] at hv
    refine wpAny_bind (wpAny_standAt (wpAny_bind (wpAny_of_eq (hs2 _ _) (wpAny_bind (wpAny_holding ?_)))))
    cases hv with
    | lst hz t =>
      rename_i a vs k
      have hL := r2.isList hz
      have hmemz : (a, listOf (List.toArray vs) k) ∈ T2 ++ (Z2 ++ ((I, oI) :: (C, oC) :: R0)) := List.mem_append_right _ (List.mem_append_left _ hz)
      have hlt2 : ∀ p ∈ T2 ++ (Z2 ++ ((I, oI) :: (C, oC) :: R0)), p.1 < s2.heap.objs.size := fun p hp => Heap.lt_size (r2.N p hp).1
      have hne : a ≠ s2.heap.objs.size := Nat.ne_of_lt (hlt2 _ hmemz)
      refine wpAny_pyIter_list hL ?_
      have W := Walks.list (prog := c.g.prog) (w := c.g.w) (A := c.A) ok.hh s2.heap.objs.size a hne vs.toArray
      obtain ⟨m2, P2, F2⟩ := r2.fr
      have hCmem : (C, oC) ∈ T2 ++ (Z2 ++ ((I, oI) :: (C, oC) :: R0)) := List.mem_append_right _ (List.mem_append_right _ (.tail _ (.head _)))
      refine wpAny_bind (wpAny_runOwn ?_)
      have loop : ∀ s3 : Shared, s3 = { s2 with heap := s2.heap.push { cls := .type "list_iterator", data := .fields #[.ref a, .int 0 0] } } →
          codeAny (model c.g.prog c.g.w) c.A (.compLoop (.ListComp elt [⟨.Name x px, first, [], 0⟩, ⟨.Name x2 px2, second, [], 0⟩] scope pos) 1 (.ref s2.heap.objs.size) (.ref D) (cxC c scope cl C m).env)
            (fun r s' => match r with
              | .ok _ => ∃ σ'' T' Z' oC', (σ''.H = σ1.H ++ [.lst ((pre ++ [y]).flatMap zs)] ∧ σ''.cel = cel') ∧ ads T' = asT ∧ (∀ p ∈ Z, p ∈ Z') ∧ isNs oC' ∧ Rel (cxC c scope cl C m) T' Z' ((I, oI) :: (C, oC') :: R0) σ'' s'
              | .error _ => False) s3 := by
        rintro s3 rfl
        have r3 : Rel (cxC c scope cl C m) T2 Z2 ((I, oI) :: (C, oC) :: R0) (stE x y σ1.H acc cel') { s2 with heap := s2.heap.push { cls := .type "list_iterator", data := .fields #[.ref a, .int 0 0] } } := r2.keep (tk := s2.toks) fun b ob e => Heap.get?_push_of_some _ e
        refine comp_loop (c := cxC c scope cl C m) (C := C) (I := s2.heap.objs.size) (R0 := (I, oI) :: R0) (Z0 := Z2) (asT := asT) (iter := second) (px := px2) (x := x2) (σ := stE x y σ1.H acc cel') (cxC_ok ok hkind) rfl (lookup_relabel_local hx2) W ?_ (fun i h st => ⟨_, st.1.choose_spec.1⟩) (Nat.ne_of_lt F2.ns.lt) (none_at_size F2) (Nat.ne_of_gt (hlt2 _ hCmem)) ?_ (xs2 y) (by rw [List.size_toArray, t.length]) ?_
          (fun pre2 σ3 => σ3.H = σ1.H ++ [.lst (acc ++ (zs y).take pre2.length)] ∧ σ3.cel = cel' ∧ σ3.loc x = some y) (eval elt (cxC c scope cl C m).env >>= fun v => call (.builtin "list.append") [.ref D, v] >>= fun _ => pure ()) ?_ ?_ _ ?_ (oC := oC) ⟨by simp, rfl, by simp⟩ hns (r3.memR (fun p hp => by simp only [List.mem_cons] at hp ⊢; rcases hp with h | h | h <;> simp [h]) (fun p hp => by simp only [List.mem_cons] at hp ⊢; rcases hp with h | h | h <;> simp [h])) (a2.trans haT) ⟨⟨_, Heap.get?_push_size _ rfl, rfl, rfl⟩, hL.at fun o e => Heap.get?_push_of_some _ e⟩ ?_
        · intro b hb
          rcases List.mem_cons.mp hb with rfl | hb
          · exact .inl rfl
          · rw [List.mem_singleton] at hb; subst hb; exact .inr ⟨_, hz⟩
        · intro p hp
          rcases List.mem_cons.mp hp with rfl | hp
          · exact ⟨hIC, Nat.ne_of_lt (hlt2 _ (List.mem_append_right _ (List.mem_append_right _ (.head _))))⟩
          · exact ⟨(hR0 p hp).1, Nat.ne_of_lt (hlt2 _ (List.mem_append_right _ (List.mem_append_right _ (.tail _ (.tail _ hp)))))⟩
        · intro i v hv' _
          have hv2 : vs[i]? = some v := by simpa using hv'
          obtain ⟨y', hy', hvr⟩ := t.getV hv2
          have hcl : y'.clean := cleans_iff.mp (h3 y hy).1 y' (List.mem_of_getElem? hy')
          exact ⟨y', hy', fun T' => hvr.ofClean hcl⟩
        · rfl
        · rintro pre2 y2 post2 σ3 T3 Z3 oI3 oC3 s3 he2 ⟨f1, f2, f3⟩ hZ3 haT3 hns3 r4
          have hlen : pre2.length < (zs y).length := by rw [(h3 y hy).2.2, he2]; simp
          have hy2 : (xs2 y)[pre2.length]? = some y2 := by rw [he2]; simp
          obtain ⟨zz, hzz⟩ : ∃ z, (zs y)[pre2.length]? = some z := ⟨_, List.getElem?_eq_getElem hlen⟩
          have r5 : Rel (cxC c scope cl C m) T3 Z3 ((s2.heap.objs.size, oI3) :: (C, oC3) :: (I, oI) :: R0) (stE2 x x2 y y2 σ1.H (acc ++ (zs y).take pre2.length) cel') s3 := by
            refine r4.weak (fun u pv e => ?_) f1.symm (fun u i e => ?_)
            · dsimp only [stE2] at e
              by_cases hu : u = x2
              · rw [if_pos hu] at e; cases e; show (if u = x2 then some y2 else _) = _; rw [if_pos hu]
              · rw [if_neg hu] at e
                by_cases hu2 : u = x
                · rw [if_pos hu2] at e; cases e; show (if u = x2 then some y2 else σ3.loc u) = _; rw [if_neg hu, hu2, f3]
                · rw [if_neg hu2] at e; cases e
            · show σ3.cel u = _; rw [f2]; exact e
          refine wpAny_bind (wpAny_mono ((h8 C m pre2.length y y2 zz _ hy hy2 hzz).run T3 Z3 _ s3 r5) (fun v s4 p => ?_) fun _ _ e => e)
          obtain ⟨pz, σ4, T4, Z4, ⟨hpz, rfl⟩, a4, z4, hv4, r6⟩ := p
          rw [hpz] at hv4
          have hl3 : (acc ++ (zs y).take pre2.length).length ≤ sizeLine := by rw [List.length_append, List.length_take]; lia
          have hW := (WO.append (c := cxC c scope cl C m) (σ := stE2 x x2 y y2 σ1.H (acc ++ (zs y).take pre2.length) cel') (i := σ1.H.length) (xs := acc ++ (zs y).take pre2.length) (y := zz) (Q := fun _ σ5 => σ5.H = σ1.H ++ [PO.lst ((acc ++ (zs y).take pre2.length) ++ [zz])] ∧ σ5.cel = cel' ∧ σ5.loc x = some y)
            (List.getElem?_concat_length) hl3 ⟨by show (σ1.H ++ [_]).set σ1.H.length _ = _; rw [List.set_append_right _ _ (Nat.le_refl _), Nat.sub_self]; rfl, rfl, by show (if x = x2 then _ else if x = x then some y else none) = _; rw [if_neg hxx, if_pos rfl]⟩).run T4 Z4 _ s4 [.ref D, v] r6 (.cons (.ref (by rw [a4, haT3]; exact hD)) (.cons hv4 .nil))
          refine wpAny_bind (wpAny_mono hW (fun _ s5 p => ?_) fun _ _ e => e)
          obtain ⟨_, σ5, T5, Z5, ⟨e3, e4, e5⟩, a5, z5, _, r7⟩ := p
          refine wpAny_pure ⟨σ5, T5, Z5, oC3, ⟨?_, e4, e5⟩, (a5.trans a4).trans haT3, fun p hp => z5 p (z4 p hp), hns3, r7⟩
          rw [e3, List.length_append, List.length_singleton, List.take_add_one, hzz, List.append_assoc]; rfl
        · rintro σ3 T3 Z3 oC3 s3 ⟨f1, f2, f3⟩ hZ3 haT3 hns3 r4
          refine ⟨σ3, T3, Z3, oC3, ⟨?_, f2⟩, haT3, fun p hp => hZ3 p (z2 p hp), hns3, r4.memR (fun p hp => by simp only [List.mem_cons] at hp ⊢; rcases hp with h | h | h <;> simp [h]) (fun p hp => by simp only [List.mem_cons] at hp ⊢; rcases hp with h | h | h <;> simp [h])⟩
          rw [f1, ← (h3 y hy).2.2, List.take_length, List.flatMap_append, hacc]; simp
        · intro p hp
          refine Nat.ne_of_lt (hlt2 p ?_)
          rcases List.mem_append.mp hp with h | h
          · exact List.mem_append_left _ h
          · exact List.mem_append_right _ (List.mem_append_left _ h)
      refine codeAny_mono (codeAny_compStart_one (loop _ rfl) (W.self 0 _ _ _ ⟨⟨_, Heap.get?_push_size _ rfl, rfl, rfl⟩, hL.at fun o e => Heap.get?_push_of_some _ e⟩ (loop _ rfl))) fun r s4 hr => ?_
      cases r with
      | ok f => exact wpAny_pure hr
      | error e => exact hr.elim
end
end Mine
end
section
open PySem PySem.W PySem.Calls PyProof.Rows PySem.Spec
namespace Mine
-- what the law's own lines reckon
noncomputable def opIx (x : Int) : Nat := (x.fmod 48).toNat
noncomputable def opOf (x : Int) : List Nat := OPS.getD (opIx x) []
noncomputable def xsOf (ns : List Int) : List Int := [310, 236, 170, 20, 45] ++ ns.take 4
noncomputable def textOf (xs : List Int) : List Nat := xs.flatMap fun x => opOf x ++ behind x
noncomputable def addLast (pl : List (List Nat)) (k : Nat) : List (List Nat) := pl.dropLast ++ [pl.getLastD [] ++ [k]]
noncomputable def signStep (pl : List (List Nat)) (k : Nat) : List (List Nat) := if k = 10 then pl ++ [[]] else addLast pl (256 + k)
noncomputable def plainStep (pl : List (List Nat)) (x : Int) : List (List Nat) := (behind x).foldl signStep (addLast pl (7 + opIx x))
noncomputable def plainOf (xs : List Int) : List (List Nat) := xs.foldl plainStep [[]]
noncomputable def widthOf (ns : List Int) : Nat := 4 + ((((ns.take 4).map fun (x : Int) => x.fmod 9).sum).fmod 9).toNat
noncomputable def toldOf (text : List Nat) (w : Nat) : List (List Nat) := (splitNL text).flatMap fun line => (lawRows line w).map (numL [])
theorem opIx_lt (x : Int) : opIx x < 48 := by
  have h1 := Int.fmod_nonneg_of_pos x (b := 48) (by decide)
  have h2 := Int.fmod_lt_of_pos x (b := 48) (by decide)
  unfold opIx; omega
theorem opIx_eq (x : Int) : x.fmod 48 = (opIx x : Int) := by
  have h1 := Int.fmod_nonneg_of_pos x (b := 48) (by decide)
  unfold opIx; omega
theorem opOf_get (x : Int) : OPS[opIx x]? = some (opOf x) := by
  have h := opIx_lt x
  unfold opOf
  rw [List.getD_eq_getElem?_getD, List.getElem?_eq_getElem (by show opIx x < 48; exact h)]
  rfl
theorem addLast_ne (pl : List (List Nat)) (k : Nat) : addLast pl k ≠ [] := by simp [addLast]
theorem signStep_ne {pl : List (List Nat)} (k : Nat) : signStep pl k ≠ [] := by
  unfold signStep
  split
  · simp
  · exact addLast_ne _ _
-- data
noncomputable def dRow (r : List Nat) : PyData := .list (r.map fun (k : Nat) => PyData.int (k : Int))
noncomputable def dRows (rs : List (List Nat)) : PyData := .list (rs.map dRow)
theorem canLay_row : ∀ r : List Nat, PyData.canLayAll0 (r.map fun (k : Nat) => PyData.int (k : Int)) = true
  | [] => rfl
  | k :: r => by rw [List.map_cons, PyData.canLayAll0, canLay_row r]; rfl
theorem depth_row : ∀ r : List Nat, PyData.depthAll (r.map fun (k : Nat) => PyData.int (k : Int)) = 0
  | [] => rfl
  | k :: r => by rw [List.map_cons, PyData.depthAll, depth_row r]; rfl
theorem canLay_rows : ∀ rs : List (List Nat), PyData.canLayAll0 (rs.map dRow) = true
  | [] => rfl
  | r :: rs => by
    rw [List.map_cons, PyData.canLayAll0, canLay_rows rs, dRow, PyData.canLay0, canLay_row]; rfl
theorem depth_rows : ∀ rs : List (List Nat), PyData.depthAll (rs.map dRow) ≤ 1
  | [] => by rw [List.map_nil, PyData.depthAll]; omega
  | r :: rs => by
    rw [List.map_cons, PyData.depthAll, dRow, PyData.depth, depth_row]
    have := depth_rows rs
    omega
theorem shaped_rows (rs : List (List Nat)) : SeqAt.shaped (dRows rs) = true := by
  unfold SeqAt.shaped dRows
  rw [PyData.canLay0, canLay_rows, PyData.depth]
  have := depth_rows rs
  simp; omega
theorem eqv_row : ∀ r : List Nat, PyData.eqvAll (r.map fun (k : Nat) => PyData.int (k : Int)) (r.map fun (k : Nat) => PyData.int (k : Int)) = true
  | [] => by rw [List.map_nil, PyData.eqvAll]
  | k :: r => by rw [List.map_cons, PyData.eqvAll, eqv_row r, PyData.eqv]; simp
theorem eqv_rows : ∀ rs : List (List Nat), PyData.eqvAll (rs.map dRow) (rs.map dRow) = true
  | [] => by rw [List.map_nil, PyData.eqvAll]
  | r :: rs => by rw [List.map_cons, PyData.eqvAll, eqv_rows rs, dRow, PyData.eqv, eqv_row]; rfl
theorem eqv_self (rs : List (List Nat)) : PyData.eqv (dRows rs) (dRows rs) = true := by
  unfold dRows; rw [PyData.eqv]; exact eqv_rows rs
section
variable {as : List Addr} {Z : List (Addr × Obj)} {h : Heap}
theorem reads_row {vs : List Value} {r : List Nat} (hv : VRs as Z vs (nms r)) : ∃ bs, ReadsAll h vs (r.map fun (k : Nat) => PyData.int (k : Int)) bs := by
  induction r generalizing vs with
  | nil => cases hv; exact ⟨[], .nil⟩
  | cons k r ih =>
    cases hv with
    | cons h1 t =>
      cases h1
      obtain ⟨bs, hb⟩ := ih t
      exact ⟨_, .cons (.int _ _) hb⟩
theorem reads_lst (hZ : ∀ p ∈ Z, h.get? p.1 = some p.2) {v : Value} {r : List Nat} (hv : VR as Z v (.lst (nms r))) : ∃ bs, Reads h v (dRow r) bs := by
  cases hv with
  | lst hz t =>
    obtain ⟨bs, hb⟩ := reads_row (h := h) t
    exact ⟨_, .list (hZ _ hz) rfl rfl (by simpa using hb)⟩
theorem reads_rows (hZ : ∀ p ∈ Z, h.get? p.1 = some p.2) : ∀ {vs : List Value} {rs : List (List Nat)}, VRs as Z vs (rs.map fun r => .lst (nms r)) → ∃ bs, ReadsAll h vs (rs.map dRow) bs
  | _, [], .nil => ⟨[], .nil⟩
  | _, r :: rs, .cons hv t => by
    obtain ⟨b1, h1⟩ := reads_lst hZ hv
    obtain ⟨b2, h2⟩ := reads_rows hZ t
    exact ⟨_, .cons h1 h2⟩
end
noncomputable abbrev nmss (rs : List (List Nat)) : List PV := rs.map fun r => PV.lst (nms r)
theorem nmss_clean (rs : List (List Nat)) : PV.cleans (nmss rs) := by
  induction rs with
  | nil => trivial
  | cons y ys ih => exact ⟨nms_clean _, ih⟩
section
variable {c : Cx} {T Z R : List (Addr × Obj)} {σ : St} {s : Shared} {n : Nat} {Q : PV → St → Prop}
theorem Rel.gets (r : Rel c T Z R σ s) : ∀ p ∈ Z, s.heap.get? p.1 = some p.2 := fun p hp => (r.N p (List.mem_append_right _ (List.mem_append_left _ hp))).1
theorem readsF (rs : List (List Nat)) : ∀ T Z R s v, Rel c T Z R σ s → VR (ads T) Z v (.lst (nmss rs)) → ∃ as, Reads s.heap v (dRows rs) as := by
  intro T Z R s v r hv
  cases hv with
  | lst hz t =>
    obtain ⟨bs, hb⟩ := reads_rows r.gets t
    exact ⟨_, .list (r.gets _ hz) rfl rfl (by simpa using hb)⟩
/-- a tracked list of tracked lists -/
theorem readsT (rs : List (List Nat)) {i : Nat} {ks : List Nat} (hi : σ.H[i]? = some (.lst (ks.map .ref))) (hl : ks.length = rs.length) (hk : ∀ (j k : Nat) (r : List Nat), ks[j]? = some k → rs[j]? = some r → σ.H[k]? = some (PO.lst (nms r))) :
    ∀ T Z R s v, Rel c T Z R σ s → VR (ads T) Z v (.ref i) → ∃ as, Reads s.heap v (dRows rs) as := by
  intro T Z R s v r hv
  obtain ⟨D, vs, k, rfl, h1, h2, t⟩ := r.tracked hv hi
  have key : ∀ (ks : List Nat) (rs : List (List Nat)) (vs : List Value), ks.length = rs.length → (∀ (j k : Nat) (r : List Nat), ks[j]? = some k → rs[j]? = some r → σ.H[k]? = some (PO.lst (nms r))) → VRs (ads T) Z vs (ks.map .ref) → ∃ bs, ReadsAll s.heap vs (rs.map dRow) bs := by
    intro ks
    induction ks with
    | nil =>
      intro rs vs hl _ ht
      have : rs = [] := List.eq_nil_of_length_eq_zero hl.symm
      subst this
      cases ht
      exact ⟨[], .nil⟩
    | cons k ks ih =>
      intro rs vs hl hk ht
      cases rs with
      | nil => cases hl
      | cons q rs =>
        cases ht with
        | cons hv1 t1 =>
          obtain ⟨bs, hb⟩ := ih rs _ (by simpa using hl) (fun j k' r' e1 e2 => hk (j + 1) k' r' (by simpa using e1) (by simpa using e2)) t1
          obtain ⟨D1, ws, k1, rfl, e1, e2, t2⟩ := r.tracked hv1 (hk 0 k q rfl rfl)
          obtain ⟨b1, hb1⟩ := reads_row (h := s.heap) t2
          exact ⟨_, .cons (.list e2 rfl rfl (by simpa using hb1)) hb⟩
  obtain ⟨bs, hb⟩ := key ks rs vs hl hk t
  exact ⟨_, .list h2 rfl rfl (by simpa using hb)⟩
end
end Mine
end
section
open PySem PySem.W PySem.Calls PyProof.Rows PySem.Spec
namespace Mine
structure GL (g : Gl) : Prop where
  operators : FnAt g.K "_law_operators" fd_operators 0 [] []
  behind : FnAt g.K "_law_behind" fd_behind 1 ["x"] []
  read : FnAt g.K "_law_read" fd_read 1 ["text"] []
  rows : FnAt g.K "_law_rows" fd_rows 2 ["line", "width"] []
  numbers : FnAt g.K "_law_numbers" fd_numbers 2 ["row", "operators"] []
  once : FnAt g.K "_law_once_more" fd_once 2 ["row", "operators"] []
  encode : FnAt g.K "body_encode" fd_encode 2 ["body", "maxlinelen", "eol"] [.str (S [10])]
  decode : FnAt g.K "decode" fd_decode 1 ["encoded", "eol"] [.str (S [10])]
/-- what body_encode asks -/
structure EncOk (b : List Nat) (w : Nat) : Prop where
  ne : b ≠ []
  len : b.length < 1000000
  sign : ∀ k ∈ b, k < 256
  w4 : 4 ≤ w
  w1000 : w < 1000
  ok : ∀ c ∈ b.flatMap bmapF, okC c
  tlen : (b.flatMap bmapF).length < 1000000
  lin : ∀ l ∈ linesL (b.flatMap bmapF), l.length < 1000000
  cnt : (encItems w (b.flatMap bmapF)).length < 1000000
  sum : ((encItems w (b.flatMap bmapF)).map (·.length)).sum + (encItems w (b.flatMap bmapF)).length * 64 ≤ 16777216
/-- what decode gives -/
structure DecOk (e out : List Nat) : Prop where
  ne : e ≠ []
  len : e.length < 1000000
  ds : ∃ ds : List DLine, Txt.lines (S e) = (ds.map DLine.raw).map S ∧ (∀ d ∈ ds, d.Good) ∧ (ds.flatMap DLine.out).length < 1000000 ∧ decTail e (ds.flatMap DLine.out) = out
/-- all that the law's walk asks of the plain functions -/
structure LawOk (ns : List Int) : Prop where
  tlen : (textOf (xsOf ns)).length < 500
  enc1 : EncOk (textOf (xsOf ns)) (widthOf ns)
  enc2 : EncOk (encBody (widthOf ns) (textOf (xsOf ns))) 400
  llen : (encBody (widthOf ns) (textOf (xsOf ns))).length < 100000
  alen : (encBody 400 (encBody (widthOf ns) (textOf (xsOf ns)))).length < 1000000
  rowOk : ∀ line ∈ splitNL (textOf (xsOf ns)), ∀ row ∈ lawRows line (widthOf ns), row.length < 14 ∧ ∀ p ∈ row, (∃ k, p = [k]) ∨ (∃ k, k < 256 ∧ p = esc k)
  told1 : (toldOf (textOf (xsOf ns)) (widthOf ns)).length ≤ 1000000
  told2 : ∀ r ∈ toldOf (textOf (xsOf ns)) (widthOf ns), r.length < 1000000 ∧ ∀ k ∈ r, 7 ≤ k ∧ (k < 256 → k < 55)
  plain : (splitNL (textOf (xsOf ns))).map readL = plainOf (xsOf ns)
  plainLen : (plainOf (xsOf ns)).length < 1000
  read2 : (splitNL (encBody (widthOf ns) (textOf (xsOf ns)))).map readL = toldOf (textOf (xsOf ns)) (widthOf ns)
  read3 : (splitNL (encBody 400 (encBody (widthOf ns) (textOf (xsOf ns))))).map readL = (toldOf (textOf (xsOf ns)) (widthOf ns)).map onceMore
  dec1 : DecOk (encBody (widthOf ns) (textOf (xsOf ns))) (textOf (xsOf ns))
  dec2 : DecOk (joinL [9, 32, 10] (splitNL (encBody (widthOf ns) (textOf (xsOf ns))))) (textOf (xsOf ns))
  dec3 : DecOk (encBody 400 (encBody (widthOf ns) (textOf (xsOf ns)))) (encBody (widthOf ns) (textOf (xsOf ns)))
noncomputable abbrev cxL (g : Gl) (A : Around) (h₀ : Heap) (L f : Addr) (cdv : Value) (s₀ : Shared) : Cx :=
  { g := g, A := A, h₀ := h₀, L := L, env := envOfC "law" fd_law.scope L f cdv, comp := none, s₀ := s₀ }
end Mine
end
section
open PySem PySem.W PySem.Calls PyProof.Rows PySem.Spec
namespace Mine
/-- the list of lists that the law builds: the outer at 3, the inner ones at ks -/
structure PlainSt (H : List PO) (pl : List (List Nat)) (ks : List Nat) : Prop where
  c0 : H[0]? = some (.cell (some (.lst (sts OPS))))
  c1 : H[1]? = some (.cell none)
  len : ks.length = pl.length
  ne : ks ≠ []
  nd : ks.Nodup
  out : H[3]? = some (.lst (ks.map PV.ref))
  at_ : ∀ k ∈ ks, (k = 2 ∨ 4 ≤ k) ∧ k < H.length
  inn : ∀ (j k : Nat) (r : List Nat), ks[j]? = some k → pl[j]? = some r → H[k]? = some (PO.lst (nms r))
theorem PlainSt.init : PlainSt [.cell (some (.lst (sts OPS))), .cell none, .lst [], .lst [.ref 2]] [[]] [2] := by
  refine ⟨rfl, rfl, rfl, by simp, by simp, rfl, by simp, ?_⟩
  intro j k r h1 h2
  cases j with
  | zero => cases h1; cases h2; rfl
  | succ j => simp at h1
theorem PlainSt.last {H : List PO} {pl : List (List Nat)} {ks : List Nat} (P : PlainSt H pl ks) : ∃ k r, ks.getLast? = some k ∧ pl.getLast? = some r ∧ pl.getLastD [] = r ∧ H[k]? = some (.lst (nms r)) := by
  have hk : ks.getLast? = some (ks.getLast P.ne) := List.getLast?_eq_some_getLast P.ne
  have hpl : pl ≠ [] := by intro e; have := P.len; rw [e] at this; exact P.ne (List.eq_nil_of_length_eq_zero this)
  have hr : pl.getLast? = some (pl.getLast hpl) := List.getLast?_eq_some_getLast hpl
  refine ⟨_, _, hk, hr, ?_, ?_⟩
  · rw [List.getLastD_eq_getLast?, hr]; rfl
  · refine P.inn (ks.length - 1) _ _ ?_ ?_
    · rw [← List.getLast?_eq_getElem?, hk]
    · rw [P.len, ← List.getLast?_eq_getElem?, hr]
theorem PlainSt.add {H : List PO} {pl : List (List Nat)} {ks : List Nat} {k : Nat} {r : List Nat} (P : PlainSt H pl ks) (hk : ks.getLast? = some k) (hr : pl.getLastD [] = r) (v : Nat) : PlainSt (H.set k (.lst (nms r ++ [.int (v : Int)]))) (addLast pl v) ks := by
  have hmem : k ∈ ks := List.mem_of_getLast? hk
  obtain ⟨hk1, hk2⟩ := P.at_ k hmem
  have hpl : pl ≠ [] := by intro e; have := P.len; rw [e] at this; exact P.ne (List.eq_nil_of_length_eq_zero this)
  have hlen : (addLast pl v).length = pl.length := by
    have : 1 ≤ pl.length := by cases pl with | nil => exact absurd rfl hpl | cons _ _ => simp
    unfold addLast
    rw [List.length_append, List.length_dropLast, List.length_singleton]; lia
  refine ⟨by rw [List.getElem?_set_ne (by lia)]; exact P.c0, by rw [List.getElem?_set_ne (by lia)]; exact P.c1, by rw [hlen]; exact P.len, P.ne, P.nd, by rw [List.getElem?_set_ne (by lia)]; exact P.out, fun q hq => by rw [List.length_set]; exact P.at_ q hq, ?_⟩
  intro j q r' h1 h2
  have hj : j < ks.length := (List.getElem?_eq_some_iff.mp h1).1
  by_cases hq : q = k
  · subst hq
    have hj2 : j = ks.length - 1 := by
      rw [List.getLast?_eq_getElem?] at hk
      exact (List.getElem?_inj hj P.nd).mp (h1.trans hk.symm)
    subst hj2
    rw [List.getElem?_set_self hk2]
    have : (addLast pl v)[ks.length - 1]? = some (r ++ [v]) := by
      unfold addLast
      rw [List.getElem?_append_right (by rw [List.length_dropLast, P.len]; exact Nat.le_refl _), List.length_dropLast, P.len, Nat.sub_self, hr]; rfl
    rw [this] at h2
    cases h2
    rw [nms_app]; rfl
  · rw [List.getElem?_set_ne (fun e => hq e.symm)]
    have hjl : j ≠ ks.length - 1 := by
      intro e
      rw [List.getLast?_eq_getElem?, ← e, h1] at hk
      exact hq (Option.some.inj hk)
    refine P.inn j q r' h1 ?_
    have hjp : j < pl.dropLast.length := by rw [List.length_dropLast, ← P.len]; lia
    unfold addLast at h2
    rw [List.getElem?_append_left hjp] at h2
    rw [List.dropLast_eq_take, List.getElem?_take] at h2
    split at h2
    · exact h2
    · cases h2
theorem PlainSt.new {H : List PO} {pl : List (List Nat)} {ks : List Nat} (P : PlainSt H pl ks) : PlainSt ((H ++ [PO.lst []]).set 3 (PO.lst (ks.map PV.ref ++ [PV.ref H.length]))) (pl ++ [[]]) (ks ++ [H.length]) := by
  have h3 : 3 < H.length := (List.getElem?_eq_some_iff.mp P.out).1
  have app : ∀ (i : Nat), i < H.length → (H ++ [PO.lst []])[i]? = H[i]? := fun i hi => List.getElem?_append_left hi
  refine ⟨?_, ?_, by simp [P.len], by simp, ?_, ?_, ?_, ?_⟩
  · rw [List.getElem?_set_ne (by lia), app 0 (by lia)]; exact P.c0
  · rw [List.getElem?_set_ne (by lia), app 1 (by lia)]; exact P.c1
  · refine List.nodup_append.mpr ⟨P.nd, by simp, ?_⟩
    intro a ha b hb e
    rw [List.mem_singleton] at hb
    have := (P.at_ a ha).2
    lia
  · rw [List.getElem?_set_self (by simp; lia)]; simp
  · intro k hk
    rw [List.length_set, List.length_append, List.length_singleton]
    rcases List.mem_append.mp hk with h | h
    · have := P.at_ k h; exact ⟨this.1, by lia⟩
    · rw [List.mem_singleton.mp h]; exact ⟨.inr (by lia), by lia⟩
  · intro j k r h1 h2
    by_cases hj : j < ks.length
    · rw [List.getElem?_append_left hj] at h1
      rw [List.getElem?_append_left (by rw [← P.len]; exact hj)] at h2
      have hk := P.at_ k (List.mem_of_getElem? h1)
      rw [List.getElem?_set_ne (by lia), app k hk.2]
      exact P.inn j k r h1 h2
    · have hj2 : j = ks.length := by
        have := (List.getElem?_eq_some_iff.mp h1).1
        simp at this; lia
      subst hj2
      rw [List.getElem?_concat_length] at h1
      rw [P.len, List.getElem?_concat_length] at h2
      cases h1; cases h2
      rw [List.getElem?_set_ne (by lia), List.getElem?_concat_length]; rfl
theorem behind_len (x : Int) : (behind x).length ≤ 4 := by
  unfold behind behindOf
  split <;> first | (simp; done) | (split <;> simp)
theorem addLast_len {pl : List (List Nat)} (h : pl ≠ []) (v : Nat) : (addLast pl v).length = pl.length := by
  have : 1 ≤ pl.length := by cases pl with | nil => exact absurd rfl h | cons _ _ => simp
  unfold addLast
  rw [List.length_append, List.length_dropLast, List.length_singleton]; lia
theorem addLast_rows {pl : List (List Nat)} {N : Nat} (h : ∀ r ∈ pl, r.length ≤ N) (v : Nat) : ∀ r ∈ addLast pl v, r.length ≤ N + 1 := by
  intro r hr
  unfold addLast at hr
  rcases List.mem_append.mp hr with h1 | h1
  · have := h r (List.dropLast_subset pl h1); lia
  · rw [List.mem_singleton.mp h1, List.length_append, List.length_singleton]
    cases hp : pl.getLast? with
    | none => rw [List.getLastD_eq_getLast?, hp]; simp
    | some q =>
      rw [List.getLastD_eq_getLast?, hp]
      have := h q (List.mem_of_getLast? hp)
      simp; lia
theorem PlainSt.plne {H : List PO} {pl : List (List Nat)} {ks : List Nat} (P : PlainSt H pl ks) : pl ≠ [] := by
  intro e; have := P.len; rw [e] at this; exact P.ne (List.eq_nil_of_length_eq_zero this)
noncomputable def rowsOfPV (w : Nat) : PV → List PV
  | .str x => rowsP (lawRows x.cps.toList w)
  | _ => []
noncomputable def numsOfPV (w : Nat) : PV → List PV
  | .str x => nmss ((lawRows x.cps.toList w).map (numL []))
  | _ => []
theorem rowsOfPV_S (w : Nat) (l : List Nat) : rowsOfPV w (.str (S l)) = rowsP (lawRows l w) := by simp [rowsOfPV, S_list]
theorem numsOfPV_S (w : Nat) (l : List Nat) : numsOfPV w (.str (S l)) = nmss ((lawRows l w).map (numL [])) := by simp [numsOfPV, S_list]
theorem told_flat (w : Nat) (ls : List (List Nat)) : (sts ls).flatMap (numsOfPV w) = nmss (ls.flatMap fun line => (lawRows line w).map (numL [])) := by
  induction ls with
  | nil => rfl
  | cons l ls ih =>
    show numsOfPV w (PV.str (S l)) ++ (sts ls).flatMap (numsOfPV w) = _
    rw [ih, numsOfPV_S, List.flatMap_cons]
    simp only [nmss, List.map_append]
end Mine
end
section
open PySem PySem.W PySem.Calls PyProof.Rows PySem.Spec
namespace Mine
theorem splitNL_facts : ∀ l : List Nat, (splitNL l).length ≤ l.length + 1 ∧ ∀ p ∈ splitNL l, p.length ≤ l.length ∧ ∀ k ∈ p, k ∈ l
  | [] => by
    refine ⟨by simp [splitNL], ?_⟩
    intro p hp
    simp only [splitNL, List.mem_singleton] at hp
    subst hp
    exact ⟨Nat.le_refl _, fun k hk => hk⟩
  | c :: r => by
    obtain ⟨h1, h2⟩ := splitNL_facts r
    unfold splitNL
    split
    · refine ⟨by simp; lia, ?_⟩
      intro p hp
      rcases List.mem_cons.mp hp with rfl | h
      · exact ⟨Nat.zero_le _, fun k hk => (by cases hk)⟩
      · have := h2 p h
        exact ⟨by simp; lia, fun k hk => .tail _ (this.2 k hk)⟩
    · split
      · rename_i h; exact absurd h (splitNL_ne r)
      · rename_i q qs h
        rw [h] at h1 h2
        refine ⟨by simp at h1 ⊢; lia, ?_⟩
        intro p hp
        rcases List.mem_cons.mp hp with rfl | h3
        · have := h2 q (.head _)
          refine ⟨by simp; lia, ?_⟩
          intro k hk
          rcases List.mem_cons.mp hk with rfl | hk
          · exact .head _
          · exact .tail _ (this.2 k hk)
        · have := h2 p (.tail _ h3)
          exact ⟨by simp; lia, fun k hk => .tail _ (this.2 k hk)⟩
end Mine
end
section
open PySem PySem.W PySem.Calls PyProof.Rows PySem.Spec
namespace Mine
set_option maxRecDepth 20000
local macro_rules | `(tactic| walk_at "m") => `(tactic| first
  | ((with_reducible show WE _ _ _ _); first
    | with_reducible refine WE.int ?_
    | with_reducible refine WE.str ?_
    | ((with_reducible show WE _ (eval (Expr.Call (Expr.Attribute (Expr.Name (Str.ofString "EXACT_TOKEN_TYPES") _) (Str.ofString "get") _) _ [] _) _) _ _); refine WE.getTok (by assumption) (GF.tok (by assumption)) ?_)
    | ((with_reducible show WE _ (eval (Expr.Call (Expr.Attribute _ (Str.ofString "split") _) _ [] _) _) _ _); refine WE.methS PySem.F.slot_str_split ty_str_split ?_)
    | ((with_reducible show WE _ (eval (Expr.Call (Expr.Attribute _ (Str.ofString "join") _) _ [] _) _) _ _); refine WE.methS PySem.F.slot_str_join ty_str_join ?_)
    | ((with_reducible show WE _ (eval (Expr.Call (Expr.Attribute _ (Str.ofString "rstrip") _) _ [] _) _) _ _); refine WE.methS PySem.F.slot_str_rstrip ty_str_rstrip ?_)
    | ((with_reducible show WE _ (eval (Expr.Call (Expr.Attribute _ (Str.ofString "endswith") _) _ [] _) _) _ _); refine WE.methS PySem.F.slot_str_endswith ty_str_endswith ?_)
    | ((with_reducible show WE _ (eval (Expr.Call (Expr.Attribute _ (Str.ofString "splitlines") _) _ [] _) _) _ _); refine WE.methS PySem.F.slot_str_splitlines ty_str_splitlines ?_)
    | ((with_reducible show WE _ (eval (Expr.Call (Expr.Attribute _ (Str.ofString "replace") _) _ [] _) _) _ _); refine WE.methS PySem.F.slot_str_replace ty_str_replace ?_)
    | ((with_reducible show WE _ (eval (Expr.Call (Expr.Attribute _ (Str.ofString "translate") _) _ [] _) _) _ _); refine WE.methS PySem.F.slot_str_translate ty_str_translate ?_)
    | ((with_reducible show WE _ (eval (Expr.Call (Expr.Attribute _ (Str.ofString "append") _) _ [] _) _) _ _); refine WE.methL PySem.F.slot_list_append ty_list_append ?_)
    | ((with_reducible show WE _ (eval (Expr.Call (Expr.Attribute _ (Str.ofString "pop") _) _ [] _) _) _ _); refine WE.methL PySem.F.slot_list_pop ty_list_pop ?_)
    | ((with_reducible show WE _ (eval (Expr.Call (Expr.Attribute _ (Str.ofString "extend") _) _ [] _) _) _ _); refine WE.methL PySem.F.slot_list_extend ty_list_extend ?_)
    | ((with_reducible show WE _ (eval (Expr.Call (Expr.Attribute _ (Str.ofString "index") _) _ [] _) _) _ _); refine WE.methL PySem.F.slot_list_index ty_list_index ?_)
    | ((with_reducible show WE _ (eval (Expr.Call (Expr.Name (Str.ofString "append") _) [_] [] _) _) _ _); refine WE.callApp (by assumption) (by first | assumption | rfl) ?_)
    | ((with_reducible show WE _ (eval (Expr.Call (Expr.Name (Str.ofString "ord") _) _ [] _) _) _ _); refine WE.callB (by assumption) (GF.ord (by assumption)) (by rfl) (by decide) ?_)
    | ((with_reducible show WE _ (eval (Expr.Call (Expr.Name (Str.ofString "chr") _) _ [] _) _) _ _); refine WE.callB (by assumption) (GF.chr (by assumption)) (by rfl) (by decide) ?_)
    | ((with_reducible show WE _ (eval (Expr.Call (Expr.Name (Str.ofString "len") _) _ [] _) _) _ _); refine WE.callB (by assumption) (GF.len (by assumption)) (by rfl) (by decide) ?_)
    | ((with_reducible show WE _ (eval (Expr.List _ _) _) _ _); refine WE.list ?_)
    | ((with_reducible show WE _ (eval (Expr.Call (Expr.Name (Str.ofString "_law_escape") _) _ [] _) _) _ _); refine WE.callFn (by assumption) (GF.escape (by assumption)) ?_)
    | ((with_reducible show WE _ (eval (Expr.BinOp _ _ _ _) _) _ _); refine WE.bin ?_)
    | ((with_reducible show WE _ (eval (Expr.UnaryOp UnaryOp.USub _ _) _) _ _); refine WE.neg1 ?_)
    | ((with_reducible show WE _ (eval (Expr.Compare _ [_] [_] _) _) _ _); refine WE.cmp ?_)
    | ((with_reducible show WE _ (eval (Expr.Subscript (Expr.Name (Str.ofString "pieces") _) (Expr.Slice _ _ none _) _) _) _ _); refine WE.sliceX ?_)
    | ((with_reducible show WE _ (eval (Expr.Subscript _ (Expr.Slice _ _ none _) _) _) _ _); refine WE.sliceN ?_)
    | ((with_reducible show WE _ (eval (Expr.Subscript _ _ _) _) _ _); refine WE.sub ?_)
    | ((with_reducible show WE _ (eval (Expr.Name _ _) _) _ _); refine WE.name (by assumption) (by first | assumption | rfl) ?_))
  | ((with_reducible show WS _ _ _ _); first
    | with_reducible refine WS.nil ?_
    | with_reducible refine WS.seq ?_
    | ((with_reducible show WS _ (exec (Stmt.Return (some _) _) _) _ _); refine WS.ret ?_)
    | with_reducible refine WS.cont ?_
    | ((with_reducible show WS _ (exec (Stmt.Expr _ _) _) _ _); refine WS.expr ?_)
    | ((with_reducible show WS _ (exec (Stmt.Assign [Expr.Name _ _] (Expr.Attribute (Expr.Name _ _) (Str.ofString "append") _) _) _) _ _); refine WS.assignApp (i := 0) (by assumption) rfl (by rfl) (by rfl) ?_)
    | ((with_reducible show WS _ (exec (Stmt.Assign [Expr.Name _ _] (Expr.List _ _) _) _) _ _); refine WS.assignNew (by assumption) rfl ?_)
    | ((with_reducible show WS _ (exec (Stmt.Assign [Expr.Name _ _] _ _) _) _ _); refine WS.assign (by assumption) rfl ?_)
    | ((with_reducible show WS _ (exec (Stmt.AugAssign (Expr.Name _ _) _ _ _) _) _ _); refine WS.aug (by assumption) rfl (by first | assumption | rfl) ?_))
  | ((with_reducible show WO2 _ _ _ _ _ _); first
    | with_reducible refine WO2.isubI ?_
    | with_reducible refine WO2.addI ?_
    | with_reducible refine WO2.subI ?_
    | ((with_reducible show WO2 _ (binaryOp Operator.Mod) (PV.int _) (PV.int _) _ _); refine WO2.modI (by decide) ?_)
    | with_reducible refine WO2.iaddI ?_
    | with_reducible refine WO2.ltI ?_
    | with_reducible refine WO2.leI ?_
    | with_reducible refine WO2.gtI ?_
    | with_reducible refine WO2.geI ?_
    | with_reducible refine WO2.eqI ?_)
  | ((with_reducible show WO _ _ _ _ _); first
    | ((with_reducible show WO _ (fun ws => call (Value.builtin ("len", Manifest.BuiltinName.function).fst) ws) [PV.str (S _)] _ _); refine WO.lenS (by first | assumption | omega) ?_)
    | ((with_reducible show WO _ (fun ws => call (Value.builtin ("ord", Manifest.BuiltinName.function).fst) ws) [PV.str (S [_])] _ _); refine WO.ord ?_))
  | ((with_reducible show WT _ _ _ _); first
    | ((with_reducible show WT _ (isTrue (Expr.Compare _ [CmpOp.NotIn] [Expr.Name (Str.ofString "EXACT_TOKEN_TYPES") _] _) _ _) _ _); refine WE.notInTok (by assumption) (GF.tok (by assumption)) ?_)
    | ((with_reducible show WT _ (isTrue (Expr.Compare _ [_] [_] _) _ _) _ _); refine WT.cmp ?_)
    | ((with_reducible show WT _ (isTrue (Expr.Compare _ [_, _] [_, _] _) _ _) _ _); refine WT.chain2 ?_)
    | with_reducible refine WT.not ?_
    | with_reducible refine WT.bool ?_
    | with_reducible refine WT.and_nil ?_
    | with_reducible refine WT.or_nil ?_
    | with_reducible refine WT.and_cons ?_
    | with_reducible refine WT.or_cons ?_)
  | with_reducible refine WA.nil_ ?_
  | with_reducible refine WA.cons_ ?_
  | with_reducible refine WP.none_ ?_
  | with_reducible refine WP.some_ ?_
  | with_reducible refine thn_next ?_
  | with_reducible refine iteT ?_
  | with_reducible refine iteF ?_
  | with_reducible refine lp_next ?_
  | with_reducible refine lp_cont ?_
  | with_reducible refine thn_cont ?_
  | with_reducible refine thn_ret ?_
  | ((with_reducible show ∃ t, PV.bool _ = PV.bool t ∧ _); refine ⟨_, rfl, ?_⟩)
  | ((with_reducible show ∃ t, PV.int _ = PV.int t ∧ _); refine ⟨_, rfl, ?_⟩)
  | ((with_reducible show ∃ t, PV.str (S _) = PV.str (S t) ∧ _); refine ⟨_, rfl, ?_⟩)
  | ((with_reducible show ∃ t, PV.str _ = PV.str t ∧ _); refine ⟨_, rfl, ?_⟩))

theorem runs_escape {g : Gl} {n : Nat} (G : GF g) (k : Nat) (hk : k < 256) : Runs g "_law_escape" fd_escape ["sign"] n [.str (S [k])] (fun pv => pv = .str (S (esc k))) := by
  intro A h₀ L f cdv s₀ ok
  refine WS.seq ?_
  repeat (walk_at "m")
  refine WO2.divI (by decide) (PyProof.noPylong_small (by decide)) ?_
  refine WO2.itemN (l := hexs) (fdivN k 16) (hexs_get (by omega)) (by decide) ?_
  refine WO2.addN (a := [61]) (b := [_]) (Nat.le_of_ble_eq_true rfl) ?_
  repeat (walk_at "m")
  · refine WO2.itemN (l := hexs) (fmodN k 16) (hexs_get (by omega)) (by decide) ?_
    refine WO2.addN (a := [61, _]) (b := [_]) (Nat.le_of_ble_eq_true rfl) ?_
    repeat (walk_at "m")
    exact ⟨_, rfl, trivial, rfl⟩

set_option maxRecDepth 20000 in
theorem runs_operators {g : Gl} {n : Nat} : Runs g "_law_operators" fd_operators [] n [] (fun pv => pv = .lst ((OPS.map S).map .str)) := by
  intro A h₀ L f cdv s₀ ok
  refine WS.seq ?_
  repeat (walk_at "m")
  refine WO.split sp_len ops_len ?_
  rw [ops_split]
  repeat (walk_at "m")
  exact ⟨_, rfl, cleansS' _, rfl⟩

theorem runs_behind {g : Gl} {n : Nat} (G : GF g) (x : Int) : Runs g "_law_behind" fd_behind ["x"] n [.int x] (fun pv => pv = .str (S (behind x))) := by
  intro A h₀ L f cdv s₀ ok
  refine WS.seq ?_
  repeat (walk_at "m")
  refine WO2.divI (by decide) (PyProof.noPylong_small (by decide)) ?_
  repeat (walk_at "m")
  refine WS.ite ?_
  repeat (walk_at "m")
  obtain ⟨kk, hk⟩ : ∃ k : Nat, (x.fdiv 48).fmod 8 = (k : Int) := ⟨((x.fdiv 48).fmod 8).toNat, (Int.toNat_of_nonneg (Int.fmod_nonneg_of_pos _ (by decide))).symm⟩
  have hk8 : kk < 8 := by have := Int.fmod_lt_of_pos (x.fdiv 48) (b := 8) (by decide); omega
  obtain ⟨k2, hk2⟩ : ∃ k : Nat, (x.fdiv 384).fmod 256 = (k : Int) := ⟨((x.fdiv 384).fmod 256).toNat, (Int.toNat_of_nonneg (Int.fmod_nonneg_of_pos _ (by decide))).symm⟩
  have hk3 : k2 < 256 := by have := Int.fmod_lt_of_pos (x.fdiv 384) (b := 256) (by decide); omega
  have hb : behind x = behindOf kk k2 := by unfold behind; rw [hk, hk2]; rfl
  rw [hk]
  split
  · rename_i h7
    simp only [decide_eq_true_eq] at h7
    have h7' : kk < 7 := by omega
    refine WS.seq ?_
    repeat (walk_at "m")
    refine ⟨Nat.le_of_ble_eq_true rfl, ?_⟩
    repeat (walk_at "m")
    have hxs : [PV.str "a", .str " ", .str "\t", .str "é", .str "\n\n\t\n", .str " \n", .str "\t \n"][kk]? = some (.str (S (behindOf kk k2))) := by
      have hh : ∀ j : Fin 7, [S [97], S [32], S [9], S [233], S [10,10,9,10], S [32,10], S [9,32,10]][j.val]? = some (S (behindOf j.val k2)) := by
        intro j
        match j with
        | 0 => rfl
        | 1 => rfl
        | 2 => rfl
        | 3 => rfl
        | 4 => rfl
        | 5 => rfl
        | 6 => rfl
      have h2 := congrArg (Option.map PV.str) (hh ⟨kk, h7'⟩)
      rw [← List.getElem?_map] at h2
      exact h2
    refine WO2.itemL' rfl (by omega) (by omega) hxs ?_
    repeat (walk_at "m")
    exact ⟨_, rfl, trivial, by rw [hb]⟩
  · rename_i h7
    simp only [decide_eq_true_eq] at h7
    have h7' : kk = 7 := by omega
    subst h7'
    repeat (walk_at "m")
    refine WO2.divI (by decide) (PyProof.noPylong_small (by decide)) ?_
    repeat (walk_at "m")
    rw [hk2]
    refine WO.chr (by simp; omega) ?_
    repeat (walk_at "m")
    refine WS.ite ?_
    repeat (walk_at "m")
    refine WO2.inC (l := signs) (k := k2) ?_
    repeat (walk_at "m")
    have hb2 : behind x = if signs.contains k2 then [107] else [k2] := hb
    split
    · rename_i h; rw [if_pos h] at hb2
      repeat (walk_at "m")
      exact ⟨_, rfl, trivial, by rw [hb2]; rfl⟩
    · rename_i h; rw [if_neg h] at hb2
      repeat (walk_at "m")
      exact ⟨_, rfl, trivial, by rw [hb2]; rfl⟩

theorem slice_add (l : List Nat) (i k : Nat) : Txt.slice (S l) (some (i : Int)) (some ((i : Int) + (k : Int))) = S ((l.drop i).take k) := by
  have : (i : Int) + (k : Int) = ((i + k : Nat) : Int) := by omega
  rw [this, slice_nat l (by omega)]
  congr 2
  omega
theorem runs_read {g : Gl} {n : Nat} (G : GF g) (t : List Nat) (ht : t.length < 16777000) : Runs g "_law_read" fd_read ["text"] n [.str (S t)] (fun pv => pv = .lst (nms (readL t))) := by
  have hsl : sizeLine = 16777216 := rfl
  intro A h₀ L f cdv s₀ ok
  refine WS.seq ?_
  repeat (walk_at "m")
  refine ⟨Nat.zero_le _, ?_⟩
  repeat (walk_at "m")
  refine WS.whileD (fun k σ => ∃ (i : Nat) (ns : List Nat), k = t.length - i ∧ σ.loc "text" = some (.str (S t)) ∧ σ.loc "at" = some (.int i) ∧ σ.loc "numbers" = some (.ref 0) ∧ σ.H = [.lst (nms ns)] ∧ ns.length ≤ i ∧ i ≤ t.length + 3 ∧ ns ++ readL (t.drop i) = readL t)
    (fun σ => σ.loc "numbers" = some (.ref 0) ∧ σ.H = [.lst (nms (readL t))]) (t.length - 0) ⟨0, [], rfl, rfl, rfl, rfl, rfl, Nat.le_refl _, Nat.zero_le _, rfl⟩ ?_ ?_
  · rintro k σ ⟨i, ns, rfl, e1, e2, e3, e4, e5, e6, e7⟩
    repeat (walk_at "m")
    refine ite_dec (fun h => ?_) (fun h => ?_)
    · have hi : i < t.length := by omega
      obtain ⟨c0, r0, hc⟩ : ∃ c r, t.drop i = c :: r := by
        cases hd : t.drop i with
        | nil => rw [List.drop_eq_nil_iff] at hd; omega
        | cons c r => exact ⟨c, r, rfl⟩
      have hget : t[i]? = some c0 := by rw [← List.head?_drop, hc]; rfl
      refine WS.seq ?_
      repeat (walk_at "m")
      refine WS.whileD (fun k σ' => ∃ z : Nat, k = z ∧ 1 ≤ z ∧ z ≤ 3 ∧ (z < 3 → OPS.contains ((t.drop i).take 3) = false) ∧ (z < 2 → OPS.contains ((t.drop i).take 2) = false) ∧ σ'.loc "text" = some (.str (S t)) ∧ σ'.loc "at" = some (.int i) ∧ σ'.loc "size" = some (.int z) ∧ σ'.loc "numbers" = some (.ref 0) ∧ σ'.H = [.lst (nms ns)])
        (fun σ' => σ'.loc "text" = some (.str (S t)) ∧ σ'.loc "at" = some (.int i) ∧ σ'.loc "size" = some (.int (szL (t.drop i))) ∧ σ'.loc "numbers" = some (.ref 0) ∧ σ'.H = [.lst (nms ns)]) 3 ⟨3, rfl, by omega, by omega, by omega, by omega, e1, e2, rfl, e3, e4⟩ ?_ ?_
      · rintro k σ' ⟨z, rfl, z1, z3, z4, z5, d1, d2, d3, d4, d5⟩
        repeat (walk_at "m")
        refine ite_dec (fun h => ?_) (fun h => ?_)
        · repeat (walk_at "m")
          refine ⟨by omega, ?_⟩
          repeat (walk_at "m")
          refine ⟨(t.drop i).take k, ?_, ?_⟩
          · rw [← slice_add]
          refine ite_nb (fun hb => ?_) (fun hb => ?_)
          · repeat (walk_at "m")
            refine ⟨k - 1, by omega, k - 1, rfl, by omega, by omega, fun h3 => ?_, fun h2 => ?_, d1, d2, some_int (by omega), d4, d5⟩
            · by_cases h4 : k < 3
              · exact z4 h4
              · have : k = 3 := by omega
                subst this; exact hb
            · have : k = 2 := by omega
              subst this; exact hb
          · repeat (walk_at "m")
            refine ⟨d1, d2, ?_, d4, d5⟩
            rw [d3]
            refine some_int ?_
            unfold szL
            rcases (by omega : k = 2 ∨ k = 3) with rfl | rfl
            · rw [z4 (by omega), hb]; rfl
            · rw [hb]; rfl
        · repeat (walk_at "m")
          refine ⟨d1, d2, ?_, d4, d5⟩
          rw [d3]
          refine some_int ?_
          have : k = 1 := by omega
          subst this
          unfold szL
          rw [z4 (by omega), z5 (by omega)]; rfl
      · rintro σ' ⟨d1, d2, d3, d4, d5⟩
        have hz := szL_pos (t.drop i)
        have hz3 : szL (t.drop i) ≤ 3 := by
          unfold szL
          split
          · omega
          · split <;> omega
        have hle : ns.length + 1 ≤ i + szL (t.drop i) := by omega
        have hz4 : i + szL (t.drop i) ≤ t.length + 3 := by omega
        have hnew : (ns ++ [tok ((t.drop i).take (szL (t.drop i))) c0]) ++ readL (t.drop (i + szL (t.drop i))) = readL t := by
          rw [← e7, hc, readL_cons, ← hc, List.drop_drop, List.append_assoc]; rfl
        generalize hzz : szL (t.drop i) = z at *
        repeat (walk_at "m")
        refine ⟨lstq_isSome (lstq_ref (xs := nms ns) (by rw [d5]; rfl)), ?_⟩
        repeat (walk_at "m")
        refine ⟨by omega, ?_⟩
        repeat (walk_at "m")
        refine ⟨(t.drop i).take z, ?_, ?_⟩
        · rw [← slice_add]
        repeat (walk_at "m")
        refine WO2.itemN (l := t) rfl hget (by omega) ?_
        repeat (walk_at "m")
        refine WO.append (xs := nms ns) (by rw [d5]; rfl) (by rw [nms_len]; omega) ?_
        repeat (walk_at "m")
        refine ⟨t.length - (i + z), by omega, i + z, ns ++ [tok ((t.drop i).take z) c0], rfl, d1, some_int (by omega), d4, ?_, by simp; omega, hz4, hnew⟩
        show σ'.H.set 0 _ = _
        rw [d5, nms_app]
        simp only [List.set_cons_zero]
        congr 3
        show _ = [PV.int ((tok _ _ : Nat) : Int)]
        unfold tok
        split <;> rfl
    · repeat (walk_at "m")
      refine ⟨e3, ?_⟩
      rw [List.drop_eq_nil_of_le (by omega), readL_nil, List.append_nil] at e7
      rw [e4, e7]
  · rintro σ' ⟨d1, d2⟩
    have d3 := frz_ref (xs := nms (readL t)) d1 (by rw [d2]; rfl)
    refine thn_next (WS.frz (flat1 d2 (nms_clean _)) ?_)
    repeat (walk_at "m")
    exact ⟨_, rfl, nms_clean _, rfl⟩

set_option maxHeartbeats 4000000 in
theorem runs_rows {g : Gl} {n : Nat} (G : GF g) (line : List Nat) (w : Nat) (hl : line.length < 1000) (hc : ∀ k ∈ line, k < 256) (hw : 4 ≤ w) (hw2 : w < 1000) :
    Runs g "_law_rows" fd_rows ["line", "width"] (n + 1) [.str (S line), .int w] (fun pv => pv = .lst (rowsP (lawRows line w))) := by
  have hsl : sizeLine = 16777216 := rfl
  intro A h₀ L f cdv s₀ ok
  refine WS.seq ?_
  repeat (walk_at "m")
  refine ⟨Nat.zero_le _, ?_⟩
  repeat (walk_at "m")
  refine WS.forM (fun k => PV.str (S [k])) line (fun pre σ => σ.loc "line" = some (.str (S line)) ∧ σ.loc "width" = some (.int w) ∧ σ.loc "pieces" = some (.ref 0) ∧ σ.H = [.lst (sts (pre.map piece))])
    (fun σ => σ.loc "line" = some (.str (S line)) ∧ σ.loc "width" = some (.int w) ∧ σ.loc "pieces" = some (.ref 0) ∧ σ.H = [.lst (sts (line.map piece))]) ok rfl ?_ (chars_clean _) ?_ (fun _ h => h) ?_
  · repeat (walk_at "m")
    exact ⟨items_str _, rfl, rfl, rfl, rfl⟩
  · rintro pre k post σ he ⟨e1, e2, e3, e4⟩
    have hk : k < 256 := hc k (by rw [he]; simp)
    have hpre : pre.length < line.length := by rw [he]; simp
    refine WS.seq (WS.iteB (plainC k) ?_ (fun hp => ?_) (fun hp => ?_))
    · repeat (walk_at "m")
      refine WO2.eqC (b := 9) ?_
      repeat (walk_at "m")
      unfold plainC
      refine ite_b (fun h => ?_) (fun h => ?_)
      · rw [h]; exact ⟨rfl, rfl⟩
      rw [h]
      repeat (walk_at "m")
      refine ite_dec (fun h1 => ?_) (fun h1 => ?_)
      · repeat (walk_at "m")
        refine ite_dec (fun h2 => ?_) (fun h2 => ?_)
        · repeat (walk_at "m")
          refine WO2.neC (b := 61) ?_
          repeat (walk_at "m")
          refine ite_b (fun h3 => ?_) (fun h3 => ?_)
          · repeat (walk_at "m")
            rw [h3]; exact ⟨by simp; lia, rfl⟩
          · repeat (walk_at "m")
            rw [h3]; exact ⟨by simp, rfl⟩
        · repeat (walk_at "m")
          exact ⟨by simp; lia, rfl⟩
      · repeat (walk_at "m")
        exact ⟨by simp; lia, rfl⟩
    · repeat (walk_at "m")
      refine ⟨lstq_isSome (lstq_ref (xs := sts (pre.map piece)) (by show σ.H[0]? = _; rw [e4]; rfl)), ?_⟩
      repeat (walk_at "m")
      refine WO.append (xs := sts (pre.map piece)) (by show σ.H[0]? = _; rw [e4]; rfl) (by simp; lia) ?_
      repeat (walk_at "m")
      refine ⟨e1, e2, e3, ?_⟩
      show σ.H.set 0 _ = _
      rw [e4]
      simp [piece, hp]
    · repeat (walk_at "m")
      refine ⟨lstq_isSome (lstq_ref (xs := sts (pre.map piece)) (by show σ.H[0]? = _; rw [e4]; rfl)), ?_⟩
      repeat (walk_at "m")
      refine ⟨rfl, by exact ⟨trivial, trivial⟩, _, runs_escape G k hk, ?_⟩
      rintro pv rfl _
      repeat (walk_at "m")
      refine WO.append (xs := sts (pre.map piece)) (by show σ.H[0]? = _; rw [e4]; rfl) (by simp; lia) ?_
      repeat (walk_at "m")
      refine ⟨e1, e2, e3, ?_⟩
      show σ.H.set 0 _ = _
      rw [e4]
      simp [piece, hp]
  · rintro σ ⟨e1, e2, e3, e4⟩
    repeat (walk_at "m")
    refine ⟨Nat.zero_le _, ?_⟩
    repeat (walk_at "m")
    refine WS.whileD (fun k σ => ∃ (done : List (List (List Nat))) (ps : List (List Nat)), ps.length ≤ k ∧ k + done.length ≤ line.length ∧ (∀ p ∈ ps, 1 ≤ p.length ∧ p.length ≤ 3) ∧ done ++ (cutF w k ps).1 = (cutF w line.length (line.map piece)).1 ∧ (cutF w k ps).2 = (cutF w line.length (line.map piece)).2 ∧
        σ.loc "line" = some (.str (S line)) ∧ σ.loc "width" = some (.int w) ∧ σ.loc "pieces" = some (.ref 0) ∧ σ.loc "rows" = some (.ref 1) ∧ σ.H = [.lst (sts ps), .lst (rowsP done)])
      (fun σ => let C := cutF w line.length (line.map piece); C.2.flatten.length ≤ w ∧ C.2.length ≤ line.length ∧ C.1.length ≤ line.length ∧ (∀ p ∈ C.2, 1 ≤ p.length ∧ p.length ≤ 3) ∧ σ.loc "line" = some (.str (S line)) ∧ σ.loc "width" = some (.int w) ∧ σ.loc "pieces" = some (.ref 0) ∧ σ.loc "rows" = some (.ref 1) ∧ σ.H = [.lst (sts C.2), .lst (rowsP C.1)])
      line.length ⟨[], line.map piece, by simp, by simp, ?_, rfl, rfl, e1, e2, e3, ?_, ?_⟩ ?_ ?_
    · intro p hp
      obtain ⟨k, _, rfl⟩ := List.mem_map.mp hp
      exact piece_len k
    · show some (PV.ref σ.H.length) = _
      rw [e4]; rfl
    · show σ.H ++ _ = _
      rw [e4]; rfl
    · rintro k σ ⟨done, ps, hk, hkd, hp, hd1, hd2, e1, e2, e3, e4, e5⟩
      have hp3 : ∀ p ∈ ps, p.length ≤ 3 := fun p h => (hp p h).2
      have hfl := flats_len hp3
      have hsum := sum3 hp3
      repeat (walk_at "m")
      refine WO.joinS (sep := []) (ys := ps) (lstq_ref (by rw [e5]; rfl)) (Nat.zero_le _) (by lia) ?_
      repeat (walk_at "m")
      refine ite_dec (fun h => ?_) (fun h => ?_)
      · repeat (walk_at "m")
        refine ⟨Nat.zero_le _, ?_⟩
        repeat (walk_at "m")
        have hps : ∃ k', k = k' + 1 := by
          cases k with
          | zero =>
            have : ps = [] := List.eq_nil_of_length_eq_zero (by lia)
            subst this
            have : joinL [] ([] : List (List Nat)) = [] := rfl
            rw [this] at h
            simp at h
            lia
          | succ k => exact ⟨k, rfl⟩
        obtain ⟨k', rfl⟩ := hps
        have hw' : w < ps.flatten.length := by rw [← joinL_nil]; lia
        rw [cutF, if_pos hw'] at hd1 hd2
        refine WS.whileD (fun j σ => ∃ (row ps' : List (List Nat)), ps'.length = j ∧ row.length + ps'.length = ps.length ∧ (∀ p ∈ row, 1 ≤ p.length ∧ p.length ≤ 3) ∧ (∀ p ∈ ps', 1 ≤ p.length ∧ p.length ≤ 3) ∧ row.flatten.length < w ∧ w < row.flatten.length + ps'.flatten.length ∧ row ++ (fill w row.flatten.length ps').1 = (fill w 0 ps).1 ∧ (fill w row.flatten.length ps').2 = (fill w 0 ps).2 ∧
            σ.loc "line" = some (.str (S line)) ∧ σ.loc "width" = some (.int w) ∧ σ.loc "pieces" = some (.ref 0) ∧ σ.loc "rows" = some (.ref 1) ∧ σ.loc "row" = some (.ref 2) ∧ σ.H = [.lst (sts ps'), .lst (rowsP done), .lst (sts row)])
          (fun σ => (fill w 0 ps).2.length < ps.length ∧ (fill w 0 ps).1.length ≤ ps.length ∧ (∀ p ∈ (fill w 0 ps).2, 1 ≤ p.length ∧ p.length ≤ 3) ∧
            σ.loc "line" = some (.str (S line)) ∧ σ.loc "width" = some (.int w) ∧ σ.loc "pieces" = some (.ref 0) ∧ σ.loc "rows" = some (.ref 1) ∧ σ.loc "row" = some (.ref 2) ∧ σ.H = [.lst (sts (fill w 0 ps).2), .lst (rowsP done), .lst (sts (fill w 0 ps).1)])
          ps.length ⟨[], ps, rfl, by simp, by simp, hp, by simp; lia, by simpa using hw', rfl, rfl, e1, e2, e3, e4, ?_, ?_⟩ ?_ ?_
        · show some (PV.ref σ.H.length) = _
          rw [e5]; rfl
        · show σ.H ++ _ = _
          rw [e5]; rfl
        · rintro j σ ⟨row, ps', rfl, hlen, hr, hp', hlt, hgt, g1, g2, e1, e2, e3, e4, e6, e5⟩
          have hr3 : ∀ p ∈ row, p.length ≤ 3 := fun p h => (hr p h).2
          have hflr := flats_len hr3
          have hsumr := sum3 hr3
          have hcat : (joinL [] row).length = row.flatten.length := by rw [joinL_nil]
          obtain ⟨p, ps'', rfl⟩ : ∃ p r, ps' = p :: r := by
            cases ps' with
            | nil => simp only [List.flatten_nil, List.length_nil] at hgt; lia
            | cons p r => exact ⟨p, r, rfl⟩
          have hp1 := hp' p (.head _)
          simp only [List.length_cons] at hlen
          repeat (walk_at "m")
          refine WO.joinS (sep := []) (ys := row) (lstq_ref (by rw [e5]; rfl)) (Nat.zero_le _) (by lia) ?_
          repeat (walk_at "m")
          refine WO2.itemL' (xs := sts (p :: ps'')) (x := .str (S p)) (lstq_ref (by rw [e5]; rfl)) (by decide) (by decide) rfl ?_
          repeat (walk_at "m")
          refine ite_dec (fun h => ?_) (fun h => ?_)
          · repeat (walk_at "m")
            refine ⟨lstq_isSome (lstq_ref (xs := sts row) (by rw [e5]; rfl)), ?_⟩
            repeat (walk_at "m")
            refine ⟨lstq_isSome (lstq_ref (xs := sts (p :: ps'')) (by rw [e5]; rfl)), ?_⟩
            repeat (walk_at "m")
            refine WO.pop0 (x := .str (S p)) (xs := sts ps'') (by rw [e5]; rfl) (by simp; lia) ?_
            repeat (walk_at "m")
            refine WO.append (xs := sts row) (by show (σ.H.set 0 _)[2]? = _; rw [e5]; rfl) (by simp; lia) ?_
            repeat (walk_at "m")
            have hpl : p.length ≤ 3 := hp1.2
            have hfl1 : (row ++ [p]).flatten.length = row.flatten.length + p.length := by simp
            have hfill : fill w row.flatten.length (p :: ps'') = (p :: (fill w (row.flatten.length + p.length) ps'').1, (fill w (row.flatten.length + p.length) ps'').2) := by
              rw [fill, if_pos (by lia)]
            rw [hfill] at g1 g2
            refine ⟨ps''.length, by simp, row ++ [p], ps'', rfl, by simp; lia, ?_, fun q hq => hp' q (.tail _ hq), by lia, ?_, ?_, ?_, e1, e2, e3, e4, e6, ?_⟩
            · intro q hq
              rcases List.mem_append.mp hq with h | h
              · exact hr q h
              · rw [List.mem_singleton.mp h]; exact hp1
            · rw [hfl1]
              simp only [List.flatten_cons, List.length_append] at hgt
              lia
            · rw [hfl1, ← g1]; simp
            · rw [hfl1]; exact g2
            · show (σ.H.set 0 _).set 2 _ = _
              rw [e5]; simp
          · repeat (walk_at "m")
            have hfill : fill w row.flatten.length (p :: ps'') = ([], p :: ps'') := by
              rw [fill, if_neg (by lia)]
            rw [hfill] at g1 g2
            rw [List.append_nil] at g1
            have g2' : p :: ps'' = (fill w 0 ps).2 := g2
            have hne : row ≠ [] := by
              intro h0
              subst h0
              simp at hcat
              have : joinL [] ([] : List (List Nat)) = [] := rfl
              rw [this] at h
              simp at h
              lia
            have hrl : 1 ≤ row.length := by
              cases row with
              | nil => exact absurd rfl hne
              | cons a b => simp
            rw [← g1, ← g2']
            exact ⟨by simp; lia, by lia, hp', e1, e2, e3, e4, e6, e5⟩
        · rintro σ ⟨q1, q2, q3, e1, e2, e3, e4, e6, e5⟩
          repeat (walk_at "m")
          refine ⟨lstq_isSome (lstq_ref (xs := rowsP done) (by rw [e5]; rfl)), ?_⟩
          repeat (walk_at "m")
          refine ⟨Nat.le_of_ble_eq_true rfl, ?_⟩
          refine WO2.addL (xs := sts (fill w 0 ps).1) (ys := sts [[61]]) (lstq_ref (by rw [e5]; rfl)) rfl (by simp; lia) ?_
          repeat (walk_at "m")
          refine WO.append (xs := rowsP done) (by rw [e5]; rfl) (by simp; lia) ?_
          refine thn_next ?_
          refine WS.drop (H := [.lst (sts (fill w 0 ps).2), .lst (rowsP (done ++ [(fill w 0 ps).1 ++ [[61]]]))]) (po := .lst (sts (fill w 0 ps).1)) [("line", .str (S line)), ("width", .int w), ("pieces", .ref 0), ("rows", .ref 1)] ?_ ?_ ?_ ?_
          · show σ.H.set 1 _ = _
            rw [e5]; simp [sts]
          · intro p hp
            simp only [List.mem_cons, List.not_mem_nil, or_false] at hp
            rcases hp with rfl | rfl | rfl | rfl
            · exact ⟨e1, trivial⟩
            · exact ⟨e2, trivial⟩
            · exact ⟨e3, show 0 < 2 by decide⟩
            · exact ⟨e4, show 1 < 2 by decide⟩
          · intro po hp
            simp only [List.mem_cons, List.not_mem_nil, or_false] at hp
            rcases hp with rfl | rfl
            · exact ⟨_, rfl, cleans_lt (sts_clean _)⟩
            · exact ⟨_, rfl, cleans_lt (rowsP_clean _)⟩
          · repeat (walk_at "m")
            refine ⟨k', by lia, done ++ [(fill w 0 ps).1 ++ [[61]]], (fill w 0 ps).2, by lia, by simp; lia, q3, ?_, hd2, rfl, rfl, rfl, rfl, rfl⟩
            rw [← hd1]; simp
      · repeat (walk_at "m")
        have hw' : ¬ w < ps.flatten.length := by rw [← joinL_nil]; lia
        have hcut : cutF w k ps = ([], ps) := by
          cases k with
          | zero => rfl
          | succ k => rw [cutF, if_neg hw']
        rw [hcut] at hd1 hd2
        rw [List.append_nil] at hd1
        have hd2' : ps = _ := hd2
        show _ ∧ _
        rw [← hd1, ← hd2']
        exact ⟨by lia, by lia, by lia, hp, e1, e2, e3, e4, e5⟩
    · rintro σ ⟨f1, f2, f3, f4, e1, e2, e3, e4, e5⟩
      generalize hC1 : (cutF w line.length (line.map piece)).1 = rows at *
      generalize hC2 : (cutF w line.length (line.map piece)).2 = ps at *
      have hp3 : ∀ p ∈ ps, p.length ≤ 3 := fun p h => (f4 p h).2
      have hfl := flats_len hp3
      have hsum := sum3 hp3
      have hcat : (joinL [] ps).length = ps.flatten.length := by rw [joinL_nil]
      repeat (walk_at "m")
      refine WO.joinS (sep := []) (ys := ps) (lstq_ref (by rw [e5]; rfl)) (Nat.zero_le _) (by lia) ?_
      repeat (walk_at "m")
      have hrows : lawRows line w = lawTail rows ps (w - ps.flatten.length) line.getLast? := by
        unfold lawRows; rw [hC1, hC2]
      generalize hfree : ((w : Int) - ((joinL [] ps).length : Int)) = free at *
      have fr1 := frz_ref (σ := σ.set "free" (.int free)) (x := "pieces") (i := 0) (xs := sts ps) e3 (by show σ.H[0]? = _; rw [e5]; rfl)
      have fr2 := frz_ref (σ := σ.set "free" (.int free)) (x := "rows") (i := 1) (xs := rowsP rows) e4 (by show σ.H[1]? = _; rw [e5]; rfl)
      have fr3 := frz_str (σ := σ.set "free" (.int free)) (x := "line") (l := S line) e1
      have fr4 := frz_int (σ := σ.set "free" (.int free)) (x := "free") (l := free) rfl
      have hflat := flat2 (σ := σ.set "free" (.int free)) e5 (sts_clean _) (rowsP_clean _)
      have retA : ∀ (tail : List (List (List Nat))), PV.cleans (rowsP rows ++ rowsP tail) := by
        intro tail
        have := rowsP_clean (rows ++ tail)
        rwa [rowsP, List.map_append] at this
      cases hlast : line.getLast? with
      | none =>
        rw [hlast] at hrows
        have hl0 : line = [] := List.getLast?_eq_none_iff.mp hlast
        refine WS.iteB true ?_ (fun _ => ?_) (fun h => nomatch h)
        · repeat (walk_at "m")
          refine WO2.eqL (b := []) ?_
          rw [hl0]
          repeat (walk_at "m")
          exact ⟨rfl, rfl⟩
        · refine WS.frz hflat ?_
          repeat (walk_at "m")
          refine ⟨Nat.le_of_ble_eq_true rfl, ?_⟩
          refine WO2.addL (xs := rowsP rows) (ys := rowsP [ps]) rfl rfl (by simp; lia) ?_
          repeat (walk_at "m")
          refine ⟨_, rfl, retA _, ?_⟩
          rw [hrows]; simp [lawTail, rowsP]
      | some k =>
        rw [hlast] at hrows
        have hl1 : line ≠ [] := by intro h; rw [h] at hlast; cases hlast
        have hk : k < 256 := hc k (List.mem_of_getLast? hlast)
        have hemp : (line == []) = false := by simpa using hl1
        refine WS.iteB (!isWs k) ?_ (fun hb => ?_) (fun hb => ?_)
        · repeat (walk_at "m")
          refine WO2.eqL (b := []) ?_
          rw [hemp]
          repeat (walk_at "m")
          refine WO2.itemLast hlast ?_
          repeat (walk_at "m")
          refine WO2.notInC (l := [32, 9]) ?_
          repeat (walk_at "m")
          have hws : [32, 9].contains k = isWs k := by unfold isWs; simp only [List.contains_cons, List.contains_nil, Bool.or_false]
          rw [hws]
          refine ite_nb (fun h => ?_) (fun h => ?_)
          · rw [h]; exact ⟨rfl, rfl⟩
          · repeat (walk_at "m")
            rw [h]; exact ⟨rfl, rfl⟩
        · refine WS.frz hflat ?_
          have hb' : isWs k = false := by simpa using hb
          repeat (walk_at "m")
          refine ⟨Nat.le_of_ble_eq_true rfl, ?_⟩
          refine WO2.addL (xs := rowsP rows) (ys := rowsP [ps]) rfl rfl (by simp; lia) ?_
          repeat (walk_at "m")
          refine ⟨_, rfl, retA _, ?_⟩
          rw [hrows]; simp [lawTail, rowsP, hb']
        · have hb' : isWs k = true := by simpa using hb
          refine WS.frz hflat (WS.nil (thn_next ?_))
          have hfr : free = ((w - ps.flatten.length : Nat) : Int) := by lia
          have hesc := runs_escape (n := n) G k hk
          repeat (walk_at "m")
          refine WS.iteB (decide (1 < w - ps.flatten.length)) ?_ (fun h1 => ?_) (fun h1 => ?_)
          · repeat (walk_at "m")
            exact ⟨by rw [hfr]; exact decide_eq_decide.mpr (by lia), rfl⟩
          · have h1' : 1 < w - ps.flatten.length := of_decide_eq_true h1
            repeat (walk_at "m")
            refine ⟨sts ps, rfl, by simp; lia, ?_⟩
            rw [pick_init, sts_dropLast]
            repeat (walk_at "m")
            refine WO2.itemLast hlast ?_
            repeat (walk_at "m")
            refine ⟨rfl, by exact ⟨trivial, trivial⟩, _, hesc, ?_⟩
            rintro pv rfl _
            repeat (walk_at "m")
            refine ⟨Nat.le_of_ble_eq_true rfl, ?_⟩
            refine WO2.addL (xs := sts ps.dropLast) (ys := sts [esc k]) rfl rfl (by simp; lia) ?_
            repeat (walk_at "m")
            refine ⟨Nat.le_of_ble_eq_true rfl, ?_⟩
            have e1 : sts ps.dropLast ++ sts [esc k] = sts (ps.dropLast ++ [esc k]) := by simp [sts]
            rw [e1]
            refine WO2.addL (xs := rowsP rows) (ys := rowsP [ps.dropLast ++ [esc k]]) rfl rfl (by simp; lia) ?_
            repeat (walk_at "m")
            refine ⟨_, rfl, retA _, ?_⟩
            rw [hrows, lawTail, if_neg (by rw [hb']; decide), if_pos h1', rowsP, List.map_append]
          · have h1' : ¬ 1 < w - ps.flatten.length := of_decide_eq_false h1
            refine WS.nil (thn_next ?_)
            repeat (walk_at "m")
            refine WS.iteB (decide (w - ps.flatten.length = 1)) ?_ (fun h2 => ?_) (fun h2 => ?_)
            · repeat (walk_at "m")
              exact ⟨by rw [hfr, Bool.eq_iff_iff]; simp; lia, rfl⟩
            · have h2' : w - ps.flatten.length = 1 := of_decide_eq_true h2
              repeat (walk_at "m")
              refine ⟨Nat.le_of_ble_eq_true rfl, ?_⟩
              refine WO2.addL (xs := sts ps) (ys := sts [[61]]) rfl rfl (by simp; lia) ?_
              repeat (walk_at "m")
              refine ⟨Nat.le_of_ble_eq_true rfl, ?_⟩
              repeat (walk_at "m")
              refine ⟨Nat.le_of_ble_eq_true rfl, ?_⟩
              have e1 : sts ps ++ sts [[61]] = sts (ps ++ [[61]]) := by simp [sts]
              rw [e1]
              refine WO2.addL (xs := rowsP rows) (ys := rowsP [ps ++ [[61]], []]) rfl rfl (by simp; lia) ?_
              repeat (walk_at "m")
              refine ⟨_, rfl, retA _, ?_⟩
              rw [hrows, lawTail, if_neg (by rw [hb']; decide), if_neg h1', if_pos h2', rowsP, List.map_append]
            · have h2' : ¬ w - ps.flatten.length = 1 := of_decide_eq_false h2
              refine WS.nil (thn_next ?_)
              repeat (walk_at "m")
              refine ⟨sts ps, rfl, by simp; lia, ?_⟩
              rw [pick_init, sts_dropLast]
              repeat (walk_at "m")
              refine ⟨Nat.le_of_ble_eq_true rfl, ?_⟩
              refine WO2.addL (xs := sts ps.dropLast) (ys := sts [[61]]) rfl rfl (by simp; lia) ?_
              repeat (walk_at "m")
              refine WO2.itemLast hlast ?_
              repeat (walk_at "m")
              refine ⟨rfl, by exact ⟨trivial, trivial⟩, _, hesc, ?_⟩
              rintro pv rfl _
              repeat (walk_at "m")
              refine ⟨Nat.le_of_ble_eq_true rfl, ?_⟩
              repeat (walk_at "m")
              refine ⟨Nat.le_of_ble_eq_true rfl, ?_⟩
              have e1 : sts ps.dropLast ++ sts [[61]] = sts (ps.dropLast ++ [[61]]) := by simp [sts]
              rw [e1]
              refine WO2.addL (xs := rowsP rows) (ys := rowsP [ps.dropLast ++ [[61]], [esc k]]) rfl rfl (by simp; lia) ?_
              repeat (walk_at "m")
              refine ⟨_, rfl, retA _, ?_⟩
              rw [hrows, lawTail, if_neg (by rw [hb']; decide), if_neg h1', if_neg h2', rowsP, List.map_append]

set_option maxHeartbeats 4000000 in
theorem runs_part {g : Gl} (G : GF g) : ∀ (m n : Nat) (p : List Nat), p.length ≤ m → p.length < 20 → opSigns p → Runs g "_law_part" fd_part ["part", "operators"] (n + m + 1) [.str (S p), .lst (sts OPS)] (fun pv => pv = .lst (nms (partL p))) := by
  have hsl : sizeLine = 16777216 := rfl
  intro m
  induction m with
  | zero =>
    intro n p hm h20 hs A h₀ L f cdv s₀ ok
    have : p = [] := List.eq_nil_of_length_eq_zero (by omega)
    subst this
    refine WS.seq (WS.iteB true ?_ (fun _ => ?_) (fun h => nomatch h))
    · repeat (walk_at "m")
      refine WO2.eqL (b := []) ?_
      repeat (walk_at "m")
      exact ⟨rfl, rfl⟩
    · repeat (walk_at "m")
      refine ⟨Nat.zero_le _, ?_⟩
      repeat (walk_at "m")
      exact ⟨_, rfl, trivial, rfl⟩
  | succ m ih =>
    intro n p hm h20 hs A h₀ L f cdv s₀ ok
    have hP : partL p = if p = [] then [] else if OPS.contains p then [7 + OPS.idxOf p] else partF p.length p.dropLast ++ partF p.length (p.drop (p.length - 1)) := by
      unfold partL; rw [partF]
    refine WS.seq (WS.iteB (p == []) ?_ (fun h => ?_) (fun h => ?_))
    · repeat (walk_at "m")
      refine WO2.eqL (b := []) ?_
      repeat (walk_at "m")
      exact ⟨rfl, rfl⟩
    · rw [if_pos (eq_of_beq h)] at hP
      repeat (walk_at "m")
      refine ⟨Nat.zero_le _, ?_⟩
      repeat (walk_at "m")
      exact ⟨_, rfl, trivial, by rw [hP]; rfl⟩
    · have h' : p ≠ [] := by intro e; rw [e] at h; cases h
      rw [if_neg h'] at hP
      refine WS.nil (thn_next ?_)
      refine WS.seq (WS.iteB (OPS.contains p) ?_ (fun h => ?_) (fun h => ?_))
      · repeat (walk_at "m")
        refine WO2.inLN (ys := OPS) rfl ?_
        repeat (walk_at "m")
        exact ⟨rfl, rfl⟩
      · rw [if_pos h] at hP
        repeat (walk_at "m")
        refine ⟨rfl, ?_⟩
        repeat (walk_at "m")
        refine WO.indexN (ys := OPS) rfl h (by decide) ?_
        repeat (walk_at "m")
        refine ⟨Nat.le_of_ble_eq_true rfl, ?_⟩
        repeat (walk_at "m")
        exact ⟨_, rfl, ⟨trivial, trivial⟩, by rw [hP]; simp [nms]⟩
      · rw [if_neg (by rw [h]; decide)] at hP
        have hlen : 2 ≤ p.length := by
          match p, h', h, hs with
          | [], hp, _, _ => exact absurd rfl hp
          | [k], _, ho, hs => rw [hs k (.head _)] at ho; cases ho
          | _ :: _ :: _, _, _, _ => simp
        have hs1 : opSigns p.dropLast := fun k hk => hs k (List.dropLast_subset p hk)
        have hs2 : opSigns (p.drop (p.length - 1)) := fun k hk => hs k (List.mem_of_mem_drop hk)
        rw [partF_eq p.length _ (by simp; omega) hs1, partF_eq p.length _ (by simp; omega) hs2] at hP
        have r1 := ih n p.dropLast (by simp; omega) (by simp; omega) hs1
        have r2 := ih n (p.drop (p.length - 1)) (by simp; omega) (by simp; omega) hs2
        have l1 : (partL p.dropLast).length ≤ 2 ^ 20 := Nat.le_trans (partF_len _ _) (Nat.pow_le_pow_right (by decide) (by simp; omega))
        have l2 : (partL (p.drop (p.length - 1))).length ≤ 2 ^ 20 := Nat.le_trans (partF_len _ _) (Nat.pow_le_pow_right (by decide) (by simp; omega))
        refine WS.nil (thn_next ?_)
        repeat (walk_at "m")
        refine WE.callFn ok G.part ?_
        repeat (walk_at "m")
        refine ⟨by omega, ?_⟩
        repeat (walk_at "m")
        refine ⟨rfl, by exact ⟨trivial, sts_clean _, trivial⟩, _, by rw [slice_init _ (by omega)]; exact r1, ?_⟩
        rintro pv rfl _
        refine WE.callFn ok G.part ?_
        repeat (walk_at "m")
        refine ⟨by omega, ?_⟩
        repeat (walk_at "m")
        refine ⟨rfl, by exact ⟨trivial, sts_clean _, trivial⟩, _, by rw [show (-(1:Int)) = -1 from rfl, slice_neg_lo _ (by omega)]; exact r2, ?_⟩
        rintro pv rfl _
        refine WO2.addL rfl rfl (by rw [nms_len, nms_len]; omega) ?_
        repeat (walk_at "m")
        rw [← nms_app]
        exact ⟨_, rfl, nms_clean _, by rw [hP]⟩

set_option maxHeartbeats 4000000 in
theorem runs_once {g : Gl} {n : Nat} (G : GF g) (row : List Nat) (hl : row.length < 1000000) (hr : ∀ k ∈ row, 7 ≤ k ∧ (k < 256 → k < 55)) : Runs g "_law_once_more" fd_once ["row", "operators"] n [.lst (nms row), .lst (sts OPS)] (fun pv => pv = .lst (nms (onceMore row))) := by
  have hsl : sizeLine = 16777216 := rfl
  intro A h₀ L f cdv s₀ ok
  refine WS.seq ?_
  repeat (walk_at "m")
  refine ⟨Nat.zero_le _, ?_⟩
  repeat (walk_at "m")
  refine WS.forM (fun k : Nat => PV.int (k : Int)) row (fun pre σ => σ.loc "operators" = some (.lst (sts OPS)) ∧ σ.loc "numbers" = some (.ref 0) ∧ (onceMore pre).length ≤ 3 * pre.length ∧ σ.H = [.lst (nms (onceMore pre))])
    (fun σ => σ.loc "numbers" = some (.ref 0) ∧ σ.H = [.lst (nms (onceMore row))]) ok rfl ?_ (nms_clean _) ?_ (fun _ h => ⟨h.2.1, h.2.2.2⟩) ?_
  · repeat (walk_at "m")
    exact ⟨rfl, rfl, rfl, Nat.zero_le _, rfl⟩
  · rintro pre k post σ he ⟨e1, e2, e3, e4⟩
    have hk := hr k (by rw [he]; simp)
    have hpre : pre.length < row.length := by rw [he]; simp
    have hsnoc : onceMore (pre ++ [k]) = onceMore pre ++ (if k < 256 ∧ ((OPS[k - 7]?).bind List.getLast?) = some 61 then [k, 307, 324] else [k]) := by simp [onceMore]
    repeat (walk_at "m")
    refine ⟨lstq_isSome (lstq_ref (xs := nms (onceMore pre)) (by show σ.H[0]? = _; rw [e4]; rfl)), ?_⟩
    repeat (walk_at "m")
    refine WO.append (xs := nms (onceMore pre)) (by show σ.H[0]? = _; rw [e4]; rfl) (by rw [nms_len]; omega) ?_
    repeat (walk_at "m")
    have hsome : k < 256 → ∃ o lc, OPS[k - 7]? = some o ∧ o.getLast? = some lc := by
      intro h
      have hall : ∀ j : Fin 48, ((OPS[j.val]?).bind List.getLast?).isSome = true := by decide
      have h2 := hall ⟨k - 7, by have := hk.2 h; omega⟩
      obtain ⟨lc, h3⟩ := Option.isSome_iff_exists.mp h2
      obtain ⟨o, h4, h5⟩ := Option.bind_eq_some_iff.mp h3
      exact ⟨o, lc, h4, h5⟩
    have hnat : ((k : Int) - 7).toNat = k - 7 := by omega
    refine WS.iteB (decide (k < 256 ∧ ((OPS[k - 7]?).bind List.getLast?) = some 61)) ?_ (fun hb => ?_) (fun hb => ?_)
    · repeat (walk_at "m")
      refine ite_dec (fun h => ?_) (fun h => ?_)
      · have h' : k < 256 := by omega
        obtain ⟨o, lc, ho, hlc⟩ := hsome h'
        repeat (walk_at "m")
        refine WO2.itemL' (xs := sts OPS) (x := .str (S o)) rfl (by omega) (by omega) (by rw [hnat, List.getElem?_map, ho]; rfl) ?_
        repeat (walk_at "m")
        refine WO2.itemLast hlc ?_
        repeat (walk_at "m")
        refine WO2.eqC (b := 61) ?_
        repeat (walk_at "m")
        have hval : decide (k < 256 ∧ ((OPS[k - 7]?).bind List.getLast?) = some 61) = (lc == 61) := by
          rw [ho, Option.bind_some, hlc, Bool.eq_iff_iff]; simp [h']
        refine ite_b (fun h => ?_) (fun h => ?_)
        · repeat (walk_at "m")
          exact ⟨by rw [hval, h], rfl⟩
        · exact ⟨by rw [hval, h], rfl⟩
      · repeat (walk_at "m")
        exact ⟨by symm; rw [decide_eq_false_iff_not]; omega, rfl⟩
    · have hb' := of_decide_eq_true hb
      rw [if_pos hb'] at hsnoc
      repeat (walk_at "m")
      refine ⟨lstq_isSome (lstq_ref (xs := nms (onceMore pre ++ [k])) (by show (σ.H.set 0 _)[0]? = _; rw [e4]; simp [nms])), ?_⟩
      repeat (walk_at "m")
      refine WO.ord (k := 51) ?_
      repeat (walk_at "m")
      refine WO.ord (k := 68) ?_
      repeat (walk_at "m")
      refine ⟨Nat.le_of_ble_eq_true rfl, ?_⟩
      repeat (walk_at "m")
      refine WO.extend (xs := nms (onceMore pre ++ [k])) (ys := nms [307, 324]) (by show (σ.H.set 0 _)[0]? = _; rw [e4]; simp [nms]) rfl (by rw [nms_len, nms_len]; simp; omega) ?_
      repeat (walk_at "m")
      refine ⟨e1, e2, by rw [hsnoc]; simp; omega, ?_⟩
      show (σ.H.set 0 _).set 0 _ = _
      rw [e4, hsnoc]
      simp [nms]
    · have hb' := of_decide_eq_false hb
      rw [if_neg hb'] at hsnoc
      refine WS.nil (thn_next ?_)
      repeat (walk_at "m")
      refine ⟨e1, e2, by rw [hsnoc]; simp; omega, ?_⟩
      show σ.H.set 0 _ = _
      rw [e4, hsnoc]
      simp [nms]
  · rintro σ ⟨e1, e2⟩
    have d3 := frz_ref (xs := nms (onceMore row)) e1 (by rw [e2]; rfl)
    refine thn_next (WS.frz (flat1 e2 (nms_clean _)) ?_)
    repeat (walk_at "m")
    exact ⟨_, rfl, nms_clean _, rfl⟩

theorem runs_unquote {g : Gl} {n : Nat} (G : GF g) {a b : Nat} (ha : a < 16) (hb : b < 16) : Runs g "unquote" fd_unquote ["s"] n [.str (S [61, hexd a, hexd b])] (fun pv => pv = .str (S [16 * a + b])) := by
  intro A h₀ L f cdv s₀ ok
  refine WS.seq ?_
  repeat (walk_at "m")
  refine WE.callT ok G.int (by rfl) (by decide) ?_
  repeat (walk_at "m")
  refine ⟨Nat.le_of_ble_eq_true rfl, ?_⟩
  repeat (walk_at "m")
  have hs : Txt.slice (S [61, hexd a, hexd b]) (some 1) (some 3) = S [hexd a, hexd b] := slice_nat [61, hexd a, hexd b] (a := 1) (b := 3) (by decide)
  rw [hs]
  refine WO.hex ha hb ?_
  repeat (walk_at "m")
  refine WO.chr (by simp; lia) ?_
  repeat (walk_at "m")
  exact ⟨_, rfl, trivial, rfl⟩
theorem runs_quote {g : Gl} {n : Nat} (G : GF g) (D : GD g) {k : Nat} (hk : k = 9 ∨ k = 32) : Runs g "quote" fd_quote ["c"] n [.str (S [k])] (fun pv => pv = .str (S (esc k))) := by
  obtain ⟨a, vs, m, h1, h2, h3⟩ := D.qmap
  obtain ⟨t, h4⟩ := h3 k hk
  intro A h₀ L f cdv s₀ ok
  refine WS.seq ?_
  refine WS.ret (WE.sub (WE.global ok h1 ?_))
  repeat (walk_at "m")
  refine WO2.itemK ok h2 (by lia) h4 ?_
  repeat (walk_at "m")
  exact ⟨_, rfl, trivial, rfl⟩
set_option maxHeartbeats 4000000 in
theorem runs_decode {g : Gl} {n : Nat} (G : GF g) (D : GD g) (e : List Nat) (ds : List DLine) (he : e ≠ []) (hel : e.length < 1000000) (hlines : Txt.lines (S e) = (ds.map DLine.raw).map S) (hg : ∀ d ∈ ds, d.Good) (hlen : (ds.flatMap DLine.out).length < 1000000) :
    Runs g "decode" fd_decode ["encoded", "eol"] (n + 1) [.str (S e), .str (S [10])] (fun pv => pv = .str (S (decTail e (ds.flatMap DLine.out)))) := by
  have hsl : sizeLine = 16777216 := rfl
  intro A h₀ L f cdv s₀ ok
  refine WS.seq (WS.iteB false ?_ (fun h => nomatch h) (fun _ => ?_))
  · repeat (walk_at "m")
    refine WT.nameS ok rfl (by lia) ?_
    cases e with
    | nil => exact absurd rfl he
    | cons a b => exact ⟨rfl, rfl⟩
  refine WS.nil (thn_next ?_)
  repeat (walk_at "m")
  refine WS.forM (fun d : DLine => PV.str (S d.raw)) ds (fun pre σ => σ.loc "encoded" = some (.str (S e)) ∧ σ.loc "eol" = some (.str (S [10])) ∧ σ.loc "decoded" = some (.str (S (pre.flatMap DLine.out))))
    (fun σ => σ.loc "encoded" = some (.str (S e)) ∧ σ.loc "eol" = some (.str (S [10])) ∧ σ.loc "decoded" = some (.str (S (ds.flatMap DLine.out)))) ok rfl ?_ (cleansS _ _) ?_ (fun _ h => h) ?_
  · repeat (walk_at "m")
    have hc := cuts_len e
    refine WO.splitlines (by rw [S_len]; lia) (by lia) ?_
    rw [hlines]
    refine ⟨?_, rfl, rfl, rfl⟩
    simp [items]
  · rintro pre d post σ hd ⟨e1, e2, e3⟩
    have hgd := hg d (by rw [hd]; simp)
    have hdl : (pre.flatMap DLine.out).length + d.out.length < 1000000 := by
      rw [hd] at hlen
      simp only [List.flatMap_append, List.flatMap_cons, List.length_append] at hlen
      lia
    have hl := hgd.len
    repeat (walk_at "m")
    refine WO.rstrip (by rw [S_len]; lia) ?_
    rw [hgd.strip]
    repeat (walk_at "m")
    refine WS.iteB d.str.isEmpty ?_ (fun hb => ?_) (fun hb => ?_)
    · repeat (walk_at "m")
      refine WT.nameS ok rfl (by lia) ?_
      exact ⟨by simp, rfl⟩
    · have hs : d.str = [] := by simpa using hb
      have ho : d.out = [10] := by
        rcases hgd.dec with h | h
        · exact h.2
        · exact absurd hs h.1
      repeat (walk_at "m")
      refine WO2.iaddN (by rw [List.length_singleton]; lia) ?_
      repeat (walk_at "m")
      refine ⟨e1, e2, ?_⟩
      show some _ = some _
      simp [ho]
    · have hs : d.str ≠ [] := by simpa using hb
      have hdec : Dec d.str d.out := by
        rcases hgd.dec with h | h
        · exact absurd h.1 hs
        · exact h.2
      refine WS.nil (thn_next ?_)
      repeat (walk_at "m")
      refine WS.whileD (fun k σ => ∃ (j : Nat) (acc : List Nat), k = d.str.length - j ∧ j ≤ d.str.length ∧ ((j = d.str.length ∧ acc = pre.flatMap DLine.out ++ d.out) ∨ (∃ o, Dec (d.str.drop j) o ∧ acc ++ o = pre.flatMap DLine.out ++ d.out)) ∧
          σ.loc "encoded" = some (.str (S e)) ∧ σ.loc "eol" = some (.str (S [10])) ∧ σ.loc "decoded" = some (.str (S acc)) ∧ σ.loc "i" = some (.int j) ∧ σ.loc "n" = some (.int d.str.length) ∧ σ.loc "line" = some (.str (S d.str)))
        (fun σ => σ.loc "encoded" = some (.str (S e)) ∧ σ.loc "eol" = some (.str (S [10])) ∧ σ.loc "decoded" = some (.str (S (pre.flatMap DLine.out ++ d.out)))) d.str.length
        ⟨0, pre.flatMap DLine.out, rfl, Nat.zero_le _, .inr ⟨d.out, hdec, rfl⟩, e1, e2, e3, rfl, rfl, rfl⟩ ?_ ?_
      · rintro k σ ⟨j, acc, rfl, hj, hst, e1, e2, e3, e4, e5, e6⟩
        repeat (walk_at "m")
        refine ite_dec (fun h => ?_) (fun h => ?_)
        · rcases hst with ⟨h1, _⟩ | ⟨o, ho, hacc⟩
          · lia
          have hal : acc.length + o.length < 1000000 := by
            have := congrArg List.length hacc
            simp only [List.length_append] at this
            lia
          obtain ⟨ch, r0, hc⟩ : ∃ c r, d.str.drop j = c :: r := by
            cases hdj : d.str.drop j with
            | nil => rw [List.drop_eq_nil_iff] at hdj; lia
            | cons c r => exact ⟨c, r, rfl⟩
          have hget : d.str[j]? = some ch := by rw [← List.head?_drop, hc]; rfl
          have hdrop : ∀ k, d.str.drop (j + k) = (d.str.drop j).drop k := fun k => by rw [List.drop_drop]
          have hat : ∀ k, d.str[j + k]? = (d.str.drop j)[k]? := fun k => by rw [List.getElem?_drop]
          have hlenr : r0.length + 1 + j = d.str.length := by
            have := congrArg List.length hc
            simp only [List.length_drop, List.length_cons] at this
            lia
          repeat (walk_at "m")
          refine WO2.itemN (l := d.str) rfl hget (by lia) ?_
          repeat (walk_at "m")
          refine WS.mid (fun σ => ∃ (j' : Nat) (acc' : List Nat), j < j' ∧ j' ≤ d.str.length ∧ ((j' = d.str.length ∧ acc' ++ [10] = pre.flatMap DLine.out ++ d.out) ∨ (j' < d.str.length ∧ ∃ o, Dec (d.str.drop j') o ∧ acc' ++ o = pre.flatMap DLine.out ++ d.out)) ∧
            σ.loc "encoded" = some (.str (S e)) ∧ σ.loc "eol" = some (.str (S [10])) ∧ σ.loc "decoded" = some (.str (S acc')) ∧ σ.loc "i" = some (.int j') ∧ σ.loc "n" = some (.int d.str.length) ∧ σ.loc "line" = some (.str (S d.str))) ?_ ?_
          · refine WS.iteB (ch != 61) ?_ (fun hb => ?_) (fun hb => ?_)
            · repeat (walk_at "m")
              refine WO2.neC (b := 61) ?_
              repeat (walk_at "m")
              exact ⟨rfl, rfl⟩
            · have hch : ch ≠ 61 := by simpa using hb
              repeat (walk_at "m")
              refine WO2.iaddN (by rw [List.length_singleton]; lia) ?_
              repeat (walk_at "m")
              refine ⟨j + 1, acc ++ [ch], by lia, by lia, ?_, e1, e2, rfl, some_int (by lia), e5, e6⟩
              rw [hc] at ho
              cases ho with
              | soft => exact absurd rfl hch
              | plain1 _ => exact .inl ⟨by simp at hlenr; lia, by rw [List.append_assoc]; exact hacc⟩
              | plain _ hr hd2 =>
                refine .inr ⟨?_, _, ?_, by rw [List.append_assoc]; exact hacc⟩
                · cases r0 with
                  | nil => exact absurd rfl hr
                  | cons _ _ => simp at hlenr; lia
                · rw [hdrop, hc]; exact hd2
              | esc1 _ _ => exact absurd rfl hch
              | esc _ _ _ _ => exact absurd rfl hch
            · have hch : ch = 61 := by simpa using hb
              subst hch
              have hkind : (r0 = [] ∧ o = []) ∨ ∃ a b r, a < 16 ∧ b < 16 ∧ r0 = hexd a :: hexd b :: r ∧ ((r = [] ∧ o = [16 * a + b, 10]) ∨ (r ≠ [] ∧ ∃ o', Dec r o' ∧ o = (16 * a + b) :: o')) := by
                rw [hc] at ho
                cases ho with
                | plain1 h => exact absurd rfl h
                | plain h _ _ => exact absurd rfl h
                | soft => exact .inl ⟨rfl, rfl⟩
                | esc1 ha hb2 => exact .inr ⟨_, _, [], ha, hb2, rfl, .inl ⟨rfl, rfl⟩⟩
                | esc ha hb2 hr hd2 => exact .inr ⟨_, _, _, ha, hb2, rfl, .inr ⟨hr, _, hd2, rfl⟩⟩
              rcases hkind with ⟨rfl, rfl⟩ | ⟨a, b, r, ha, hb2, rfl, hrest⟩
              · refine WS.seq (WS.iteB true ?_ (fun _ => ?_) (fun h => nomatch h))
                · repeat (walk_at "m")
                  refine ⟨?_, rfl⟩
                  simp at hlenr
                  rw [beq_iff_eq]; lia
                · repeat (walk_at "m")
                  simp at hlenr
                  refine ⟨0, by lia, j + 1, acc, by lia, by lia, .inl ⟨by lia, by rw [← hacc]; simp⟩, e1, e2, e3, some_int (by lia), e5, e6⟩
              · simp only [List.length_cons] at hlenr
                have hol : 1 ≤ o.length := by
                  rcases hrest with ⟨_, h⟩ | ⟨_, _, _, h⟩ <;> (rw [h]; simp)
                have hj1 : (j : Int) + 1 = ((j + 1 : Nat) : Int) := by lia
                have hj2 : (j : Int) + 2 = ((j + 2 : Nat) : Int) := by lia
                have hj3 : (j : Int) + 3 = (j : Int) + ((3 : Nat) : Int) := by lia
                obtain ⟨th, hth⟩ := D.hexdigits
                refine WS.seq (WS.iteB false ?_ (fun h => nomatch h) (fun _ => ?_))
                · repeat (walk_at "m")
                  refine ⟨?_, rfl⟩
                  rw [beq_eq_false_iff_ne]; lia
                · refine WS.seq (WS.iteB true ?_ (fun _ => ?_) (fun h => nomatch h))
                  · repeat (walk_at "m")
                    refine ite_dec (fun h => ?_) (fun h => ?_)
                    · repeat (walk_at "m")
                      refine WO2.itemN (l := d.str) (c₁ := hexd a) hj1 (by rw [hat, hc]; rfl) (by lia) ?_
                      refine WE.globalS ok hth ?_
                      refine WO2.inC ?_
                      rw [hexAll_has ha]
                      repeat (walk_at "m")
                      refine WO2.itemN (l := d.str) (c₁ := hexd b) hj2 (by rw [hat, hc]; rfl) (by lia) ?_
                      refine WE.globalS ok hth ?_
                      refine WO2.inC ?_
                      rw [hexAll_has hb2]
                      repeat (walk_at "m")
                      exact ⟨rfl, rfl⟩
                    · exfalso; lia
                  · repeat (walk_at "m")
                    refine WE.callFn ok D.unquote ?_
                    repeat (walk_at "m")
                    refine ⟨by lia, ?_⟩
                    repeat (walk_at "m")
                    have hsl3 : Txt.slice (S d.str) (some (j : Int)) (some ((j : Int) + 3)) = S [61, hexd a, hexd b] := by
                      rw [hj3, slice_add, hc]; rfl
                    refine ⟨rfl, by exact ⟨trivial, trivial⟩, _, by rw [hsl3]; exact runs_unquote G ha hb2, ?_⟩
                    rintro pv rfl _
                    refine WO2.iaddN (by rw [List.length_singleton]; lia) ?_
                    repeat (walk_at "m")
                    refine ⟨j + 3, acc ++ [16 * a + b], by lia, by lia, ?_, e1, e2, rfl, some_int (by lia), e5, e6⟩
                    rcases hrest with ⟨hr, ho'⟩ | ⟨hr, o', hd2, ho'⟩
                    · refine .inl ⟨by rw [hr] at hlenr; simp at hlenr; lia, ?_⟩
                      rw [← hacc, ho']; simp
                    · refine .inr ⟨?_, o', by rw [hdrop, hc]; exact hd2, by rw [← hacc, ho']; simp⟩
                      cases r with
                      | nil => exact absurd rfl hr
                      | cons _ _ => simp at hlenr; lia
          · rintro σ ⟨j', acc', hjj, hjl, hst, e1, e2, e3, e4, e5, e6⟩
            refine WS.seq (WS.iteB (decide (j' = d.str.length)) ?_ (fun hb => ?_) (fun hb => ?_))
            · repeat (walk_at "m")
              exact ⟨by rw [Bool.eq_iff_iff]; simp; lia, rfl⟩
            · have hb' := of_decide_eq_true hb
              rcases hst with ⟨_, ha⟩ | ⟨h1, _⟩
              · have hal' : acc'.length + 1 < 1000000 := by
                  have := congrArg List.length ha
                  simp only [List.length_append, List.length_singleton] at this
                  lia
                repeat (walk_at "m")
                refine WO2.iaddN (by rw [List.length_singleton]; lia) ?_
                repeat (walk_at "m")
                exact ⟨d.str.length - j', by lia, j', acc' ++ [10], rfl, by lia, .inl ⟨hb', ha⟩, e1, e2, rfl, e4, e5, e6⟩
              · lia
            · have hb' := of_decide_eq_false hb
              rcases hst with ⟨h1, _⟩ | ⟨h1, o', ho', ha⟩
              · exact absurd h1 hb'
              · refine WS.nil (thn_next (WS.nil ?_))
                exact ⟨d.str.length - j', by lia, j', acc', rfl, by lia, .inr ⟨o', ho', ha⟩, e1, e2, e3, e4, e5, e6⟩
        · rcases hst with ⟨h1, h2⟩ | ⟨o, ho, hacc⟩
          · rw [h2] at e3
            exact ⟨e1, e2, e3⟩
          · exfalso
            have : d.str.drop j = [] := List.drop_eq_nil_of_le (by lia)
            rw [this] at ho
            cases ho
      · rintro σ ⟨e1, e2, e3⟩
        repeat (walk_at "m")
        exact ⟨e1, e2, by rw [e3]; simp⟩
  · rintro σ ⟨e1, e2, e3⟩
    obtain ⟨lc, hlc⟩ : ∃ c, e.getLast? = some c := ⟨_, List.getLast?_eq_some_getLast he⟩
    refine thn_next (WS.seq (WS.iteB (decide ((e.getLast? ≠ some 10 ∧ e.getLast? ≠ some 13) ∧ (ds.flatMap DLine.out).getLast? = some 10)) ?_ (fun hb => ?_) (fun hb => ?_)))
    · repeat (walk_at "m")
      refine WO2.itemLast hlc ?_
      repeat (walk_at "m")
      refine WO2.notInC (l := [13, 10]) ?_
      repeat (walk_at "m")
      have hcon : [13, 10].contains lc = (lc == 13 || lc == 10) := by simp only [List.contains_cons, List.contains_nil, Bool.or_false]
      rw [hcon]
      refine ite_nb (fun h => ?_) (fun h => ?_)
      · refine WT.and_cons (WT.val (WE.methS PySem.F.slot_str_endswith ty_str_endswith ?_) (fun _ => rfl))
        repeat (walk_at "m")
        refine WO.endswith ?_
        rw [endswith_S]
        refine truthyB ?_
        have hval : decide ((e.getLast? ≠ some 10 ∧ e.getLast? ≠ some 13) ∧ (ds.flatMap DLine.out).getLast? = some 10) = ((ds.flatMap DLine.out).getLast? == some 10) := by
          rw [hlc, Bool.eq_iff_iff]
          simp at h ⊢
          intro _
          exact ⟨h.2, h.1⟩
        refine ite_b (fun h2 => ?_) (fun h2 => ?_)
        · repeat (walk_at "m")
          exact ⟨by rw [hval, h2], rfl⟩
        · exact ⟨by rw [hval, h2], rfl⟩
      · refine ⟨?_, rfl⟩
        symm
        rw [decide_eq_false_iff_not, hlc]
        simp at h ⊢
        intro h3 h4
        rcases h with h | h
        · exact absurd h h4
        · exact absurd h h3
    · have hb' := of_decide_eq_true hb
      have hne : 1 ≤ (ds.flatMap DLine.out).length := by
        cases hd : ds.flatMap DLine.out with
        | nil => rw [hd] at hb'; cases hb'.2
        | cons _ _ => simp
      repeat (walk_at "m")
      refine ⟨by lia, ?_⟩
      repeat (walk_at "m")
      refine WE.un ?_
      repeat (walk_at "m")
      refine WO.lenS (by decide) ?_
      refine WO1.negI ?_
      repeat (walk_at "m")
      have hsl3 : Txt.slice (S (ds.flatMap DLine.out)) none (some (-(([10] : List Nat).length : Int))) = S (ds.flatMap DLine.out).dropLast := slice_init _ hne
      rw [hsl3]
      refine ⟨_, rfl, trivial, ?_⟩
      unfold decTail
      rw [if_pos hb']
    · have hb' := of_decide_eq_false hb
      refine WS.nil (thn_next ?_)
      repeat (walk_at "m")
      refine ⟨_, rfl, trivial, ?_⟩
      unfold decTail
      rw [if_neg hb']

set_option maxHeartbeats 8000000 in
theorem runs_encode {g : Gl} {n : Nat} (G : GF g) (D : GD g) (b : List Nat) (w : Nat) (hb : b ≠ []) (hbl : b.length < 1000000) (hbk : ∀ k ∈ b, k < 256) (hw : 4 ≤ w) (hw2 : w < 1000) (hok : ∀ c ∈ b.flatMap bmapF, okC c) (hlen : (b.flatMap bmapF).length < 1000000)
    (hlin : ∀ l ∈ linesL (b.flatMap bmapF), l.length < 1000000) (hcnt : (encItems w (b.flatMap bmapF)).length < 1000000) (hsum : ((encItems w (b.flatMap bmapF)).map (·.length)).sum + (encItems w (b.flatMap bmapF)).length * 64 ≤ 16777216) :
    Runs g "body_encode" fd_encode ["body", "maxlinelen", "eol"] (n + 1) [.str (S b), .int w, .str (S [10])] (fun pv => pv = .str (S (encBody w b))) := by
  have hsl : sizeLine = 16777216 := rfl
  obtain ⟨ba, bvs, bm, hb1, hb2, hb3⟩ := D.bmap
  generalize htb : b.flatMap bmapF = tb at *
  have htbne : tb ≠ [] := by
    intro e
    rw [e] at htb
    cases b with
    | nil => exact hb rfl
    | cons k r =>
      simp only [List.flatMap_cons, List.append_eq_nil_iff] at htb
      have := htb.1
      unfold bmapF at this
      split at this
      · cases this
      · have h2 := (piece_len k).1; rw [this] at h2; simp at h2
  intro A h₀ L f cdv s₀ ok
  refine WS.seq (WS.iteB false ?_ (fun h => nomatch h) (fun _ => ?_))
  · repeat (walk_at "m")
    refine ⟨?_, rfl⟩
    rw [decide_eq_false_iff_not]; lia
  refine WS.nil (thn_next ?_)
  refine WS.seq (WS.iteB false ?_ (fun h => nomatch h) (fun _ => ?_))
  · repeat (walk_at "m")
    refine WT.nameS ok rfl (by lia) ?_
    cases b with
    | nil => exact absurd rfl hb
    | cons a b => exact ⟨rfl, rfl⟩
  refine WS.nil (thn_next ?_)
  repeat (walk_at "m")
  refine WE.global ok hb1 ?_
  repeat (walk_at "m")
  refine WO.translate (f := bmapF) ok hb2 (fun k hk => ⟨hbk k hk, hb3 k (hbk k hk)⟩) hb (by rw [htb]; lia) ?_
  rw [htb]
  repeat (walk_at "m")
  refine WO2.addN (a := [61]) (b := [10]) (Nat.le_of_ble_eq_true rfl) ?_
  repeat (walk_at "m")
  refine ⟨Nat.zero_le _, ?_⟩
  repeat (walk_at "m")
  refine WS.forM (fun l : List Nat => PV.str (S l)) (linesL tb) (fun pre σ => σ.loc "body" = some (.str (S tb)) ∧ σ.loc "eol" = some (.str (S [10])) ∧ σ.loc "maxlinelen" = some (.int w) ∧ σ.loc "maxlinelen1" = some (.int ((w : Int) - 1)) ∧ σ.loc "soft_break" = some (.str (S [61, 10])) ∧
      σ.loc "encoded_body" = some (.ref 0) ∧ σ.loc "append" = some (.ref 1) ∧ σ.H = [.lst (sts (pre.flatMap (encLine w))), .app 0])
    (fun σ => σ.loc "body" = some (.str (S tb)) ∧ σ.loc "eol" = some (.str (S [10])) ∧ σ.loc "encoded_body" = some (.ref 0) ∧ σ.loc "append" = some (.ref 1) ∧ σ.H = [.lst (sts ((linesL tb).flatMap (encLine w))), .app 0])
    ok rfl ?_ (cleansS _ _) ?_ (fun _ h => ⟨h.1, h.2.1, h.2.2.2.2.2.1, h.2.2.2.2.2.2.1, h.2.2.2.2.2.2.2⟩) ?_
  · repeat (walk_at "m")
    have hc := cuts_len tb
    refine WO.splitlines (by rw [S_len]; lia) (by lia) ?_
    rw [lines_S tb hok]
    refine ⟨?_, rfl, rfl, rfl, rfl, rfl, rfl, rfl, rfl⟩
    simp [items]
  · rintro pre line post σ he ⟨e1, e2, e3, e4, e5, e6, e7, e8⟩
    have hll : line.length < 1000000 := hlin line (by rw [he]; simp)
    have hbase : (pre.flatMap (encLine w)).length < 1000000 := by
      have : (pre.flatMap (encLine w)).length ≤ (encItems w tb).length := by
        unfold encItems
        rw [he, List.flatMap_append, List.length_append, List.length_append]
        lia
      lia
    have hsnoc : (pre ++ [line]).flatMap (encLine w) = pre.flatMap (encLine w) ++ encLine w line := by simp
    generalize pre.flatMap (encLine w) = base at *
    repeat (walk_at "m")
    refine WS.whileD (fun k σ => ∃ (a : Nat) (rows : List (List Nat)), a ≤ line.length ∧ (line.drop a).length ≤ k ∧ rows.length + k ≤ line.length ∧ rows ++ (encF w k (line.drop a)).1 = (encF w line.length line).1 ∧ (encF w k (line.drop a)).2 = (encF w line.length line).2 ∧ (line.drop a).getLast? = line.getLast? ∧
        σ.loc "body" = some (.str (S tb)) ∧ σ.loc "eol" = some (.str (S [10])) ∧ σ.loc "maxlinelen" = some (.int w) ∧ σ.loc "maxlinelen1" = some (.int ((w : Int) - 1)) ∧ σ.loc "soft_break" = some (.str (S [61, 10])) ∧
        σ.loc "encoded_body" = some (.ref 0) ∧ σ.loc "append" = some (.ref 1) ∧ σ.loc "line" = some (.str (S line)) ∧ σ.loc "start" = some (.int a) ∧ σ.loc "laststart" = some (.int ((line.length : Int) - 1 - w)) ∧ σ.H = [.lst (sts (base ++ rows)), .app 0])
      (fun σ => ∃ a : Nat, a ≤ line.length ∧ line.drop a = (encF w line.length line).2 ∧ (line.drop a).length ≤ w ∧ (line.drop a).getLast? = line.getLast? ∧
        σ.loc "body" = some (.str (S tb)) ∧ σ.loc "eol" = some (.str (S [10])) ∧ σ.loc "maxlinelen" = some (.int w) ∧ σ.loc "maxlinelen1" = some (.int ((w : Int) - 1)) ∧ σ.loc "soft_break" = some (.str (S [61, 10])) ∧
        σ.loc "encoded_body" = some (.ref 0) ∧ σ.loc "append" = some (.ref 1) ∧ σ.loc "line" = some (.str (S line)) ∧ σ.loc "start" = some (.int a) ∧ σ.loc "laststart" = some (.int ((line.length : Int) - 1 - w)) ∧ σ.H = [.lst (sts (base ++ (encF w line.length line).1)), .app 0])
      line.length ⟨0, [], Nat.zero_le _, by simp, by simp, rfl, rfl, rfl, e1, e2, e3, e4, e5, e6, e7, rfl, rfl, rfl, by rw [List.append_nil]; exact e8⟩ ?_ ?_
    · rintro k σ ⟨a, rows, ha, hk, hrk, hd1, hd2, hlast, e1, e2, e3, e4, e5, e6, e7, e9, e10, e11, e8⟩
      have hrl : (line.drop a).length = line.length - a := List.length_drop
      repeat (walk_at "m")
      refine ite_dec (fun h => ?_) (fun h => ?_)
      · have hlt : w < (line.drop a).length := by lia
        obtain ⟨k', rfl⟩ : ∃ k', k = k' + 1 := ⟨k - 1, by lia⟩
        rw [encF, if_pos hlt] at hd1 hd2
        have hcb := cutK_bounds (r := line.drop a) hw
        have hat : ∀ j, line[a + j]? = (line.drop a)[j]? := fun j => by rw [List.getElem?_drop]
        obtain ⟨c1, hc1⟩ : ∃ c, (line.drop a)[w - 3]? = some c := ⟨_, List.getElem?_eq_getElem (by lia)⟩
        obtain ⟨c2, hc2⟩ : ∃ c, (line.drop a)[w - 2]? = some c := ⟨_, List.getElem?_eq_getElem (by lia)⟩
        have hsl3 : ∀ z : Nat, Txt.slice (S line) (some (a : Int)) (some ((a : Int) + (z : Int))) = S ((line.drop a).take z) := fun z => slice_add line a z
        have tk : ∀ (z : Nat), (line.drop a)[z]? = some 61 → (line.drop a).take (z + 1) = (line.drop a).take z ++ [61] := fun z hz => by rw [List.take_add_one, hz]; rfl
        repeat (walk_at "m")
        refine WS.mid (fun σ => σ.loc "body" = some (.str (S tb)) ∧ σ.loc "eol" = some (.str (S [10])) ∧ σ.loc "maxlinelen" = some (.int w) ∧ σ.loc "maxlinelen1" = some (.int ((w : Int) - 1)) ∧ σ.loc "soft_break" = some (.str (S [61, 10])) ∧
          σ.loc "encoded_body" = some (.ref 0) ∧ σ.loc "append" = some (.ref 1) ∧ σ.loc "line" = some (.str (S line)) ∧ σ.loc "start" = some (.int ((a + cutK w (line.drop a) : Nat) : Int)) ∧ σ.loc "laststart" = some (.int ((line.length : Int) - 1 - w)) ∧ σ.H = [.lst (sts (base ++ rows ++ [(line.drop a).take (cutK w (line.drop a)) ++ [61]])), .app 0]) ?_ ?_
        · refine WS.iteB (c1 == 61) ?_ (fun hb => ?_) (fun hb => ?_)
          · repeat (walk_at "m")
            refine WO2.itemN (l := line) (k := a + (w - 3)) (by lia) (by rw [hat]; exact hc1) (by lia) ?_
            repeat (walk_at "m")
            refine WO2.eqC (b := 61) ?_
            repeat (walk_at "m")
            exact ⟨rfl, rfl⟩
          · have h61 : (line.drop a)[w - 3]? = some 61 := by rw [hc1, eq_of_beq hb]
            have hcut : cutK w (line.drop a) = w - 3 := by unfold cutK; rw [if_pos h61]
            repeat (walk_at "m")
            refine ⟨by lia, ?_⟩
            repeat (walk_at "m")
            refine ⟨0, sts (base ++ rows), by show σ.H[1]? = _; rw [e8]; rfl, by show σ.H[0]? = _; rw [e8]; rfl, by simp; lia, ?_⟩
            have hs3 : Txt.slice (S line) (some (a : Int)) (some ((a : Int) + ((w : Int) - 1) - 1)) = S ((line.drop a).take (cutK w (line.drop a)) ++ [61]) := by
              have : (a : Int) + ((w : Int) - 1) - 1 = (a : Int) + ((w - 3 + 1 : Nat) : Int) := by lia
              rw [this, hsl3, tk _ h61, hcut]
            rw [hs3]
            repeat (walk_at "m")
            refine ⟨e1, e2, e3, e4, e5, e6, e7, e9, some_int (by lia), e11, ?_⟩
            show σ.H.set 0 _ = _
            rw [e8]; simp [sts]
          · have h61 : ¬ (line.drop a)[w - 3]? = some 61 := by rw [hc1]; simpa using hb
            refine WS.seq (WS.iteB (c2 == 61) ?_ (fun hb2 => ?_) (fun hb2 => ?_))
            · repeat (walk_at "m")
              refine WO2.itemN (l := line) (k := a + (w - 2)) (by lia) (by rw [hat]; exact hc2) (by lia) ?_
              repeat (walk_at "m")
              refine WO2.eqC (b := 61) ?_
              repeat (walk_at "m")
              exact ⟨rfl, rfl⟩
            · have h62 : (line.drop a)[w - 2]? = some 61 := by rw [hc2, eq_of_beq hb2]
              have hcut : cutK w (line.drop a) = w - 2 := by unfold cutK; rw [if_neg h61, if_pos h62]
              repeat (walk_at "m")
              refine ⟨by lia, ?_⟩
              repeat (walk_at "m")
              refine ⟨0, sts (base ++ rows), by show σ.H[1]? = _; rw [e8]; rfl, by show σ.H[0]? = _; rw [e8]; rfl, by simp; lia, ?_⟩
              have hs3 : Txt.slice (S line) (some (a : Int)) (some ((a : Int) + ((w : Int) - 1))) = S ((line.drop a).take (cutK w (line.drop a)) ++ [61]) := by
                have : (a : Int) + ((w : Int) - 1) = (a : Int) + ((w - 2 + 1 : Nat) : Int) := by lia
                rw [this, hsl3, tk _ h62, hcut]
              rw [hs3]
              repeat (walk_at "m")
              refine ⟨e1, e2, e3, e4, e5, e6, e7, e9, some_int (by lia), e11, ?_⟩
              show σ.H.set 0 _ = _
              rw [e8]; simp [sts]
            · have h62 : ¬ (line.drop a)[w - 2]? = some 61 := by rw [hc2]; simpa using hb2
              have hcut : cutK w (line.drop a) = w - 1 := by unfold cutK; rw [if_neg h61, if_neg h62]
              repeat (walk_at "m")
              refine ⟨by lia, ?_⟩
              repeat (walk_at "m")
              have hs3 : Txt.slice (S line) (some (a : Int)) (some ((a : Int) + ((w : Int) - 1))) = S ((line.drop a).take (cutK w (line.drop a))) := by
                have : (a : Int) + ((w : Int) - 1) = (a : Int) + ((w - 1 : Nat) : Int) := by lia
                rw [this, hsl3, hcut]
              rw [hs3]
              refine WO2.addN (b := [61]) (by simp; lia) ?_
              refine ⟨0, sts (base ++ rows), by show σ.H[1]? = _; rw [e8]; rfl, by show σ.H[0]? = _; rw [e8]; rfl, by simp; lia, ?_⟩
              repeat (walk_at "m")
              refine ⟨e1, e2, e3, e4, e5, e6, e7, e9, some_int (by lia), e11, ?_⟩
              show σ.H.set 0 _ = _
              rw [e8]; simp [sts]
        · rintro σ ⟨e1, e2, e3, e4, e5, e6, e7, e9, e10, e11, e8⟩
          repeat (walk_at "m")
          have hdd : line.drop (a + cutK w (line.drop a)) = (line.drop a).drop (cutK w (line.drop a)) := by rw [List.drop_drop]
          refine ⟨k', by lia, a + cutK w (line.drop a), rows ++ [(line.drop a).take (cutK w (line.drop a)) ++ [61]], by lia, by rw [List.length_drop]; lia, by simp; lia, ?_, ?_, ?_, e1, e2, e3, e4, e5, e6, e7, e9, e10, e11, ?_⟩
          · rw [hdd, ← hd1]; simp
          · rw [hdd]; exact hd2
          · rw [hdd, drop_last (by lia), hlast]
          · rw [e8]; simp
      · have hle : ¬ w < (line.drop a).length := by lia
        have hcut : encF w k (line.drop a) = ([], line.drop a) := by
          cases k with
          | zero => rfl
          | succ k => rw [encF, if_neg hle]
        rw [hcut] at hd1 hd2
        rw [List.append_nil] at hd1
        rw [hd1] at e8
        exact ⟨a, ha, hd2, by lia, hlast, e1, e2, e3, e4, e5, e6, e7, e9, e10, e11, e8⟩
    · rintro σ ⟨a, ha, hr, hrw, hlast, e1, e2, e3, e4, e5, e6, e7, e9, e10, e11, e8⟩
      have hrl : (line.drop a).length = line.length - a := List.length_drop
      have hcount := encF_count w line.length line
      have hEl : encLine w line = (encF w line.length line).1 ++ [encTail w (line.drop a)] := by unfold encLine; rw [hr]
      generalize (encF w line.length line).1 = rows at *
      have hplain : ((line.drop a).getLast?.all fun k => !isWs k) = true → encTail w (line.drop a) = line.drop a := by
        intro h
        unfold encTail
        cases hh : (line.drop a).getLast? with
        | none => rfl
        | some k =>
          rw [hh] at h
          have h' : isWs k = false := by simpa using h
          simp [h']
      have hsf : Txt.slice (S line) (some (a : Int)) none = S (line.drop a) := slice_from line ha
      have hbr : (base ++ rows).length < 3000000 := by rw [List.length_append]; lia
      have hHs : ∀ X : List Nat, σ.H.set 0 (.lst (sts (base ++ rows) ++ [.str (S X)])) = [.lst (sts (base ++ rows ++ [X])), .app 0] := by
        intro X; rw [e8]; simp [sts]
      refine thn_next ?_
      cases hl : line.getLast? with
      | none =>
        have hl0 : line = [] := List.getLast?_eq_none_iff.mp hl
        have hpl : encTail w (line.drop a) = line.drop a := hplain (by rw [hlast, hl]; rfl)
        refine WS.seq (WS.iteB false ?_ (fun h => nomatch h) (fun _ => ?_))
        · repeat (walk_at "m")
          refine WT.nameS ok e9 (by lia) ?_
          rw [hl0]
          exact ⟨rfl, rfl⟩
        · repeat (walk_at "m")
          refine ⟨by lia, ?_⟩
          repeat (walk_at "m")
          rw [hsf]
          refine ⟨0, sts (base ++ rows), by rw [e8]; rfl, by rw [e8]; rfl, by simp at hbr ⊢; lia, ?_⟩
          repeat (walk_at "m")
          refine ⟨e1, e2, e3, e4, e5, e6, e7, ?_⟩
          show σ.H.set 0 _ = _
          rw [hHs, hsnoc, hEl, hpl, List.append_assoc]
      | some k =>
        have hne : line ≠ [] := by intro h; rw [h] at hl; cases hl
        have hemp : (!line.isEmpty) = true := by cases line with | nil => exact absurd rfl hne | cons _ _ => rfl
        have hcon : [32, 9].contains k = isWs k := by unfold isWs; simp only [List.contains_cons, List.contains_nil, Bool.or_false]
        refine WS.seq (WS.iteB (isWs k) ?_ (fun hb => ?_) (fun hb => ?_))
        · repeat (walk_at "m")
          refine WT.nameS ok e9 (by lia) ?_
          rw [hemp]
          repeat (walk_at "m")
          refine WO2.itemLast hl ?_
          repeat (walk_at "m")
          refine WO2.inC (l := [32, 9]) ?_
          rw [hcon]
          repeat (walk_at "m")
          refine ite_b (fun h => ?_) (fun h => ?_)
          · repeat (walk_at "m")
            exact ⟨h.symm, rfl⟩
          · exact ⟨h.symm, rfl⟩
        · have hkw : k = 9 ∨ k = 32 := by unfold isWs at hb; simp at hb; lia
          have hr1 : 1 ≤ (line.drop a).length := by
            cases hd : line.drop a with
            | nil => rw [hd, hl] at hlast; cases hlast
            | cons _ _ => simp
          have hq := runs_quote (n := n) G D hkw
          repeat (walk_at "m")
          refine WS.mid (fun σ' => σ'.loc "body" = some (.str (S tb)) ∧ σ'.loc "eol" = some (.str (S [10])) ∧ σ'.loc "maxlinelen" = some (.int w) ∧ σ'.loc "maxlinelen1" = some (.int ((w : Int) - 1)) ∧ σ'.loc "soft_break" = some (.str (S [61, 10])) ∧
            σ'.loc "encoded_body" = some (.ref 0) ∧ σ'.loc "append" = some (.ref 1) ∧ σ'.loc "line" = some (.str (S line)) ∧ σ'.loc "start" = some (.int a) ∧
            σ'.loc "q" = some (.str (S (if (line.drop a).length + 2 ≤ w then esc k else if (line.drop a).length + 1 = w then [k] ++ [61, 10] else [61, 10] ++ esc k))) ∧ σ'.H = [.lst (sts (base ++ rows)), .app 0]) ?_ ?_
          · refine WS.iteB (decide ((line.drop a).length + 2 ≤ w)) ?_ (fun h1 => ?_) (fun h1 => ?_)
            · repeat (walk_at "m")
              exact ⟨decide_eq_decide.mpr (by lia), rfl⟩
            · have h1' := of_decide_eq_true h1
              repeat (walk_at "m")
              refine WE.callFn ok D.quote ?_
              repeat (walk_at "m")
              refine WO2.itemLast hl ?_
              repeat (walk_at "m")
              refine ⟨rfl, by exact ⟨trivial, trivial⟩, _, hq, ?_⟩
              rintro pv rfl _
              repeat (walk_at "m")
              exact ⟨e1, e2, e3, e4, e5, e6, e7, e9, e10, by rw [if_pos h1']; rfl, e8⟩
            · have h1' := of_decide_eq_false h1
              refine WS.seq (WS.iteB (decide ((line.drop a).length + 1 = w)) ?_ (fun h2 => ?_) (fun h2 => ?_))
              · repeat (walk_at "m")
                exact ⟨by rw [Bool.eq_iff_iff]; simp; lia, rfl⟩
              · have h2' := of_decide_eq_true h2
                repeat (walk_at "m")
                refine WO2.itemLast hl ?_
                repeat (walk_at "m")
                refine WO2.addN (Nat.le_of_ble_eq_true rfl) ?_
                repeat (walk_at "m")
                exact ⟨e1, e2, e3, e4, e5, e6, e7, e9, e10, by rw [if_neg h1', if_pos h2']; rfl, e8⟩
              · have h2' := of_decide_eq_false h2
                repeat (walk_at "m")
                refine WE.callFn ok D.quote ?_
                repeat (walk_at "m")
                refine WO2.itemLast hl ?_
                repeat (walk_at "m")
                refine ⟨rfl, by exact ⟨trivial, trivial⟩, _, hq, ?_⟩
                rintro pv rfl _
                refine WO2.addN (Nat.le_of_ble_eq_true rfl) ?_
                repeat (walk_at "m")
                exact ⟨e1, e2, e3, e4, e5, e6, e7, e9, e10, by rw [if_neg h1', if_neg h2']; rfl, e8⟩
          · rintro σ' ⟨e1, e2, e3, e4, e5, e6, e7, e9, e10, e12, e8⟩
            have htail : encTail w (line.drop a) = (line.drop a).dropLast ++ (if (line.drop a).length + 2 ≤ w then esc k else if (line.drop a).length + 1 = w then [k] ++ [61, 10] else [61, 10] ++ esc k) := by
              unfold encTail
              rw [hlast, hl]
              dsimp only
              rw [if_pos hb]
              split
              · rfl
              · split <;> rfl
            generalize hqv : (if (line.drop a).length + 2 ≤ w then esc k else if (line.drop a).length + 1 = w then [k] ++ [61, 10] else [61, 10] ++ esc k) = q0 at *
            have hq0 : q0.length ≤ 5 := by
              rw [← hqv]
              split
              · simp [esc]
              · split <;> simp [esc]
            repeat (walk_at "m")
            refine ⟨by lia, ?_⟩
            repeat (walk_at "m")
            have hsi : Txt.slice (S line) (some (a : Int)) (some (-1)) = S (line.drop a).dropLast := slice_from_init line (by lia)
            rw [hsi]
            refine WO2.addN (by simp; lia) ?_
            rw [← htail]
            refine ⟨0, sts (base ++ rows), by rw [e8]; rfl, by rw [e8]; rfl, by simp at hbr ⊢; lia, ?_⟩
            repeat (walk_at "m")
            refine ⟨e1, e2, e3, e4, e5, e6, e7, ?_⟩
            show σ'.H.set 0 _ = _
            rw [e8, hsnoc, hEl]; simp [sts]
        · have hpl : encTail w (line.drop a) = line.drop a := hplain (by rw [hlast, hl]; simpa using hb)
          repeat (walk_at "m")
          refine ⟨by lia, ?_⟩
          repeat (walk_at "m")
          rw [hsf]
          refine ⟨0, sts (base ++ rows), by rw [e8]; rfl, by rw [e8]; rfl, by simp at hbr ⊢; lia, ?_⟩
          repeat (walk_at "m")
          refine ⟨e1, e2, e3, e4, e5, e6, e7, ?_⟩
          show σ.H.set 0 _ = _
          rw [hHs, hsnoc, hEl, hpl, List.append_assoc]
  · rintro σ ⟨e1, e2, e3, e4, e5⟩
    obtain ⟨lc, hlc⟩ : ∃ c, tb.getLast? = some c := ⟨_, List.getLast?_eq_some_getLast htbne⟩
    obtain ⟨tc, htc⟩ := D.crlf
    have hlc13 : lc ≠ 13 := by
      have := hok lc (List.mem_of_getLast? hlc)
      unfold okC at this; lia
    have hcon : [13, 10].contains lc = (lc == 10) := by
      have : (lc == 13) = false := by simpa using hlc13
      simp only [List.contains_cons, List.contains_nil, Bool.or_false, this, Bool.false_or]
    have hfinal : ∀ σ' : St, σ'.loc "eol" = some (.str (S [10])) → σ'.loc "encoded_body" = some (.ref 0) → σ'.H = [.lst (sts (encItems w tb)), .app 0] → σ'.lst? (.ref 0) = some (sts (encItems w tb)) := by
      intro σ' _ _ f3
      exact lstq_ref (by rw [f3]; rfl)
    refine thn_next (WS.seq ?_)
    refine WS.mid (fun σ' => σ'.loc "eol" = some (.str (S [10])) ∧ σ'.loc "encoded_body" = some (.ref 0) ∧ σ'.H = [.lst (sts (encItems w tb)), .app 0]) ?_ ?_
    · refine WS.iteB (lc == 10) ?_ (fun hb => ?_) (fun hb => ?_)
      · repeat (walk_at "m")
        refine WO2.itemLast hlc ?_
        refine WE.globalS ok htc ?_
        refine WO2.inC ?_
        rw [hcon]
        repeat (walk_at "m")
        exact ⟨rfl, rfl⟩
      · have hb' : lc = 10 := eq_of_beq hb
        have hlen2 : ((linesL tb).flatMap (encLine w)).length < 1000000 := by
          unfold encItems at hcnt
          rw [List.length_append] at hcnt; lia
        repeat (walk_at "m")
        refine ⟨0, sts ((linesL tb).flatMap (encLine w)), by rw [e5]; rfl, by rw [e5]; rfl, by rw [List.length_map]; lia, ?_⟩
        repeat (walk_at "m")
        refine ⟨e2, e3, ?_⟩
        show σ.H.set 0 _ = _
        rw [e5]
        unfold encItems
        rw [hlc, hb', if_pos rfl]
        have : PV.str (Str.ofString "") = PV.str (S []) := rfl
        rw [this]
        simp [sts]
      · have hb' : lc ≠ 10 := by simpa using hb
        refine WS.nil (thn_next ?_)
        refine ⟨e2, e3, ?_⟩
        rw [e5]
        unfold encItems
        rw [hlc, if_neg (by simpa using hb'), List.append_nil]
    · rintro σ' ⟨e2, e3, e5⟩
      repeat (walk_at "m")
      refine WO.joinS (sep := [10]) (ys := encItems w tb) (hfinal σ' e2 e3 e5) (by decide) hsum ?_
      repeat (walk_at "m")
      refine ⟨_, rfl, trivial, ?_⟩
      unfold encBody
      rw [htb]

set_option maxHeartbeats 8000000 in
theorem runs_numbers {g : Gl} {n : Nat} (G : GF g) (row : List (List Nat)) (hl : row.length < 14) (hr : ∀ p ∈ row, (∃ k, p = [k]) ∨ (∃ k, k < 256 ∧ p = esc k)) :
    Runs g "_law_numbers" fd_numbers ["row", "operators"] (n + 22) [.lst (sts row), .lst (sts OPS)] (fun pv => pv = .lst (nms (numL [] row))) := by
  have hsl : sizeLine = 16777216 := rfl
  intro A h₀ L f cdv s₀ ok
  have hpart : ∀ p : List Nat, p.length < 20 → opSigns p → Runs g "_law_part" fd_part ["part", "operators"] (n + 21) [.str (S p), .lst (sts OPS)] (fun pv => pv = .lst (nms (partL p))) := fun p h1 h2 => runs_part G 20 n p (by lia) h1 h2
  refine WS.seq ?_
  repeat (walk_at "m")
  refine ⟨Nat.zero_le _, ?_⟩
  repeat (walk_at "m")
  refine WS.forM (fun p : List Nat => PV.str (S p)) row (fun pre σ => ∃ part acc, opSigns part ∧ part.length ≤ pre.length ∧ acc.length ≤ pre.length * 1050000 ∧ (∀ post, row = pre ++ post → acc ++ numL part post = numL [] row) ∧
      σ.loc "operators" = some (.lst (sts OPS)) ∧ σ.loc "part" = some (.str (S part)) ∧ σ.loc "numbers" = some (.ref 0) ∧ σ.H = [.lst (nms acc)])
    (fun σ => ∃ part acc, opSigns part ∧ part.length < 14 ∧ acc.length ≤ 14700000 ∧ acc ++ partL part = numL [] row ∧
      σ.loc "operators" = some (.lst (sts OPS)) ∧ σ.loc "part" = some (.str (S part)) ∧ σ.loc "numbers" = some (.ref 0) ∧ σ.H = [.lst (nms acc)]) ok rfl ?_ (sts_clean _) ?_ ?_ ?_
  · repeat (walk_at "m")
    exact ⟨rfl, [], [], fun k hk => (by cases hk), Nat.zero_le _, Nat.zero_le _, fun post h => by rw [h]; rfl, rfl, rfl, rfl, rfl⟩
  · rintro pre p post σ he ⟨part, acc, hop, hpl, hal, hinv, e1, e2, e3, e4⟩
    have hpre : pre.length < row.length := by rw [he]; simp
    have hinv' := hinv (p :: post) he
    have hnext : ∀ post', row = (pre ++ [p]) ++ post' → post' = post := by
      intro post' h
      rw [he, List.append_assoc] at h
      have := List.append_cancel_left h
      simp only [List.singleton_append, List.cons.injEq, true_and] at this
      exact this.symm
    have hpk := hr p (by rw [he]; simp)
    have hal2 : acc.length ≤ 13650000 := by lia
    repeat (walk_at "m")
    refine WS.iteB (OPS.contains p && p != [61]) ?_ (fun hb => ?_) (fun hb => ?_)
    · repeat (walk_at "m")
      refine WO2.inLN (ys := OPS) rfl ?_
      repeat (walk_at "m")
      refine ite_b (fun h => ?_) (fun h => ?_)
      · repeat (walk_at "m")
        refine WO2.neL (b := [61]) ?_
        repeat (walk_at "m")
        refine ite_b (fun h2 => ?_) (fun h2 => ?_)
        · repeat (walk_at "m")
          rw [h, h2]; exact ⟨rfl, rfl⟩
        · rw [h, h2]; exact ⟨rfl, rfl⟩
      · rw [h]; exact ⟨rfl, rfl⟩
    · have hb' : OPS.contains p = true ∧ p ≠ [61] := by simpa using hb
      have hk : ∃ k, p = [k] ∧ OPS.contains [k] = true := by
        rcases hpk with ⟨k, rfl⟩ | ⟨k, hk, rfl⟩
        · exact ⟨k, rfl, hb'.1⟩
        · exfalso
          have : ∀ k : Fin 256, OPS.contains (esc k.val) = false := by decide +kernel
          have h2 := this ⟨k, hk⟩
          dsimp only at h2
          rw [h2] at hb'; cases hb'.1
      obtain ⟨k, rfl, hks⟩ := hk
      rw [numL, if_pos hb'] at hinv'
      repeat (walk_at "m")
      refine WO2.iaddN (by rw [List.length_singleton]; lia) ?_
      repeat (walk_at "m")
      refine ⟨part ++ [k], acc, ?_, by rw [List.length_append, List.length_append, List.length_singleton, List.length_singleton]; lia, by rw [List.length_append, List.length_singleton, Nat.add_mul]; exact Nat.le_trans hal (Nat.le_add_right _ _), fun post' h => by rw [hnext post' h]; exact hinv', e1, rfl, e3, e4⟩
      intro j hj
      rcases List.mem_append.mp hj with h | h
      · exact hop j h
      · rw [List.mem_singleton.mp h]; exact hks
    · have hb' : ¬ (OPS.contains p = true ∧ p ≠ [61]) := by
        intro h
        have : (OPS.contains p && p != [61]) = true := by simpa using h
        rw [this] at hb; cases hb
      rw [numL, if_neg hb'] at hinv'
      obtain ⟨k0, r0, hp0⟩ : ∃ k r, p = k :: r := by
        rcases hpk with ⟨k, rfl⟩ | ⟨k, _, rfl⟩
        · exact ⟨k, [], rfl⟩
        · exact ⟨61, _, rfl⟩
      have hplen : p.length ≤ 3 := by
        rcases hpk with ⟨k, rfl⟩ | ⟨k, _, rfl⟩
        · simp
        · simp [esc]
      refine WS.seq (WS.iteB (k0 == 61) ?_ (fun h61 => ?_) (fun h61 => ?_))
      · repeat (walk_at "m")
        refine WO2.itemN (l := p) (k := 0) rfl (by rw [hp0]; rfl) (by lia) ?_
        repeat (walk_at "m")
        refine WO2.eqC (b := 61) ?_
        repeat (walk_at "m")
        exact ⟨rfl, rfl⟩
      · have hh : p.head? = some 61 := by rw [hp0, eq_of_beq h61]; rfl
        rw [if_pos hh] at hinv'
        have hop2 : opSigns (part ++ [61]) := by
          intro j hj
          rcases List.mem_append.mp hj with h | h
          · exact hop j h
          · rw [List.mem_singleton.mp h]; decide
        have hpl2 : (part ++ [61]).length < 20 := by simp; lia
        have hlen1 := partL_len _ hpl2
        repeat (walk_at "m")
        refine WE.callFn ok G.part ?_
        repeat (walk_at "m")
        refine WO2.addN (b := [61]) (by rw [List.length_singleton]; lia) ?_
        repeat (walk_at "m")
        refine ⟨rfl, by exact ⟨trivial, sts_clean _, trivial⟩, _, hpart _ hpl2 hop2, ?_⟩
        rintro pv rfl _
        refine WE.comp1 (cl := []) ok rfl rfl (by decide) rfl (by decide) rfl (fun _ => none) (fun _ _ h => nomatch h) ?_
        repeat (walk_at "m")
        refine ⟨by lia, ?_⟩
        repeat (walk_at "m")
        have hsl1 : Txt.slice (S p) (some (1 : Int)) none = S (p.drop 1) := slice_from p (a := 1) (by rw [hp0]; simp)
        rw [hsl1]
        refine ⟨_, nms ((p.drop 1).map (256 + ·)), items_str _, chars_clean _, nms_clean _, by rw [nms_len]; simp, by simp; lia, (fun _ _ h => nomatch h), ?_, ?_⟩
        · intro C m i y z acc' hy hz
          have okc := cxC_ok (c := cxF g "_law_numbers" fd_numbers.scope A h₀ L f cdv s₀) (scope := { kind := .function, names := [(".0", .local), ("figure", .local), ("ord", .globalImplicit)], isGenerator := false, isCoroutine := false }) (cl := []) (C := C) (m := m) ok rfl
          rw [List.getElem?_map] at hy
          obtain ⟨kk, hkk, rfl⟩ := Option.map_eq_some_iff.mp hy
          have hz' : z = .int ((256 + kk : Nat) : Int) := by
            rw [nms, List.map_map, List.getElem?_map, hkk] at hz
            cases hz; rfl
          subst hz'
          repeat (walk_at "m")
          exact ⟨rfl, rfl⟩
        · refine WO2.addL rfl rfl (by rw [nms_len, nms_len]; simp; lia) ?_
          rw [← nms_app]
          refine WO2.iaddL (xs := nms acc) (by show σ.H[0]? = _; rw [e4]; rfl) rfl (by rw [nms_len, nms_len]; simp; lia) ?_
          repeat (walk_at "m")
          refine ⟨[], acc ++ (partL (part ++ [61]) ++ (p.drop 1).map (256 + ·)), fun k hk => (by cases hk), Nat.zero_le _, by simp; lia, fun post' h => by rw [hnext post' h, List.append_assoc]; exact hinv', e1, rfl, rfl, ?_⟩
          show σ.H.set 0 _ = _
          rw [e4]; simp only [nms_app, List.set_cons_zero]
      · have hh : p.head? ≠ some 61 := by rw [hp0]; simpa using h61
        rw [if_neg hh] at hinv'
        have hk : ∃ k, p = [k] := by
          rcases hpk with h | ⟨k, _, rfl⟩
          · exact h
          · exact absurd rfl hh
        obtain ⟨k, rfl⟩ := hk
        have hpl2 : part.length < 20 := by lia
        have hlen1 := partL_len _ hpl2
        repeat (walk_at "m")
        refine WE.callFn ok G.part ?_
        repeat (walk_at "m")
        refine ⟨rfl, by exact ⟨trivial, sts_clean _, trivial⟩, _, hpart _ hpl2 hop, ?_⟩
        rintro pv rfl _
        repeat (walk_at "m")
        refine ⟨Nat.le_of_ble_eq_true rfl, ?_⟩
        refine WO2.addL (ys := nms [256 + k]) rfl rfl (by rw [nms_len, nms_len]; simp; lia) ?_
        rw [← nms_app]
        refine WO2.iaddL (xs := nms acc) (by show σ.H[0]? = _; rw [e4]; rfl) rfl (by rw [nms_len, nms_len]; simp; lia) ?_
        repeat (walk_at "m")
        refine ⟨[], acc ++ (partL part ++ [256 + k]), fun k hk => (by cases hk), Nat.zero_le _, by simp; lia, fun post' h => by rw [hnext post' h, List.append_assoc]; exact hinv', e1, rfl, rfl, ?_⟩
        show σ.H.set 0 _ = _
        rw [e4]; simp only [nms_app, List.set_cons_zero]
  · rintro σ ⟨part, acc, h1, h2, h3, h4, h5⟩
    refine ⟨part, acc, h1, by lia, ?_, ?_, h5⟩
    · lia
    · have := h4 [] (by simp)
      exact this
  · rintro σ ⟨part, acc, hop, hpl, hal, hfin, e1, e2, e3, e4⟩
    have hlen1 := partL_len part (by lia)
    repeat (walk_at "m")
    refine WE.callFn ok G.part ?_
    repeat (walk_at "m")
    refine ⟨rfl, by exact ⟨trivial, sts_clean _, trivial⟩, _, hpart _ (by lia) hop, ?_⟩
    rintro pv rfl _
    refine WO2.addL (xs := nms acc) (lstq_ref (by rw [e4]; rfl)) rfl (by rw [nms_len, nms_len]; lia) ?_
    rw [← nms_app, hfin]
    repeat (walk_at "m")
    exact ⟨_, rfl, nms_clean _, rfl⟩

set_option maxHeartbeats 8000000 in
theorem law_walk {g : Gl} (G : GF g) (D : GD g) (GL' : GL g) (ns : List Int) (ok' : LawOk ns) {A : Around} {h₀ : Heap} {L f : Addr} {cdv : Value} {s₀ : Shared} {a : Addr} {vs : List Value}
    (ok : (cxL g A h₀ L f cdv s₀).Ok 60) (hL : h₀.IsList a vs.toArray) (hI : IntsAre vs ns) (hns : ns.length ≤ 63) :
    WS (cxL g A h₀ L f cdv s₀) (execs fd_law.body (cxL g A h₀ L f cdv s₀).env) (fun pf _ => pf = .ret (.bool true)) ⟨fun y => if y = "script" then some (.raw (.ref a)) else none, [.cell none, .cell none], fun y => if y = "operators" then some 0 else if y = "width" then some 1 else none⟩ := by
  have hsl : sizeLine = 16777216 := rfl
  refine WS.seq ?_
  refine WS.assignCell (i := 0) ok ?_
  refine WE.callFn ok GL'.operators ?_
  refine WA.nil_ ⟨rfl, trivial, _, runs_operators, ?_⟩
  rintro pv rfl _
  refine ⟨rfl, ⟨_, rfl⟩, ?_⟩
  refine thn_next ?_
  refine WS.assignTok ok rfl ?_
  refine WSn.seq ?_
  refine WS.assignNN ok rfl ?_
  refine thn_next ?_
  refine WSn.seq ?_
  refine WS.forM (fun x : Int => PV.int x) (xsOf ns) (fun pre σ => ∃ ks, PlainSt σ.H (plainOf pre) ks ∧ (plainOf pre).length ≤ 6 * pre.length + 1 ∧ (∀ r ∈ plainOf pre, r.length ≤ 6 * pre.length) ∧
      σ.loc "text" = some (.str (S (textOf pre))) ∧ σ.loc "plain" = some (.ref 3) ∧ σ.loc "script" = some (.raw (.ref a)) ∧ σ.cel "operators" = some 0 ∧ σ.cel "width" = some 1)
    (fun σ => ∃ ks, PlainSt σ.H (plainOf (xsOf ns)) ks ∧ σ.loc "text" = some (.str (S (textOf (xsOf ns)))) ∧ σ.loc "plain" = some (.ref 3) ∧ σ.loc "script" = some (.raw (.ref a)) ∧ σ.cel "operators" = some 0 ∧ σ.cel "width" = some 1) ok rfl ?_ (cleansI _) ?_ ?_ ?_
  · refine WE.bin (WE.list ?_)
    repeat (walk_at "m")
    refine ⟨Nat.le_of_ble_eq_true rfl, ?_⟩
    refine WE.sliceR (i := none) (j := some 4) (ms := ns.take 4) hL hI (by lia) ?_ ?_
    · show (ns.drop 0).take (min 4 ns.length - 0) = _
      rw [List.drop_zero, Nat.sub_zero]
      rw [List.take_eq_take_iff]; lia
    · refine WE.name ok rfl ⟨rfl, ?_⟩
      repeat (walk_at "m")
      refine ⟨rfl, rfl, ?_⟩
      refine WO2.addL (xs := [310, 236, 170, 20, 45].map .int) (ys := (ns.take 4).map .int) rfl rfl (by simp; lia) ?_
      refine ⟨?_, [2], PlainSt.init, by decide, by decide, rfl, rfl, rfl, rfl, rfl⟩
      rw [← List.map_append]; rfl
  · rintro pre x post σ he ⟨ks, P, hpl, hpr, e1, e2, e3, e4, e5⟩
    have hx0 : 0 ≤ x.fmod 48 := Int.fmod_nonneg_of_pos _ (by decide)
    have hx1 := Int.fmod_lt_of_pos x (b := 48) (by decide)
    have hxe := opIx_eq x
    have htl : (textOf pre).length + (opOf x).length + (behind x).length < 500 := by
      have h1 := ok'.tlen
      rw [he] at h1
      simp only [textOf, List.flatMap_append, List.flatMap_cons, List.length_append] at h1 ⊢
      lia
    have hprelen : pre.length < 9 := by
      have h1 := congrArg List.length he
      simp only [xsOf, List.length_append, List.length_cons, List.length_take, List.length_nil] at h1
      lia
    obtain ⟨k1, r1, hk1, hr1, hr1', hkr1⟩ := P.last
    refine WS.seq (WS.aug ok rfl e1 (WE.sub (WE.nameCell ok e4 P.c0 ?_)))
    repeat (walk_at "m")
    refine WO2.itemL' (xs := sts OPS) (x := .str (S (opOf x))) rfl hx0 (by lia) ?_ ?_
    · rw [hxe, Int.toNat_natCast, List.getElem?_map, opOf_get]; rfl
    refine WO2.iaddN (by lia) (thn_next ?_)
    refine WS.seq (WS.expr (WE.methL PySem.F.slot_list_append ty_list_append (WE.sub (WE.name ok e2 (WE.neg1 ?_)))))
    refine WO2.itemEnd (xs := ks.map PV.ref) (x := .ref k1) (lstq_ref P.out) (by rw [List.getLast?_map, hk1]; rfl) (by rw [List.length_map, P.len]; lia) ?_
    refine ⟨lstq_isSome (lstq_ref hkr1), ?_⟩
    repeat (walk_at "m")
    refine WO.append (xs := nms r1) hkr1 (by rw [nms_len]; have := hpr r1 (List.mem_of_getLast? hr1); lia) (thn_next ?_)
    have P' : PlainSt (σ.H.set k1 (.lst (nms r1 ++ [.int (7 + x.fmod 48)]))) (addLast (plainOf pre) (7 + opIx x)) ks := by
      have h1 := P.add hk1 hr1' (7 + opIx x)
      have h2 : (7 : Int) + x.fmod 48 = ((7 + opIx x : Nat) : Int) := by lia
      rw [h2]; exact h1
    have hal := addLast_len P.plne (7 + opIx x)
    have hrl := addLast_rows hpr (7 + opIx x)
    have hbl := behind_len x
    generalize hPL : addLast (plainOf pre) (7 + opIx x) = pl1 at *
    refine WS.seq (WS.forM (fun k : Nat => PV.str (S [k])) (behind x) (fun pre2 σ => ∃ ks, PlainSt σ.H (pre2.foldl signStep pl1) ks ∧ (pre2.foldl signStep pl1).length ≤ 6 * pre.length + 1 + pre2.length ∧ (∀ r ∈ pre2.foldl signStep pl1, r.length ≤ 6 * pre.length + 1 + pre2.length) ∧
        σ.loc "text" = some (.str (S (textOf pre ++ opOf x ++ pre2))) ∧ σ.loc "plain" = some (.ref 3) ∧ σ.loc "script" = some (.raw (.ref a)) ∧ σ.cel "operators" = some 0 ∧ σ.cel "width" = some 1)
      (fun σ => ∃ ks, PlainSt σ.H ((behind x).foldl signStep pl1) ks ∧ ((behind x).foldl signStep pl1).length ≤ 6 * pre.length + 6 ∧ (∀ r ∈ (behind x).foldl signStep pl1, r.length ≤ 6 * pre.length + 6) ∧
        σ.loc "text" = some (.str (S (textOf pre ++ opOf x ++ behind x))) ∧ σ.loc "plain" = some (.ref 3) ∧ σ.loc "script" = some (.raw (.ref a)) ∧ σ.cel "operators" = some 0 ∧ σ.cel "width" = some 1) ok rfl ?_ (chars_clean _) ?_ ?_ ?_)
    · refine WE.callFn ok GL'.behind ?_
      repeat (walk_at "m")
      refine ⟨rfl, by exact ⟨trivial, trivial⟩, _, runs_behind G x, ?_⟩
      rintro pv rfl _
      exact ⟨items_str _, ks, P', by show pl1.length ≤ _; rw [hal]; simp; lia, fun r hr => by have := hrl r hr; simp; lia, by rw [List.append_nil]; rfl, e2, e3, e4, e5⟩
    · rintro pre2 k post2 σ he2 ⟨ks, P, hpl2, hpr2, e1, e2, e3, e4, e5⟩
      have hb2 : pre2.length < 4 := by
        have := congrArg List.length he2
        simp only [List.length_append, List.length_cons] at this
        lia
      have hb3 : pre2.length + 1 ≤ (behind x).length := by
        have := congrArg List.length he2
        simp only [List.length_append, List.length_cons] at this
        lia
      have hfold : (pre2 ++ [k]).foldl signStep pl1 = signStep (pre2.foldl signStep pl1) k := by simp
      generalize pre2.foldl signStep pl1 = pl2 at *
      repeat (walk_at "m")
      refine WO2.iaddN (by simp only [List.length_append, List.length_singleton]; lia) (thn_next ?_)
      refine WS.seq (WS.iteB (k == 10) ?_ (fun hb => ?_) (fun hb => ?_))
      · repeat (walk_at "m")
        refine WO2.eqC (b := 10) ?_
        repeat (walk_at "m")
        exact ⟨rfl, rfl⟩
      · have hk10 : signStep pl2 k = pl2 ++ [[]] := by unfold signStep; rw [if_pos (eq_of_beq hb)]
        refine WS.seq (WS.appendNew (i := 3) (xs := ks.map PV.ref) ok rfl e2 P.out (by rw [List.length_map, P.len]; lia) (thn_next (WS.nil (thn_next (WS.nil ?_)))))
        refine ⟨ks ++ [σ.H.length], ?_, ?_, ?_, by rw [← List.append_assoc]; rfl, e2, e3, e4, e5⟩
        · rw [hfold, hk10]; exact P.new
        · rw [hfold, hk10]; simp; lia
        · rw [hfold, hk10]
          intro r hr
          rcases List.mem_append.mp hr with h | h
          · have := hpr2 r h; simp; lia
          · rw [List.mem_singleton.mp h]; simp
      · have hk10 : signStep pl2 k = addLast pl2 (256 + k) := by unfold signStep; rw [if_neg (by simpa using hb)]
        obtain ⟨k1, r1, hk1, hr1, hr1', hkr1⟩ := P.last
        refine WS.seq (WS.expr (WE.methL PySem.F.slot_list_append ty_list_append (WE.sub (WE.name ok e2 (WE.neg1 ?_)))))
        refine WO2.itemEnd (xs := ks.map PV.ref) (x := .ref k1) (lstq_ref P.out) (by rw [List.getLast?_map, hk1]; rfl) (by rw [List.length_map, P.len]; lia) ?_
        refine ⟨lstq_isSome (lstq_ref hkr1), ?_⟩
        repeat (walk_at "m")
        refine WO.append (xs := nms r1) hkr1 (by rw [nms_len]; have := hpr2 r1 (List.mem_of_getLast? hr1); lia) (thn_next (WS.nil (thn_next (WS.nil ?_))))
        refine ⟨ks, ?_, ?_, ?_, by rw [← List.append_assoc]; rfl, e2, e3, e4, e5⟩
        · rw [hfold, hk10]; exact P.add hk1 hr1' (256 + k)
        · rw [hfold, hk10, addLast_len P.plne]; simp; lia
        · rw [hfold, hk10]
          intro r hr
          have := addLast_rows hpr2 (256 + k) r hr
          simp; lia
    · rintro σ ⟨ks, P, h1, h2, e⟩
      exact ⟨ks, P, by lia, fun r hr => by have := h2 r hr; lia, e⟩
    · rintro σ ⟨ks, P, h1, h2, e1, e2, e3, e4, e5⟩
      have hp : plainOf (pre ++ [x]) = (behind x).foldl signStep pl1 := by
        unfold plainOf; rw [List.foldl_append]; show plainStep (plainOf pre) x = _; unfold plainStep; rw [hPL]
      have ht : textOf (pre ++ [x]) = textOf pre ++ opOf x ++ behind x := by simp [textOf]
      refine thn_next (WS.nil (lp_next ?_))
      refine ⟨ks, by rw [hp]; exact P, by rw [hp, List.length_append, List.length_singleton]; lia, fun r hr => by rw [hp] at hr; have := h2 r hr; rw [List.length_append, List.length_singleton]; lia, by rw [ht]; exact e1, e2, e3, e4, e5⟩
  · rintro σ ⟨ks, P, hpl, hpr, e1, e2, e3, e4, e5⟩
    exact ⟨ks, P, e1, e2, e3, e4, e5⟩
  · rintro σ ⟨ks, P, e1, e2, e3, e4, e5⟩
    refine thn_next (WSn.seq (WS.assignCell (i := 1) ok (WE.bin ?_)))
    repeat (walk_at "m")
    refine WE.callB ok G.sum (by rfl) (by decide) ?_
    refine WA.cons_ (WE.comp1 (cl := []) ok rfl rfl (by decide) rfl (by decide) rfl (fun _ => none) (fun _ _ h => nomatch h) ?_)
    refine WE.sliceR (i := none) (j := some 4) (ms := ns.take 4) hL hI (by lia) ?_ ?_
    · show (ns.drop 0).take (min 4 ns.length - 0) = _
      rw [List.drop_zero, Nat.sub_zero]
      rw [List.take_eq_take_iff]; lia
    · refine WE.name ok e3 ⟨rfl, ?_⟩
      repeat (walk_at "m")
      refine ⟨rfl, rfl, ?_⟩
      refine ⟨_, ((ns.take 4).map fun (x : Int) => x.fmod 9).map .int, rfl, cleansI _, cleansI _, by simp, by simp; lia, (fun _ _ h => nomatch h), ?_, ?_⟩
      · intro C m i y z acc hy hz
        have okc := cxC_ok (c := cxL g A h₀ L f cdv s₀) (scope := { kind := .function, names := [(".0", .local), ("x", .local)], isGenerator := false, isCoroutine := false }) (cl := []) (C := C) (m := m) ok rfl
        rw [List.getElem?_map] at hy
        obtain ⟨kk, hkk, rfl⟩ := Option.map_eq_some_iff.mp hy
        have hz' : z = .int (kk.fmod 9) := by
          rw [List.map_map, List.getElem?_map, hkk] at hz
          cases hz; rfl
        subst hz'
        repeat (walk_at "m")
        exact ⟨rfl, rfl⟩
      · refine WA.nil_ ?_
        refine WO.sumI (ns := (ns.take 4).map fun (x : Int) => x.fmod 9) ok rfl ?_
        repeat (walk_at "m")
        have hw : (4 : Int) + (((ns.take 4).map fun (x : Int) => x.fmod 9).sum).fmod 9 = (widthOf ns : Int) := by
          have := Int.fmod_nonneg_of_pos (((ns.take 4).map fun (x : Int) => x.fmod 9).sum) (b := 9) (by decide)
          unfold widthOf; lia
        rw [hw]
        refine ⟨e5, ⟨_, P.c1⟩, thn_next ?_⟩
        have Pc : ∀ i : Nat, i ≠ 1 → (σ.H.set 1 (.cell (some (.int (widthOf ns : Int)))))[i]? = σ.H[i]? := fun i hi => List.getElem?_set_ne (fun e => hi e.symm)
        have hc0 : (σ.H.set 1 (.cell (some (.int (widthOf ns : Int)))))[0]? = some (.cell (some (.lst (sts OPS)))) := by rw [Pc 0 (by decide)]; exact P.c0
        have hc1 : (σ.H.set 1 (.cell (some (.int (widthOf ns : Int)))))[1]? = some (.cell (some (.int (widthOf ns : Int)))) := List.getElem?_set_self (List.getElem?_eq_some_iff.mp P.c1).1
        have hout : (σ.H.set 1 (.cell (some (.int (widthOf ns : Int)))))[3]? = some (.lst (ks.map PV.ref)) := by rw [Pc 3 (by decide)]; exact P.out
        have hinn : ∀ (j k : Nat) (r : List Nat), ks[j]? = some k → (plainOf (xsOf ns))[j]? = some r → (σ.H.set 1 (.cell (some (.int (widthOf ns : Int)))))[k]? = some (PO.lst (nms r)) := fun j k r h1 h2 => by
          have := (P.at_ k (List.mem_of_getElem? h1)).1
          rw [Pc k (by lia)]; exact P.inn j k r h1 h2
        have hklen := P.len
        generalize σ.H.set 1 (.cell (some (.int (widthOf ns : Int)))) = H1 at *
        have hE := ok'.enc1
        have hE2 := ok'.enc2
        have htl := ok'.tlen
        have hll := ok'.llen
        have hal := ok'.alen
        have hrow := ok'.rowOk
        have ht1 := ok'.told1
        have ht2 := ok'.told2
        have hp1 := ok'.plain
        have hr2 := ok'.read2
        have hr3 := ok'.read3
        have hd1 := ok'.dec1
        have hd2 := ok'.dec2
        have hd3 := ok'.dec3
        generalize textOf (xsOf ns) = text at *
        generalize widthOf ns = w at *
        have run1 := runs_encode (n := 58) G D text w hE.ne hE.len hE.sign hE.w4 hE.w1000 hE.ok hE.tlen hE.lin hE.cnt hE.sum
        have run2 := runs_encode (n := 58) G D (encBody w text) 400 hE2.ne hE2.len hE2.sign hE2.w4 hE2.w1000 hE2.ok hE2.tlen hE2.lin hE2.cnt hE2.sum
        generalize hlet : encBody w text = letter at *
        generalize hag : encBody 400 letter = again at *
        refine WSn.seq (WS.assign ok rfl (WE.callFn ok GL'.encode (WA.cons_ (WE.name ok e1 (WA.cons_ (WE.nameCell ok e5 hc1 (WA.nil_ ⟨rfl, ⟨trivial, trivial, trivial⟩, _, run1, ?_⟩)))))))
        rintro pv rfl _
        refine thn_next ?_
        refine WSn.seq (WS.assign ok rfl (WE.callFn ok GL'.encode ?_))
        repeat (walk_at "m")
        refine ⟨rfl, ⟨trivial, trivial, trivial⟩, _, run2, ?_⟩
        rintro pv rfl _
        refine thn_next (WSn.seq ?_)
        have hnl : ∀ l ∈ splitNL text, l.length < 500 := fun l hl => by have := (splitNL_facts text).2 l hl; lia
        have htk : ∀ l ∈ splitNL text, ∀ k ∈ l, k < 256 := fun l hl k hk => hE.sign k (((splitNL_facts text).2 l hl).2 k hk)
        refine comp2S (by decide) ok rfl rfl (by decide) rfl (by decide) rfl rfl (fun y => if y = "operators" then some 0 else if y = "width" then some 1 else none) ?_ (rowsOfPV w) (numsOfPV w) ?_
        · intro y i hy
          split at hy
          · rename_i h; subst h; exact ⟨_, rfl, rfl⟩
          · split at hy
            · rename_i h; subst h; exact ⟨_, rfl, rfl⟩
            · cases hy
        repeat (walk_at "m")
        refine WO.split rfl (by rw [S_len]; lia) ?_
        have hsp : Txt.split (S text) (Str.ofString "\n") = (splitNL text).map S := split_S text
        rw [hsp, ← sts_eq]
        refine ⟨sts (splitNL text), rfl, sts_clean _, ?_, ?_, ?_, ?_, ?_, ?_⟩
        · intro y hy
          obtain ⟨l, hl, rfl⟩ := List.mem_map.mp hy
          rw [rowsOfPV_S, numsOfPV_S]
          exact ⟨rowsP_clean _, nmss_clean _, by simp⟩
        · rw [told_flat, List.length_map]; exact ht1
        · intro y i hy
          show σ.cel y = _
          split at hy
          · rename_i h; subst h; rw [e4]; exact hy
          · split at hy
            · rename_i h; subst h; rw [e5]; exact hy
            · cases hy
        · intro C m y acc hy
          obtain ⟨l, hl, rfl⟩ := List.mem_map.mp hy
          have hh1 : (H1 ++ [PO.lst acc])[1]? = some (.cell (some (.int (w : Int)))) := by
            rw [List.getElem?_append_left (List.getElem?_eq_some_iff.mp hc1).1]; exact hc1
          have runR := runs_rows (n := 58) G l w (by have := hnl l hl; lia) (htk l hl) hE.w4 hE.w1000
          refine WE.callFn (n := 59) (cxC_ok ok rfl) GL'.rows (WA.cons_ (WE.name (cxC_ok ok rfl) rfl (WA.cons_ (WE.nameCell (i := 1) (cxC_ok ok rfl) rfl hh1 (WA.nil_ ⟨rfl, ⟨trivial, trivial, trivial⟩, _, runR, ?_⟩)))))
          rintro pv rfl _
          rw [rowsOfPV_S]
          exact ⟨rfl, rfl⟩
        · intro C m i y y2 z acc hy hy2 hz
          obtain ⟨l, hl, rfl⟩ := List.mem_map.mp hy
          have hh0 : (H1 ++ [PO.lst acc])[0]? = some (.cell (some (.lst (sts OPS)))) := by
            rw [List.getElem?_append_left (List.getElem?_eq_some_iff.mp hc0).1]; exact hc0
          rw [rowsOfPV_S, List.getElem?_map] at hy2
          obtain ⟨row, hrow1, rfl⟩ := Option.map_eq_some_iff.mp hy2
          rw [numsOfPV_S, nmss, List.map_map, List.getElem?_map, hrow1] at hz
          have hz' : z = .lst (nms (numL [] row)) := (Option.some.inj hz).symm
          subst hz'
          obtain ⟨hr14, hrp⟩ := hrow l hl row (List.mem_of_getElem? hrow1)
          have runN := runs_numbers (n := 37) G row hr14 hrp
          refine WE.callFn (n := 59) (cxC_ok ok rfl) GL'.numbers (WA.cons_ (WE.name (cxC_ok ok rfl) rfl (WA.cons_ (WE.nameCell (i := 0) (cxC_ok ok rfl) rfl hh0 (WA.nil_ ⟨rfl, ⟨sts_clean _, sts_clean _, trivial⟩, _, runN, ?_⟩)))))
          rintro pv rfl _
          exact ⟨rfl, rfl⟩
        · rw [told_flat]
          refine thn_next ?_
          have htold : toldOf text w = (splitNL text).flatMap fun line => (lawRows line w).map (numL []) := rfl
          rw [← htold]
          generalize toldOf text w = told at *
          refine WSn.seq (comp1S ok rfl rfl (by decide) rfl (by decide) rfl (fun y => if y = "operators" then some 0 else none) ?_ ?_)
          · intro y i hy
            split at hy
            · rename_i h; subst h; exact ⟨_, rfl, rfl⟩
            · cases hy
          refine WE.name ok rfl ⟨nmss told, nmss (told.map onceMore), rfl, nmss_clean _, nmss_clean _, by simp, by rw [List.length_map]; lia, ?_, ?_, ?_⟩
          · intro y i hy
            show σ.cel y = _
            split at hy
            · rename_i h; subst h; rw [e4]; exact hy
            · cases hy
          · intro C m i y z acc hy hz
            have hh0 : (H1 ++ [PO.lst acc])[0]? = some (.cell (some (.lst (sts OPS)))) := by
              rw [List.getElem?_append_left (List.getElem?_eq_some_iff.mp hc0).1]; exact hc0
            rw [List.getElem?_map] at hy
            obtain ⟨row, hrow1, rfl⟩ := Option.map_eq_some_iff.mp hy
            rw [nmss, List.map_map, List.getElem?_map, hrow1] at hz
            have hz' : z = .lst (nms (onceMore row)) := (Option.some.inj hz).symm
            subst hz'
            obtain ⟨hr14, hrp⟩ := ht2 row (List.mem_of_getElem? hrow1)
            have runO := runs_once (n := 59) G row hr14 hrp
            refine WE.callFn (n := 59) (cxC_ok ok rfl) GL'.once (WA.cons_ (WE.name (cxC_ok ok rfl) rfl (WA.cons_ (WE.nameCell (i := 0) (cxC_ok ok rfl) rfl hh0 (WA.nil_ ⟨rfl, ⟨nms_clean _, sts_clean _, trivial⟩, _, runO, ?_⟩)))))
            rintro pv rfl _
            exact ⟨rfl, rfl⟩
          · refine thn_next (WSn.last (WSn.ret ?_))
            have hreadcomp : True := trivial
            refine WEn.andn (WEn.of (WE.cmp ?_))
            refine WE.comp1 (cl := []) ok rfl rfl (by decide) rfl (by decide) rfl (fun _ => none) (fun _ _ h => nomatch h) ?_
            repeat (walk_at "m")
            refine WO.split rfl (by rw [S_len]; lia) ?_
            rw [hsp, ← sts_eq]
            refine ⟨sts (splitNL text), nmss ((splitNL text).map readL), rfl, sts_clean _, nmss_clean _, by simp, ?_, (fun _ _ h => nomatch h), ?_, ?_⟩
            · have := (splitNL_facts text).1; rw [List.length_map]; lia
            · intro C m i y z acc hy hz
              rw [List.getElem?_map] at hy
              obtain ⟨l, hl1, rfl⟩ := Option.map_eq_some_iff.mp hy
              rw [nmss, List.map_map, List.getElem?_map, hl1] at hz
              have hz' : z = .lst (nms (readL l)) := (Option.some.inj hz).symm
              subst hz'
              have hl500 := hnl l (List.mem_of_getElem? hl1)
              have runR := runs_read (n := 59) G l (by lia)
              refine WE.callFn (n := 59) (cxC_ok ok rfl) GL'.read (WA.cons_ (WE.name (cxC_ok ok rfl) rfl (WA.nil_ ⟨rfl, ⟨trivial, trivial⟩, _, runR, ?_⟩)))
              rintro pv rfl _
              exact ⟨rfl, rfl⟩
            rw [hp1]
            refine WE.name ok e2 (WO2.eqD (n := 56) ok (readsF _) (readsT (plainOf (xsOf ns)) hout hklen hinn) (shaped_rows _) (eqv_self _) ⟨rfl, ?_⟩)
            have rdcomp : ∀ (b : List Nat), b.length < 1000000 → ∀ l ∈ splitNL b, l.length < 1000001 := fun b hb l hl => by have := (splitNL_facts b).2 l hl; lia
            refine WEn.andn (WEn.of (WE.cmp ?_))
            refine WE.comp1 (cl := []) ok rfl rfl (by decide) rfl (by decide) rfl (fun _ => none) (fun _ _ h => nomatch h) ?_
            repeat (walk_at "m")
            refine WO.split rfl (by rw [S_len]; lia) ?_
            have hsp2 : Txt.split (S letter) (Str.ofString "\n") = (splitNL letter).map S := split_S letter
            rw [hsp2, ← sts_eq]
            refine ⟨sts (splitNL letter), nmss ((splitNL letter).map readL), rfl, sts_clean _, nmss_clean _, by simp, ?_, (fun _ _ h => nomatch h), ?_, ?_⟩
            · have := (splitNL_facts letter).1; rw [List.length_map]; lia
            · intro C m i y z acc hy hz
              rw [List.getElem?_map] at hy
              obtain ⟨l, hl1, rfl⟩ := Option.map_eq_some_iff.mp hy
              rw [nmss, List.map_map, List.getElem?_map, hl1] at hz
              have hz' : z = .lst (nms (readL l)) := (Option.some.inj hz).symm
              subst hz'
              have hl500 := rdcomp letter (by lia) l (List.mem_of_getElem? hl1)
              have runR := runs_read (n := 59) G l (by lia)
              refine WE.callFn (n := 59) (cxC_ok ok rfl) GL'.read (WA.cons_ (WE.name (cxC_ok ok rfl) rfl (WA.nil_ ⟨rfl, ⟨trivial, trivial⟩, _, runR, ?_⟩)))
              rintro pv rfl _
              exact ⟨rfl, rfl⟩
            rw [hr2]
            refine WE.name ok rfl (WO2.eqD (n := 56) ok (readsF _) (readsF _) (shaped_rows _) (eqv_self _) ⟨rfl, ?_⟩)
            refine WEn.andn (WEn.of (WE.cmp ?_))
            refine WE.comp1 (cl := []) ok rfl rfl (by decide) rfl (by decide) rfl (fun _ => none) (fun _ _ h => nomatch h) ?_
            repeat (walk_at "m")
            refine WO.split rfl (by rw [S_len]; lia) ?_
            have hsp3 : Txt.split (S again) (Str.ofString "\n") = (splitNL again).map S := split_S again
            rw [hsp3, ← sts_eq]
            refine ⟨sts (splitNL again), nmss ((splitNL again).map readL), rfl, sts_clean _, nmss_clean _, by simp, ?_, (fun _ _ h => nomatch h), ?_, ?_⟩
            · have := (splitNL_facts again).1; rw [List.length_map]; lia
            · intro C m i y z acc hy hz
              rw [List.getElem?_map] at hy
              obtain ⟨l, hl1, rfl⟩ := Option.map_eq_some_iff.mp hy
              rw [nmss, List.map_map, List.getElem?_map, hl1] at hz
              have hz' : z = .lst (nms (readL l)) := (Option.some.inj hz).symm
              subst hz'
              have hl500 := rdcomp again (by lia) l (List.mem_of_getElem? hl1)
              have runR := runs_read (n := 59) G l (by lia)
              refine WE.callFn (n := 59) (cxC_ok ok rfl) GL'.read (WA.cons_ (WE.name (cxC_ok ok rfl) rfl (WA.nil_ ⟨rfl, ⟨trivial, trivial⟩, _, runR, ?_⟩)))
              rintro pv rfl _
              exact ⟨rfl, rfl⟩
            rw [hr3]
            refine WE.name ok rfl (WO2.eqD (n := 56) ok (readsF _) (readsF _) (shaped_rows _) (eqv_self _) ⟨rfl, ?_⟩)
            obtain ⟨ds1, hds1, hg1, hl1, ho1⟩ := hd1.ds
            obtain ⟨ds2, hds2, hg2, hl2, ho2⟩ := hd2.ds
            obtain ⟨ds3, hds3, hg3, hl3, ho3⟩ := hd3.ds
            have runD1 := runs_decode (n := 58) G D letter ds1 hd1.ne hd1.len hds1 hg1 hl1
            have runD2 := runs_decode (n := 58) G D _ ds2 hd2.ne hd2.len hds2 hg2 hl2
            have runD3 := runs_decode (n := 58) G D again ds3 hd3.ne hd3.len hds3 hg3 hl3
            rw [ho1] at runD1
            rw [ho2] at runD2
            rw [ho3] at runD3
            refine WEn.andn (WEn.of (WE.cmp (WE.callFn ok GL'.decode (WA.cons_ (WE.name ok rfl (WA.nil_ ⟨rfl, ⟨trivial, trivial⟩, _, runD1, ?_⟩))))))
            rintro pv rfl _
            refine WE.name ok e1 (WO2.eqL ?_)
            refine ⟨by simp, ?_⟩
            refine WEn.andn (WEn.cmp (WEn.callFn1 ok GL'.decode (WEn.replace (by decide +kernel) (WE.name ok rfl ⟨_, rfl, ?_, ?_⟩))))
            · rw [S_len]
              have : (Str.ofString "\t \n").length = 3 := by decide +kernel
              rw [this]; lia
            · have hrep : Txt.replace (S letter) (Str.ofString "\n") (Str.ofString "\t \n") = S (joinL [9, 32, 10] (splitNL letter)) := replace_S letter [9, 32, 10]
              rw [hrep]
              refine ⟨trivial, _, runD2, ?_⟩
              rintro pv rfl _
              refine WE.name ok e1 (WO2.eqL ?_)
              refine ⟨by simp, ?_⟩
              refine WEn.one (WEn.of (WE.cmp (WE.callFn ok GL'.decode (WA.cons_ (WE.name ok rfl (WA.nil_ ⟨rfl, ⟨trivial, trivial⟩, _, runD3, ?_⟩))))))
              rintro pv rfl _
              refine WE.name ok rfl (WO2.eqL ?_)
              refine thn_ret ?_
              simp
end Mine
end
section
open PySem PySem.W PySem.Calls PyProof.Rows PySem.Spec
namespace Mine
-- reading a text by the operators
theorem ops_sign : ∀ o ∈ OPS, ∀ k ∈ o, OPS.contains [k] = true := by decide +kernel
theorem ops_lens : ∀ o ∈ OPS, 1 ≤ o.length ∧ o.length ≤ 3 := by decide +kernel
theorem not_op {q : List Nat} {c : Nat} (h : c ∈ q) (hc : OPS.contains [c] = false) : OPS.contains q = false := by
  cases hq : OPS.contains q with
  | false => rfl
  | true =>
    have := ops_sign q (List.contains_iff_mem.mp hq) c h
    rw [hc] at this; cases this
noncomputable def Hd (rest : List Nat) : Prop := ∀ c, rest.head? = some c → OPS.contains [c] = false
theorem hd_nil : Hd [] := by intro c h; cases h
theorem hd_cons {c : Nat} {r : List Nat} (h : OPS.contains [c] = false) : Hd (c :: r) := by intro d e; cases e; exact h
theorem szL_app (p rest : List Nat) (hp : p ≠ []) (hr : Hd rest) :
    (p ++ rest).take (szL (p ++ rest)) = p.take (szL p) ∧ (p ++ rest).drop (szL (p ++ rest)) = p.drop (szL p) ++ rest := by
  cases rest with
  | nil => simp
  | cons c r =>
    have hc := hr c rfl
    match p, hp with
    | [a], _ =>
      have h3 : OPS.contains (([a] ++ c :: r).take 3) = false := not_op (c := c) (by simp) hc
      have h2 : OPS.contains (([a] ++ c :: r).take 2) = false := not_op (c := c) (by simp) hc
      have h1 : szL ([a] ++ c :: r) = 1 := by unfold szL; rw [h3, h2]; rfl
      rw [h1]
      have hs := szL_pos [a]
      rw [List.take_of_length_le (l := [a]) (by simpa using hs), List.drop_of_length_le (l := [a]) (by simpa using hs)]
      simp
    | [a, b], _ =>
      have h3 : OPS.contains (([a, b] ++ c :: r).take 3) = false := not_op (c := c) (by simp) hc
      by_cases hab : OPS.contains [a, b] = true
      · have h1 : szL ([a, b] ++ c :: r) = 2 := by unfold szL; rw [h3, show ([a, b] ++ c :: r).take 2 = [a, b] from rfl, hab]; rfl
        have h2 : szL [a, b] = 3 := by unfold szL; rw [show [a, b].take 3 = [a, b] from rfl, hab]; rfl
        rw [h1, h2]; simp
      · have hab' : OPS.contains [a, b] = false := by simpa using hab
        have h1 : szL ([a, b] ++ c :: r) = 1 := by unfold szL; rw [h3, show ([a, b] ++ c :: r).take 2 = [a, b] from rfl, hab']; rfl
        have h2 : szL [a, b] = 1 := by unfold szL; rw [show [a, b].take 3 = [a, b] from rfl, show [a, b].take 2 = [a, b] from rfl, hab']; rfl
        rw [h1, h2]; simp
    | a :: b :: d :: p', _ =>
      have e : szL (a :: b :: d :: p' ++ c :: r) = szL (a :: b :: d :: p') := by unfold szL; rfl
      have hs : szL (a :: b :: d :: p') ≤ (a :: b :: d :: p').length := by
        unfold szL
        simp only [List.length_cons]
        split
        · lia
        · split <;> lia
      rw [e, List.take_append_of_le_length hs, List.drop_append_of_le_length hs]
      exact ⟨rfl, rfl⟩
theorem readL_app : ∀ (n : Nat) (p rest : List Nat), p.length ≤ n → Hd rest → readL (p ++ rest) = readL p ++ readL rest
  | _, [], _, _, _ => rfl
  | 0, _ :: _, _, h, _ => by simp at h
  | n + 1, a :: p, rest, h, hr => by
    have hz := szL_app (a :: p) rest (by simp) hr
    have hs := szL_pos (a :: p)
    rw [List.cons_append] at hz ⊢
    rw [readL_cons, readL_cons a p, hz.1, hz.2, readL_app n _ rest (by simp at h ⊢; lia) hr]
    rfl
theorem readL_ns {c : Nat} (r : List Nat) (hc : OPS.contains [c] = false) : readL (c :: r) = (256 + c) :: readL r := by
  have h3 : OPS.contains ((c :: r).take 3) = false := not_op (c := c) (by simp) hc
  have h2 : OPS.contains ((c :: r).take 2) = false := not_op (c := c) (by simp) hc
  have h1 : szL (c :: r) = 1 := by unfold szL; rw [h3, h2]; rfl
  rw [readL_cons, h1]
  show tok [c] c :: readL r = _
  unfold tok
  rw [hc]; rfl
theorem readL_op : ∀ i : Fin 48, readL (OPS.getD i.val []) = [7 + i.val] := by decide +kernel
theorem readL_opOf (x : Int) : readL (opOf x) = [7 + opIx x] := readL_op ⟨opIx x, opIx_lt x⟩
theorem opOf_mem (x : Int) : opOf x ∈ OPS := List.mem_of_getElem? (opOf_get x)
-- what stands behind an operator
theorem behindOf_facts (kind k : Nat) (hk : k < 256) : (behindOf kind k ≠ []) ∧ ∀ c ∈ behindOf kind k, c < 256 ∧ c ≠ 13 ∧ OPS.contains [c] = false := by
  have key : ∀ k : Fin 256, signs.contains k.val = false → k.val ≠ 13 ∧ OPS.contains [k.val] = false := by decide +kernel
  unfold behindOf
  split
  case h_8 =>
    split
    · refine ⟨by simp, ?_⟩
      intro c hc
      rw [List.mem_singleton] at hc
      subst hc
      exact ⟨by decide, by decide, by decide +kernel⟩
    · rename_i h
      refine ⟨by simp, ?_⟩
      intro c hc
      rw [List.mem_singleton] at hc
      subst hc
      exact ⟨hk, key ⟨c, hk⟩ (by simpa using h)⟩
  all_goals exact ⟨by simp, by decide +kernel⟩
theorem behind_facts (x : Int) : behind x ≠ [] ∧ ∀ c ∈ behind x, c < 256 ∧ c ≠ 13 ∧ OPS.contains [c] = false := by
  refine behindOf_facts _ _ ?_
  have h1 := Int.fmod_nonneg_of_pos (x.fdiv 384) (b := 256) (by decide)
  have h2 := Int.fmod_lt_of_pos (x.fdiv 384) (b := 256) (by decide)
  lia
theorem behind_hd (x : Int) (t : List Nat) : Hd (behind x ++ t) := by
  obtain ⟨h1, h2⟩ := behind_facts x
  intro c hc
  cases hb : behind x with
  | nil => exact absurd hb h1
  | cons a b =>
    rw [hb] at hc h2
    cases hc
    exact (h2 c (.head _)).2.2
-- the plain numbers
noncomputable def Rd (t : List Nat) : List (List Nat) := (splitNL t).map readL
noncomputable def merge (pl R : List (List Nat)) : List (List Nat) := pl.dropLast ++ (match R with
  | [] => []
  | r :: rs => (pl.getLastD [] ++ r) :: rs)
noncomputable def consH (k : Nat) : List (List Nat) → List (List Nat)
  | [] => []
  | r :: rs => (k :: r) :: rs
theorem Rd_ne (t : List Nat) : Rd t ≠ [] := by unfold Rd; simp [splitNL_ne]
theorem split_free (p t : List Nat) (hp : (10 : Nat) ∉ p) : ∀ q qs, splitNL t = q :: qs → splitNL (p ++ t) = (p ++ q) :: qs := by
  induction p with
  | nil => intro q qs h; exact h
  | cons c p ihp =>
    intro q qs h
    have h1 := ihp (fun hm => hp (.tail _ hm)) q qs h
    have hc : c ≠ 10 := fun e => hp (by rw [e]; exact .head _)
    rw [List.cons_append, splitNL, if_neg hc, h1]
    rfl
theorem Rd_nl (t : List Nat) : Rd (10 :: t) = [] :: Rd t := by unfold Rd; rw [splitNL, if_pos rfl]; rfl
theorem Rd_ns {c : Nat} (t : List Nat) (h10 : c ≠ 10) (hc : OPS.contains [c] = false) : Rd (c :: t) = consH (256 + c) (Rd t) := by
  unfold Rd
  cases h : splitNL t with
  | nil => exact absurd h (splitNL_ne t)
  | cons q qs =>
    have := split_free [c] t (by simpa using fun e => h10 e.symm) q qs h
    rw [List.singleton_append] at this
    rw [this]
    simp only [List.map_cons, consH, List.cons.injEq, and_true]
    rw [List.singleton_append, readL_ns q hc]
theorem split_head {t q : List Nat} {qs : List (List Nat)} (h : splitNL t = q :: qs) (ht : Hd t) : Hd q := by
  cases t with
  | nil => simp only [splitNL, List.cons.injEq] at h; rw [← h.1]; exact hd_nil
  | cons c r =>
    unfold splitNL at h
    split at h
    · simp only [List.cons.injEq] at h; rw [← h.1]; exact hd_nil
    · split at h
      · simp only [List.cons.injEq] at h; rw [← h.1]; exact hd_cons (ht c rfl)
      · simp only [List.cons.injEq] at h; rw [← h.1]; exact hd_cons (ht c rfl)
theorem nl_op : ∀ o ∈ OPS, (10 : Nat) ∉ o := by decide +kernel
theorem Rd_op (x : Int) (t : List Nat) (ht : Hd t) : Rd (opOf x ++ t) = consH (7 + opIx x) (Rd t) := by
  unfold Rd
  cases h : splitNL t with
  | nil => exact absurd h (splitNL_ne t)
  | cons q qs =>
    have hq := split_head h ht
    rw [split_free (opOf x) t (nl_op _ (opOf_mem x)) q qs h]
    simp only [List.map_cons, consH, List.cons.injEq, and_true]
    rw [readL_app _ _ _ (Nat.le_refl _) hq, readL_opOf]; rfl
theorem merge_add (pl : List (List Nat)) (k : Nat) (R : List (List Nat)) : merge (addLast pl k) R = merge pl (consH k R) := by
  unfold merge addLast
  cases R with
  | nil => simp [consH]
  | cons r rs => simp [consH]
theorem merge_nl {pl : List (List Nat)} (h : pl ≠ []) (R : List (List Nat)) (hR : R ≠ []) : merge (pl ++ [[]]) R = merge pl ([] :: R) := by
  unfold merge
  cases R with
  | nil => exact absurd rfl hR
  | cons r rs =>
    simp only [List.dropLast_concat, List.append_nil]
    have : pl = pl.dropLast ++ [pl.getLastD []] := by
      have := List.dropLast_concat_getLast h
      rw [List.getLastD_eq_getLast?, List.getLast?_eq_some_getLast h]
      exact this.symm
    have e : ((pl ++ [[]]).getLastD [] : List Nat) = [] := by simp [List.getLastD_eq_getLast?]
    rw [e, List.nil_append]
    conv => lhs; rw [this]
    simp
theorem signs_fold (t : List Nat) : ∀ (b : List Nat) (pl : List (List Nat)), pl ≠ [] → (∀ c ∈ b, OPS.contains [c] = false) → merge (b.foldl signStep pl) (Rd t) = merge pl (Rd (b ++ t)) ∧ b.foldl signStep pl ≠ []
  | [], pl, h, _ => ⟨rfl, h⟩
  | c :: b, pl, h, hb => by
    have ih := signs_fold t b (signStep pl c) (signStep_ne c) fun d hd => hb d (.tail _ hd)
    refine ⟨?_, ih.2⟩
    rw [List.foldl_cons, ih.1, List.cons_append]
    unfold signStep
    split
    · rename_i h10
      subst h10
      rw [Rd_nl, merge_nl h _ (Rd_ne _)]
    · rename_i h10
      rw [Rd_ns _ h10 (hb c (.head _)), merge_add]
theorem plain_fold (t : List Nat) : ∀ (xs : List Int) (pl : List (List Nat)), pl ≠ [] → merge (xs.foldl plainStep pl) (Rd t) = merge pl (Rd (textOf xs ++ t)) ∧ xs.foldl plainStep pl ≠ []
  | [], pl, h => ⟨rfl, h⟩
  | x :: xs, pl, h => by
    have hb := behind_facts x
    have hs := signs_fold (textOf xs ++ t) (behind x) (addLast pl (7 + opIx x)) (addLast_ne _ _) fun c hc => (hb.2 c hc).2.2
    have ih := plain_fold t xs (plainStep pl x) hs.2
    refine ⟨?_, ih.2⟩
    rw [List.foldl_cons, ih.1]
    unfold plainStep
    rw [hs.1, merge_add, ← Rd_op x _ (behind_hd x _)]
    unfold textOf
    simp only [List.flatMap_cons, List.append_assoc]
theorem plain_ok (xs : List Int) : (splitNL (textOf xs)).map readL = plainOf xs := by
  have h := (plain_fold [] xs [[]] (by simp)).1
  have hn := (plain_fold [] xs [[]] (by simp)).2
  rw [List.append_nil] at h
  have e1 : merge (plainOf xs) (Rd []) = plainOf xs := by
    have hn : plainOf xs ≠ [] := hn
    show (plainOf xs).dropLast ++ [(plainOf xs).getLastD [] ++ []] = plainOf xs
    rw [List.append_nil, List.getLastD_eq_getLast?, List.getLast?_eq_some_getLast hn]
    exact List.dropLast_concat_getLast hn
  have e2 : merge [[]] (Rd (textOf xs)) = Rd (textOf xs) := by
    unfold merge
    cases hr : Rd (textOf xs) with
    | nil => exact absurd hr (Rd_ne _)
    | cons r rs => simp
  unfold plainOf at e1
  rw [e1, e2] at h
  exact h.symm
end Mine
end
section
open PySem PySem.W PySem.Calls PyProof.Rows PySem.Spec
namespace Mine
theorem last_app {a b : List Nat} (h : b ≠ []) : (a ++ b).getLast? = b.getLast? := by
  rw [List.getLast?_append, List.getLast?_eq_some_getLast h]; rfl
-- the rows of a line: what the code cuts and what the law tells
noncomputable def enc (l : List Nat) : List Nat := l.flatMap piece
theorem enc_flat (l : List Nat) : (l.map piece).flatten = enc l := (List.flatMap_def ..).symm
theorem enc_nil : enc [] = [] := rfl
theorem enc_cons (k : Nat) (l : List Nat) : enc (k :: l) = piece k ++ enc l := by unfold enc; rw [List.flatMap_cons]
theorem enc_app (a b : List Nat) : enc (a ++ b) = enc a ++ enc b := by unfold enc; rw [List.flatMap_append]
theorem enc_len_ge (l : List Nat) : l.length ≤ (enc l).length := by
  induction l with
  | nil => simp [enc]
  | cons k l ih => rw [enc_cons, List.length_append]; have := (piece_len k).1; simp; lia
theorem enc_len_le (l : List Nat) : (enc l).length ≤ 3 * l.length := by
  induction l with
  | nil => simp [enc]
  | cons k l ih => rw [enc_cons, List.length_append]; have := (piece_len k).2; simp; lia
theorem piece_plain {k : Nat} (h : plainC k = true) : piece k = [k] := by unfold piece; rw [h]; rfl
theorem piece_esc {k : Nat} (h : plainC k = false) : piece k = esc k := by unfold piece; rw [h]; rfl
theorem plain_ne {k : Nat} (h : plainC k = true) : k ≠ 61 := by
  intro e; subst e; revert h; decide
theorem hexd_ne {a : Nat} (h : a < 16) : hexd a ≠ 61 ∧ hexd a ≠ 10 ∧ hexd a ≠ 13 ∧ hexd a ≠ 9 ∧ hexd a ≠ 32 ∧ okC (hexd a) := by
  unfold hexd okC
  split <;> lia
theorem esc_lt {k : Nat} (h : k < 256) : k / 16 < 16 ∧ k % 16 < 16 := by lia
/-- an = stands only at an escape's head -/
theorem enc_eq (l : List Nat) (hl : ∀ k ∈ l, k < 256) : ∀ i, (enc l)[i]? = some 61 → i + 3 ≤ (enc l).length := by
  induction l with
  | nil => intro i h; simp [enc] at h
  | cons k l ih =>
    intro i h
    rw [enc_cons] at h ⊢
    rw [List.length_append]
    by_cases hi : i < (piece k).length
    · rw [List.getElem?_append_left hi] at h
      cases hp : plainC k with
      | true =>
        rw [piece_plain hp] at h hi
        have : i = 0 := by simpa using hi
        subst this
        exact absurd (Option.some.inj h) (plain_ne hp)
      | false =>
        rw [piece_esc hp] at h hi ⊢
        have hk := esc_lt (hl k (.head _))
        match i, h, hi with
        | 0, _, _ => simp [esc]
        | 1, h, _ => exact absurd (Option.some.inj h) (hexd_ne hk.1).1
        | 2, h, _ => exact absurd (Option.some.inj h) (hexd_ne hk.2).1
        | i + 3, _, hi => exact absurd hi (by simp [esc])
    · rw [List.getElem?_append_right (by lia)] at h
      have := ih (fun k hk => hl k (.tail _ hk)) _ h
      lia
theorem fill_spec (w : Nat) : ∀ (l : List Nat) (a : Nat), a < w → ∃ (s r : List Nat), l = s ++ r ∧ fill w a (l.map piece) = (s.map piece, r.map piece) ∧ a + (enc s).length < w ∧ (∀ k r', r = k :: r' → w ≤ a + (enc s).length + (piece k).length)
  | [], a, ha => ⟨[], [], rfl, rfl, by simpa [enc] using ha, by intro k r' h; cases h⟩
  | k :: l, a, ha => by
    rw [List.map_cons, fill]
    split
    · rename_i h
      obtain ⟨s, r, e1, e2, e3, e4⟩ := fill_spec w l (a + (piece k).length) h
      refine ⟨k :: s, r, by rw [e1]; rfl, by rw [e2]; rfl, ?_, ?_⟩
      · rw [enc_cons, List.length_append]; lia
      · intro k' r' hr
        have := e4 k' r' hr
        rw [enc_cons, List.length_append]; lia
    · rename_i h
      refine ⟨[], k :: l, rfl, rfl, by simpa [enc] using ha, ?_⟩
      intro k' r' hr
      cases hr
      simp only [enc_nil, List.length_nil]; lia
theorem cutK_spec {w : Nat} (hw : 4 ≤ w) {s r : List Nat} {k : Nat} (hl : ∀ c ∈ s ++ k :: r, c < 256) (h1 : (enc s).length < w) (h2 : w ≤ (enc s).length + (piece k).length) : cutK w (enc (s ++ k :: r)) = (enc s).length := by
  have hs := enc_eq s fun c hc => hl c (List.mem_append_left _ hc)
  have left : ∀ i, i < (enc s).length → (enc (s ++ k :: r))[i]? = (enc s)[i]? := fun i hi => by rw [enc_app, List.getElem?_append_left hi]
  have n1 : ∀ i, i < (enc s).length → (enc s).length < i + 3 → (enc (s ++ k :: r))[i]? ≠ some 61 := by
    intro i hi h3 h
    rw [left i hi] at h
    have := hs i h; lia
  have at_ : plainC k = false → (enc (s ++ k :: r))[(enc s).length]? = some 61 := by
    intro h
    rw [enc_app, List.getElem?_append_right (Nat.le_refl _), Nat.sub_self, enc_cons, piece_esc h]; rfl
  unfold cutK
  cases hp : plainC k with
  | true =>
    rw [piece_plain hp] at h2
    have : (enc s).length = w - 1 := by simp at h2; lia
    rw [if_neg (n1 _ (by lia) (by lia)), if_neg (n1 _ (by lia) (by lia))]
    exact this.symm
  | false =>
    have hlen : (piece k).length = 3 := by rw [piece_esc hp]; rfl
    rw [hlen] at h2
    have h0 := at_ hp
    rcases (by lia : (enc s).length = w - 3 ∨ (enc s).length = w - 2 ∨ (enc s).length = w - 1) with h | h | h
    · rw [h] at h0; rw [if_pos h0]; exact h.symm
    · rw [if_neg (n1 _ (by lia) (by lia)), ← h, if_pos h0]
    · rw [if_neg (n1 _ (by lia) (by lia)), if_neg (n1 _ (by lia) (by lia))]
      exact h.symm
theorem encF_stop (w : Nat) (r : List Nat) (h : r.length ≤ w) : ∀ n, encF w n r = ([], r)
  | 0 => rfl
  | n + 1 => by rw [encF, if_neg (by lia)]
noncomputable abbrev soft (s : List Nat) : List (List Nat) := s.map piece ++ [[61]]
theorem cut_spec {w : Nat} (hw : 4 ≤ w) : ∀ (n : Nat) (l : List Nat), (∀ c ∈ l, c < 256) → l.length ≤ n → ∃ (segs : List (List Nat)) (rest : List Nat), cutF w n (l.map piece) = (segs.map soft, rest.map piece) ∧ l = segs.flatten ++ rest ∧ (l ≠ [] → rest ≠ []) ∧ (enc rest).length ≤ w ∧
    (∀ s ∈ segs, (enc s).length < w) ∧ segs.length ≤ n ∧ (∀ m, (enc l).length ≤ m → encF w m (enc l) = (segs.map (fun s => enc s ++ [61]), enc rest))
  | 0, l, _, hn => by
    have : l = [] := List.eq_nil_of_length_eq_zero (by lia)
    subst this
    refine ⟨[], [], rfl, rfl, fun h => absurd rfl h, by simp [enc], by simp, by simp, ?_⟩
    intro m _
    rw [enc_nil, encF_stop w [] (by simp)]; rfl
  | n + 1, l, hl, hn => by
    by_cases hlen : w < (enc l).length
    · obtain ⟨s, r, e1, e2, e3, e4⟩ := fill_spec w l 0 (by lia)
      rw [Nat.zero_add] at e3
      have hr : r ≠ [] := by
        intro h
        rw [h, List.append_nil] at e1
        rw [e1] at hlen; lia
      obtain ⟨k, r', rfl⟩ : ∃ k r', r = k :: r' := by
        cases r with
        | nil => exact absurd rfl hr
        | cons k r' => exact ⟨k, r', rfl⟩
      have e4 := e4 k r' rfl
      rw [Nat.zero_add] at e4
      have hs : s ≠ [] := by
        intro h
        subst h
        have := (piece_len k).2
        simp only [enc_nil, List.length_nil] at e4
        lia
      have hsl : 1 ≤ s.length := by cases s with | nil => exact absurd rfl hs | cons _ _ => simp
      have hl2 : ∀ c ∈ k :: r', c < 256 := fun c hc => hl c (by rw [e1]; exact List.mem_append_right _ hc)
      obtain ⟨segs, rest, f1, f2, f3, f4, f5, f6, f7⟩ := cut_spec hw n (k :: r') hl2 (by rw [e1, List.length_append] at hn; lia)
      refine ⟨s :: segs, rest, ?_, ?_, fun _ => f3 (by simp), f4, ?_, by simp; lia, ?_⟩
      · rw [cutF, if_pos (by rw [enc_flat]; exact hlen), e2]
        dsimp only; rw [f1]; rfl
      · rw [List.flatten_cons, List.append_assoc, ← f2]; exact e1
      · intro q hq
        rcases List.mem_cons.mp hq with rfl | h
        · exact e3
        · exact f5 q h
      · intro m hm
        cases m with
        | zero => lia
        | succ m =>
          have hc : cutK w (enc l) = (enc s).length := by
            rw [e1]; exact cutK_spec hw (by rw [← e1]; exact hl) e3 e4
          have hd : (enc l).drop (enc s).length = enc (k :: r') := by rw [e1, enc_app, List.drop_left]
          have ht : (enc l).take (enc s).length = enc s := by rw [e1, enc_app, List.take_left]
          have hlen2 : (enc l).length = (enc s).length + (enc (k :: r')).length := by rw [e1, enc_app, List.length_append]
          have hes := enc_len_ge s
          rw [encF, if_pos hlen, hc, hd, ht, f7 m (by lia)]
          rfl
    · refine ⟨[], l, ?_, rfl, fun h => h, by lia, by simp, by simp, ?_⟩
      · rw [cutF, if_neg (by rw [enc_flat]; exact hlen)]; rfl
      · intro m _
        rw [encF_stop w _ (by lia)]; rfl
-- splitting
theorem splitNL_free1 (p : List Nat) (h : (10 : Nat) ∉ p) : splitNL p = [p] := by
  have := split_free p [] h [] [] rfl
  simpa using this
theorem splitNL_cut : ∀ (a b : List Nat), splitNL (a ++ 10 :: b) = splitNL a ++ splitNL b
  | [], b => by simp [splitNL]
  | c :: a, b => by
    have ih := splitNL_cut a b
    rw [List.cons_append, splitNL, splitNL]
    split
    · rw [ih]; rfl
    · rw [ih]
      cases h : splitNL a with
      | nil => exact absurd h (splitNL_ne a)
      | cons q qs => rfl
theorem splitNL_items : ∀ items : List (List Nat), items ≠ [] → splitNL (joinL [10] items) = items.flatMap splitNL
  | [], h => absurd rfl h
  | [x], _ => by simp [joinL]
  | x :: y :: r, _ => by
    have ih := splitNL_items (y :: r) (by simp)
    show splitNL (x ++ [10] ++ joinL [10] (y :: r)) = _
    rw [List.append_assoc, List.singleton_append, splitNL_cut, ih]; rfl
theorem piece_ok {k : Nat} (h : k < 256) : ∀ c ∈ piece k, okC c ∧ c ≠ 10 := by
  intro c hc
  cases hp : plainC k with
  | true =>
    rw [piece_plain hp, List.mem_singleton] at hc
    subst hc
    unfold plainC at hp
    unfold okC
    simp at hp
    lia
  | false =>
    rw [piece_esc hp] at hc
    have hk := esc_lt h
    simp only [esc, List.mem_cons, List.not_mem_nil, or_false] at hc
    rcases hc with rfl | rfl | rfl
    · unfold okC; lia
    · exact ⟨(hexd_ne hk.1).2.2.2.2.2, (hexd_ne hk.1).2.1⟩
    · exact ⟨(hexd_ne hk.2).2.2.2.2.2, (hexd_ne hk.2).2.1⟩
theorem enc_ok {l : List Nat} (h : ∀ k ∈ l, k < 256) : ∀ c ∈ enc l, okC c ∧ c ≠ 10 := by
  intro c hc
  obtain ⟨k, hk, hck⟩ := List.mem_flatMap.mp hc
  exact piece_ok (h k hk) c hck
theorem enc_last {l : List Nat} {k : Nat} : enc (l ++ [k]) = enc l ++ piece k := by rw [enc_app, enc_cons, enc_nil, List.append_nil]
theorem ws_plain {k : Nat} (h : isWs k = true) : plainC k = true := by
  unfold isWs at h
  simp at h
  rcases h with h | h <;> subst h <;> decide
theorem piece_lastws {k : Nat} (h : k < 256) (hw : isWs k = false) : ∀ c, (piece k).getLast? = some c → isWs c = false := by
  intro c hc
  cases hp : plainC k with
  | true => rw [piece_plain hp] at hc; cases hc; exact hw
  | false =>
    rw [piece_esc hp] at hc
    have hk := hexd_ne (esc_lt h).2
    have : hexd (k % 16) = c := Option.some.inj hc
    subst this
    unfold isWs
    simp; lia
/-- the rows of one line, as the law tells them and as the code writes them -/
structure LineRows (w : Nat) (l : List Nat) (softs : List (List Nat)) (f tl : List Nat) : Prop where
  rows : lawRows l w = softs.map soft ++ [f.map piece ++ tl.map esc]
  line : l = softs.flatten ++ (f ++ tl)
  tail : tl = [] ∨ ∃ k, tl = [k] ∧ isWs k = true
  fin : tl = [] → ∀ k, f.getLast? = some k → isWs k = false
  wide : ∀ s ∈ softs, (enc s).length + 1 ≤ w
  wideF : (enc f).length + 3 * tl.length ≤ w
  count : softs.length ≤ l.length + 1
  codes : (encLine w (enc l)).flatMap splitNL = softs.map (fun s => enc s ++ [61]) ++ [enc f ++ (tl.map esc).flatten]
theorem line_rows {w : Nat} (hw : 4 ≤ w) (l : List Nat) (hl : ∀ k ∈ l, k < 256) : ∃ softs f tl, LineRows w l softs f tl := by
  obtain ⟨segs, rest, f1, f2, f3, f4, f5, f6, f7⟩ := cut_spec hw l.length l hl (Nat.le_refl _)
  have hseg : ∀ s ∈ segs, ∀ k ∈ s, k < 256 := fun s hs k hk => hl k (by rw [f2]; exact List.mem_append_left _ (List.mem_flatten.mpr ⟨s, hs, hk⟩))
  have hrest : ∀ k ∈ rest, k < 256 := fun k hk => hl k (by rw [f2]; exact List.mem_append_right _ hk)
  have codesS : (segs.map fun s => enc s ++ [61]).flatMap splitNL = segs.map fun s => enc s ++ [61] := by
    rw [List.flatMap_map]
    have : ∀ (segs : List (List Nat)), (∀ s ∈ segs, ∀ k ∈ s, k < 256) → (segs.flatMap fun s => splitNL (enc s ++ [61])) = segs.map fun s => enc s ++ [61] := by
      intro segs
      induction segs with
      | nil => intro _; rfl
      | cons s segs ih =>
        intro h
        rw [List.flatMap_cons, ih fun s hs => h s (.tail _ hs), splitNL_free1]
        · rfl
        · intro hm
          rcases List.mem_append.mp hm with hm | hm
          · exact (enc_ok (h s (.head _)) 10 hm).2 rfl
          · simp at hm
    exact this segs hseg
  have encL : encLine w (enc l) = (segs.map fun s => enc s ++ [61]) ++ [encTail w (enc rest)] := by
    unfold encLine
    rw [f7 _ (Nat.le_refl _)]
  have hlast : l.getLast? = rest.getLast? := by
    by_cases h : l = []
    · subst h
      have : rest = [] := by
        have := congrArg List.length f2
        simp at this
        exact List.eq_nil_of_length_eq_zero (by lia)
      rw [this]
    · rw [f2, last_app (f3 h)]
  have law : lawRows l w = lawTail (segs.map soft) (rest.map piece) (w - (enc rest).length) rest.getLast? := by
    unfold lawRows
    rw [f1]
    dsimp only
    rw [enc_flat, hlast]
  have noNL : (10 : Nat) ∉ enc rest := fun hm => (enc_ok hrest 10 hm).2 rfl
  rcases List.eq_nil_or_concat rest with hr | ⟨r0, k, hr⟩
  · subst hr
    refine ⟨segs, [], [], ?_, by simpa using f2, .inl rfl, (by intro _ k h; cases h), fun s hs => f5 s hs, by simp [enc], by lia, ?_⟩
    · rw [law]; rfl
    · rw [encL, List.flatMap_append, codesS]; rfl
  · rw [List.concat_eq_append] at hr
    subst hr
    have hg : (r0 ++ [k]).getLast? = some k := by simp
    rw [hg] at law
    have hr0 : ∀ k ∈ r0, k < 256 := fun c hc => hrest c (List.mem_append_left _ hc)
    have hk : k < 256 := hrest k (by simp)
    cases hws : isWs k with
    | false =>
      refine ⟨segs, r0 ++ [k], [], ?_, by simpa using f2, .inl rfl, ?_, fun s hs => f5 s hs, by simpa using f4, by lia, ?_⟩
      · rw [law]
        unfold lawTail
        simp [hws]
      · intro _ c hc
        rw [hg] at hc
        cases hc; exact hws
      · have : encTail w (enc (r0 ++ [k])) = enc (r0 ++ [k]) := by
          unfold encTail
          rw [enc_last]
          split
          · rename_i c hc
            rw [last_app (by intro e; have := (piece_len k).1; rw [e] at this; simp at this)] at hc
            rw [if_neg (by rw [piece_lastws hk hws c hc]; simp)]
          · rfl
        rw [encL, List.flatMap_append, codesS, this]
        simp [splitNL_free1 _ noNL]
    | true =>
      have hpl := ws_plain hws
      have hen : enc (r0 ++ [k]) = enc r0 ++ [k] := by rw [enc_last, piece_plain hpl]
      have hk10 : k ≠ 10 := by intro e; subst e; revert hws; decide
      have tailE : encTail w (enc (r0 ++ [k])) = if (enc r0).length + 1 + 2 ≤ w then enc r0 ++ esc k else if (enc r0).length + 1 + 1 = w then enc r0 ++ ([k] ++ [61, 10]) else enc r0 ++ ([61, 10] ++ esc k) := by
        unfold encTail
        rw [hen]
        simp [hws]
      rw [hen, List.length_append, List.length_singleton] at f4
      have n0 : (10 : Nat) ∉ enc r0 := fun hm => (enc_ok hr0 10 hm).2 rfl
      have he := esc_lt hk
      have nE : (10 : Nat) ∉ esc k := by
        intro hm
        simp only [esc, List.mem_cons, List.not_mem_nil, or_false] at hm
        rcases hm with h | h | h
        · lia
        · exact (hexd_ne he.1).2.1 h.symm
        · exact (hexd_ne he.2).2.1 h.symm
      rw [hen, List.length_append, List.length_singleton] at law
      by_cases c1 : 1 < w - ((enc r0).length + 1)
      · refine ⟨segs, r0, [k], ?_, by rw [f2], .inr ⟨k, rfl, hws⟩, by simp, fun s hs => f5 s hs, by simp; lia, by lia, ?_⟩
        · rw [law]
          unfold lawTail
          simp [hws, c1]
        · rw [encL, List.flatMap_append, codesS, tailE, if_pos (by lia), List.flatMap_cons, List.flatMap_nil, List.append_nil, splitNL_free1]
          · simp
          · intro hm
            rcases List.mem_append.mp hm with h | h
            · exact n0 h
            · exact nE h
      · by_cases c2 : w - ((enc r0).length + 1) = 1
        · refine ⟨segs ++ [r0 ++ [k]], [], [], ?_, by simpa using f2, .inl rfl, (by intro _ k h; cases h), ?_, by simp [enc], by simp; lia, ?_⟩
          · rw [law]
            unfold lawTail
            simp [hws, c2, soft]
          · intro s hs
            rcases List.mem_append.mp hs with h | h
            · exact f5 s h
            · rw [List.mem_singleton.mp h, hen, List.length_append, List.length_singleton]; lia
          · rw [encL, List.flatMap_append, codesS, tailE, if_neg (by lia), if_pos (by lia), List.flatMap_cons, List.flatMap_nil, List.append_nil]
            have : enc r0 ++ ([k] ++ [61, 10]) = (enc r0 ++ [k, 61]) ++ 10 :: [] := by simp
            rw [this, splitNL_cut, splitNL_free1]
            · simp [splitNL, enc, piece_plain hpl]
            · intro hm
              rcases List.mem_append.mp hm with h | h
              · exact n0 h
              · simp at h; lia
        · refine ⟨segs ++ [r0], [], [k], ?_, by simpa using f2, .inr ⟨k, rfl, hws⟩, by simp, ?_, by simp [enc]; lia, by simp; lia, ?_⟩
          · rw [law]
            unfold lawTail
            simp [hws, c1, c2, soft]
          · intro s hs
            rcases List.mem_append.mp hs with h | h
            · exact f5 s h
            · rw [List.mem_singleton.mp h]; lia
          · rw [encL, List.flatMap_append, codesS, tailE, if_neg (by lia), if_neg (by lia), List.flatMap_cons, List.flatMap_nil, List.append_nil]
            have : enc r0 ++ ([61, 10] ++ esc k) = (enc r0 ++ [61]) ++ 10 :: esc k := by simp
            rw [this, splitNL_cut, splitNL_free1, splitNL_free1 _ nE]
            · simp [enc]
            · intro hm
              rcases List.mem_append.mp hm with h | h
              · exact n0 h
              · simp at h
end Mine
end
section
open PySem PySem.W PySem.Calls PyProof.Rows PySem.Spec
namespace Mine
-- runs of operators' signs
noncomputable def Runs1 (t : List Nat) : Prop := ∀ q, q <:+: t → opSigns q → ∃ o ∈ OPS, q <:+: o
theorem Runs1.sub {a t : List Nat} (h : Runs1 t) (ha : a <:+: t) : Runs1 a := fun q hq hs => h q (hq.trans ha) hs
theorem infix_cut {q a b : List Nat} {c : Nat} (h : q <:+: a ++ c :: b) (hc : c ∉ q) : q <:+: a ∨ q <:+: b := by
  obtain ⟨s, t, e⟩ := h
  rcases List.append_eq_append_iff.mp e with ⟨a', h1, h2⟩ | ⟨b', h1, h2⟩
  · exact .inl ⟨s, a', h1.symm⟩
  · cases b' with
    | nil => rw [List.append_nil] at h1; exact .inl ⟨s, [], by rw [List.append_nil]; exact h1⟩
    | cons d b' =>
      have hd : c = d := by
        have := congrArg List.head? h2; simpa using this
      subst hd
      rw [show a ++ c :: b' = (a ++ [c]) ++ b' from by simp] at h1
      have hb : b = b' ++ t := by simpa using h2
      rcases List.append_eq_append_iff.mp h1 with ⟨a', k1, k2⟩ | ⟨c', k1, k2⟩
      · rcases List.eq_nil_or_concat a' with rfl | ⟨a2, d, rfl⟩
        · rw [List.nil_append] at k2
          exact .inr ⟨[], t, by rw [List.nil_append, k2]; exact hb.symm⟩
        · rw [List.concat_eq_append] at k1 k2
          have : d = c := by
            have h5 := congrArg List.getLast? k1
            simp [← List.append_assoc] at h5
            exact h5.symm
          subst this
          exact absurd (by rw [k2]; simp) hc
      · exact .inr ⟨c', t, by rw [← k2]; exact hb.symm⟩
theorem Runs1.join {a b : List Nat} {c : Nat} (ha : Runs1 a) (hb : Runs1 b) (hc : OPS.contains [c] = false) : Runs1 (a ++ c :: b) := by
  intro q hq hs
  have hcq : c ∉ q := fun h => by rw [hs c h] at hc; cases hc
  rcases infix_cut hq hcq with h | h
  · exact ha q h hs
  · exact hb q h hs
theorem runs_nil : Runs1 [] := by
  intro q hq _
  have : q = [] := by
    obtain ⟨s, t, e⟩ := hq
    simp at e; exact e.2.1
  subst this
  exact ⟨[40], by decide, [], [40], rfl⟩
theorem runs_signs {b t : List Nat} (hb : ∀ c ∈ b, OPS.contains [c] = false) (h : Runs1 t) : Runs1 (b ++ t) := by
  induction b with
  | nil => exact h
  | cons c b ih =>
    have := Runs1.join runs_nil (ih fun d hd => hb d (.tail _ hd)) (hb c (.head _))
    simpa using this
theorem runs_text : ∀ xs : List Int, Runs1 (textOf xs)
  | [] => runs_nil
  | x :: xs => by
    have ih := runs_text xs
    obtain ⟨h1, h2⟩ := behind_facts x
    show Runs1 ((opOf x ++ behind x) ++ textOf xs)
    cases hb : behind x with
    | nil => exact absurd hb h1
    | cons c b =>
      rw [hb] at h2
      rw [List.append_assoc, List.cons_append]
      refine Runs1.join (fun q hq _ => ⟨opOf x, opOf_mem x, hq⟩) (runs_signs (fun d hd => (h2 d (.tail _ hd)).2.2) ih) (h2 c (.head _)).2.2
theorem split_infix : ∀ (t : List Nat), ∀ l ∈ splitNL t, l <:+: t
  | [], l, h => by simp only [splitNL, List.mem_singleton] at h; subst h; exact ⟨[], [], rfl⟩
  | c :: r, l, h => by
    have up : ∀ l, l <:+: r → l <:+: c :: r := fun l h => h.trans (List.suffix_cons c r).isInfix
    have ih := split_infix r
    have pre : ∀ (t q : List Nat) (qs : List (List Nat)), splitNL t = q :: qs → q <+: t := by
      intro t
      induction t with
      | nil => intro q qs h; simp only [splitNL, List.cons.injEq] at h; rw [← h.1]; exact ⟨[], rfl⟩
      | cons d t iht =>
        intro q qs h
        unfold splitNL at h
        split at h
        · simp only [List.cons.injEq] at h; rw [← h.1]; exact ⟨d :: t, rfl⟩
        · split at h
          · rename_i h2; exact absurd h2 (splitNL_ne t)
          · rename_i q2 qs2 h2
            simp only [List.cons.injEq] at h
            obtain ⟨u, hu⟩ := iht q2 qs2 h2
            rw [← h.1]
            exact ⟨u, by rw [List.cons_append, hu]⟩
    unfold splitNL at h
    split at h
    · rcases List.mem_cons.mp h with rfl | h
      · exact ⟨[], c :: r, rfl⟩
      · exact up l (ih l h)
    · split at h
      · rename_i h2; exact absurd h2 (splitNL_ne r)
      · rename_i q qs h2
        rcases List.mem_cons.mp h with rfl | h
        · obtain ⟨u, hu⟩ := pre r q qs h2
          exact ⟨[], u, by rw [List.nil_append, List.cons_append, hu]⟩
        · exact up l (ih l (by rw [h2]; exact .tail _ h))
-- parts of operators
theorem part_table : ∀ o ∈ OPS, ∀ i : Fin 4, ∀ j : Fin 4, ((o.drop i.val).take j.val).contains 61 = false →
    readL ((o.drop i.val).take j.val) = partL ((o.drop i.val).take j.val) ∧ readL ((o.drop i.val).take j.val ++ [61]) = partL ((o.drop i.val).take j.val ++ [61]) ∧
    onceMore (partL ((o.drop i.val).take j.val)) = partL ((o.drop i.val).take j.val) ∧ onceMore (partL ((o.drop i.val).take j.val ++ [61])) = partL ((o.drop i.val).take j.val ++ [61]) ++ [307, 324] := by decide +kernel
structure PartOk (q : List Nat) : Prop where
  read : readL q = partL q
  readE : readL (q ++ [61]) = partL (q ++ [61])
  more : onceMore (partL q) = partL q
  moreE : onceMore (partL (q ++ [61])) = partL (q ++ [61]) ++ [307, 324]
theorem part_ok {q : List Nat} (h : ∃ o ∈ OPS, q <:+: o) (h61 : (61 : Nat) ∉ q) : PartOk q := by
  obtain ⟨o, ho, s, t, e⟩ := h
  have hl := (ops_lens o ho).2
  have hlen := congrArg List.length e
  simp only [List.length_append] at hlen
  have hq : (o.drop s.length).take q.length = q := by rw [← e, List.append_assoc, List.drop_left, List.take_left]
  have := part_table o ho ⟨s.length, by lia⟩ ⟨q.length, by lia⟩
  dsimp only at this
  rw [hq] at this
  obtain ⟨h1, h2, h3, h4⟩ := this (by simpa using h61)
  exact ⟨h1, h2, h3, h4⟩
-- reading a row
theorem onceMore_app (a b : List Nat) : onceMore (a ++ b) = onceMore a ++ onceMore b := by unfold onceMore; rw [List.flatMap_append]
theorem onceMore_big {k : Nat} (h : 256 ≤ k) (r : List Nat) : onceMore (k :: r) = k :: onceMore r := by
  unfold onceMore
  rw [List.flatMap_cons, if_neg (by lia)]; rfl
theorem hex_facts {a : Nat} (h : a < 16) : OPS.contains [hexd a] = false ∧ plainC (hexd a) = true := by
  have : ∀ a : Fin 16, OPS.contains [hexd a.val] = false ∧ plainC (hexd a.val) = true := by decide +kernel
  exact this ⟨a, h⟩
theorem sign_plain {k : Nat} (h : OPS.contains [k] = true) (h61 : k ≠ 61) : plainC k = true := by
  have : ∀ o ∈ OPS, ∀ k ∈ o, k ≠ 61 → plainC k = true := by decide +kernel
  exact this [k] (List.contains_iff_mem.mp h) k (.head _) h61
theorem esc_no_op {k : Nat} (h : k < 256) : OPS.contains (esc k) = false := not_op (c := hexd (k / 16)) (by simp [esc]) (hex_facts (esc_lt h).1).1
theorem eq_op : OPS.contains [61] = true := by decide +kernel
theorem numL_esc {k : Nat} (h : k < 256) (part : List Nat) (ps : List (List Nat)) : numL part (esc k :: ps) = partL (part ++ [61]) ++ ((256 + hexd (k / 16)) :: (256 + hexd (k % 16)) :: numL [] ps) := by
  rw [numL, if_neg (by rw [esc_no_op h]; simp), if_pos (show (esc k).head? = some 61 from rfl)]
  simp [esc]
theorem numL_soft (part : List Nat) (ps : List (List Nat)) : numL part ([61] :: ps) = partL (part ++ [61]) ++ numL [] ps := by
  rw [numL, if_neg (by simp), if_pos (show [61].head? = some 61 from rfl)]
  simp
theorem numL_sign {k : Nat} (h : OPS.contains [k] = true) (h61 : k ≠ 61) (part : List Nat) (ps : List (List Nat)) : numL part ([k] :: ps) = numL (part ++ [k]) ps := by
  rw [numL, if_pos ⟨h, by simpa using h61⟩]
theorem numL_other {k : Nat} (h : OPS.contains [k] = false) (part : List Nat) (ps : List (List Nat)) : numL part ([k] :: ps) = partL part ++ ((256 + k) :: numL [] ps) := by
  have h61 : k ≠ 61 := by intro e; subst e; rw [eq_op] at h; cases h
  rw [numL, if_neg (by rw [h]; simp), if_neg (by simpa using h61)]
  simp
theorem partL_nil : partL [] = [] := rfl
theorem enc_hex2 {k : Nat} (h : k < 256) (X : List Nat) : enc (hexd (k / 16) :: hexd (k % 16) :: X) = hexd (k / 16) :: hexd (k % 16) :: enc X := by
  have hk := esc_lt h
  rw [enc_cons, enc_cons, piece_plain (hex_facts hk.1).2, piece_plain (hex_facts hk.2).2]; rfl
theorem enc_61 (X : List Nat) : enc (61 :: X) = 61 :: 51 :: 68 :: enc X := by
  rw [enc_cons, piece_esc (by decide)]; rfl
theorem hd_hex {a : Nat} (h : a < 16) (X : List Nat) : Hd (hexd a :: X) := hd_cons (hex_facts h).1
theorem read_esc {k : Nat} (h : k < 256) (part X : List Nat) : readL (part ++ (61 :: hexd (k / 16) :: hexd (k % 16) :: X)) = readL (part ++ [61]) ++ ((256 + hexd (k / 16)) :: (256 + hexd (k % 16)) :: readL X) := by
  have hk := esc_lt h
  rw [show part ++ (61 :: hexd (k / 16) :: hexd (k % 16) :: X) = (part ++ [61]) ++ (hexd (k / 16) :: hexd (k % 16) :: X) from by simp]
  rw [readL_app _ _ _ (Nat.le_refl _) (hd_hex hk.1 _), readL_ns _ (hex_facts hk.1).1, readL_ns _ (hex_facts hk.2).1]
theorem read_3D (part X : List Nat) : readL (part ++ (61 :: 51 :: 68 :: X)) = readL (part ++ [61]) ++ (307 :: 324 :: readL X) := read_esc (k := 61) (by decide) part X
theorem row_read (tl : List (List Nat)) (htl : tl = [] ∨ tl = [[61]] ∨ ∃ k, k < 256 ∧ tl = [esc k]) : ∀ (seg part : List Nat), (∀ k ∈ seg, k < 256) → opSigns part → (61 : Nat) ∉ part → Runs1 (part ++ seg) →
    readL (part ++ (enc seg ++ tl.flatten)) = numL part (seg.map piece ++ tl) ∧ readL (part ++ enc (enc seg ++ tl.flatten)) = onceMore (numL part (seg.map piece ++ tl)) := by
  intro seg
  induction seg with
  | nil =>
    intro part _ hs h61 hr
    have P := part_ok (hr part ⟨[], [], by simp⟩ hs) h61
    rcases htl with rfl | rfl | ⟨k, hk, rfl⟩
    · simp only [enc_nil, List.map_nil, List.flatten_nil, List.append_nil]
      rw [numL, P.read, P.more]; exact ⟨rfl, rfl⟩
    · simp only [enc_nil, List.map_nil, List.flatten_cons, List.flatten_nil, List.append_nil, List.nil_append]
      rw [numL_soft, numL, partL_nil, List.append_nil, P.readE, P.moreE, enc_61, enc_nil, read_3D, P.readE, readL_nil]; exact ⟨rfl, rfl⟩
    · simp only [enc_nil, List.map_nil, List.flatten_cons, List.flatten_nil, List.append_nil, List.nil_append]
      have e : esc k = 61 :: hexd (k / 16) :: hexd (k % 16) :: [] := rfl
      have h0 := numL_esc hk part []
      rw [numL, partL_nil] at h0
      rw [h0, e, read_esc hk, P.readE, enc_61, enc_hex2 hk, read_3D, P.readE, onceMore_app, P.moreE, onceMore_big (by lia), onceMore_big (by lia), readL_ns _ (hex_facts (esc_lt hk).1).1, readL_ns _ (hex_facts (esc_lt hk).2).1]
      simp [readL_nil, enc_nil, onceMore]
  | cons k seg ih =>
    intro part hb hs h61 hr
    have hk := hb k (.head _)
    have P := part_ok (hr part ⟨[], k :: seg, by simp⟩ hs) h61
    have ih0 := ih [] (fun c hc => hb c (.tail _ hc)) (fun c hc => (by cases hc)) (by simp) (hr.sub ⟨part ++ [k], [], by simp⟩)
    simp only [List.nil_append] at ih0
    rw [List.map_cons, List.cons_append]
    cases hp : plainC k with
    | true =>
      rw [enc_cons, piece_plain hp]
      have e2 : enc ([k] ++ enc seg ++ tl.flatten) = k :: enc (enc seg ++ tl.flatten) := by
        rw [List.append_assoc, List.singleton_append, enc_cons, piece_plain hp]; rfl
      rw [e2, List.append_assoc, List.singleton_append]
      cases ho : OPS.contains [k] with
      | true =>
        have hk61 := plain_ne hp
        have ih1 := ih (part ++ [k]) (fun c hc => hb c (.tail _ hc)) (by
          intro c hc
          rcases List.mem_append.mp hc with h | h
          · exact hs c h
          · rw [List.mem_singleton.mp h]; exact ho) (by
          intro hc
          rcases List.mem_append.mp hc with h | h
          · exact h61 h
          · exact hk61 (List.mem_singleton.mp h).symm) (by simpa using hr)
        rw [numL_sign ho hk61]
        simpa using ih1
      | false =>
        rw [numL_other ho, readL_app _ _ _ (Nat.le_refl _) (hd_cons ho), readL_app _ _ _ (Nat.le_refl _) (hd_cons ho), readL_ns _ ho, readL_ns _ ho, ih0.1, ih0.2, P.read, onceMore_app, P.more, onceMore_big (by lia)]
        exact ⟨rfl, rfl⟩
    | false =>
      rw [enc_cons, piece_esc hp, numL_esc hk]
      have e1 : esc k ++ enc seg ++ tl.flatten = 61 :: hexd (k / 16) :: hexd (k % 16) :: (enc seg ++ tl.flatten) := rfl
      rw [e1, enc_61, enc_hex2 hk, read_esc hk, read_3D, readL_ns _ (hex_facts (esc_lt hk).1).1, readL_ns _ (hex_facts (esc_lt hk).2).1, ih0.1, ih0.2, P.readE, onceMore_app, P.moreE, onceMore_big (by lia), onceMore_big (by lia)]
      simp
end Mine
end
section
open PySem PySem.W PySem.Calls PyProof.Rows PySem.Spec
namespace Mine
-- joining
theorem joinL_concat (sep : List Nat) : ∀ (init : List (List Nat)) (z : List Nat), joinL sep (init ++ [z]) = init.flatMap (fun r => r ++ sep) ++ z
  | [], z => rfl
  | x :: init, z => by
    have ih := joinL_concat sep init z
    rw [List.cons_append, List.flatMap_cons, List.append_assoc, ← ih]
    cases h : init ++ [z] with
    | nil => simp at h
    | cons y r => rfl
theorem joinL_nl {rows : List (List Nat)} (h : rows ≠ []) : rows.flatMap (fun r => r ++ [10]) = joinL [10] rows ++ [10] := by
  rcases List.eq_nil_or_concat rows with rfl | ⟨init, z, rfl⟩
  · exact absurd rfl h
  · rw [List.concat_eq_append, joinL_concat]
    simp
theorem joinL_mem {rows : List (List Nat)} {c : Nat} (h : c ∈ joinL [10] rows) : c = 10 ∨ ∃ r ∈ rows, c ∈ r := by
  by_cases hr : rows = []
  · subst hr; cases h
  · have : c ∈ rows.flatMap (fun r => r ++ [10]) := by rw [joinL_nl hr]; exact List.mem_append_left _ h
    obtain ⟨r, h1, h2⟩ := List.mem_flatMap.mp this
    rcases List.mem_append.mp h2 with h3 | h3
    · exact .inr ⟨r, h1, h3⟩
    · exact .inl (List.mem_singleton.mp h3)
theorem joinL_len (sep : List Nat) (N : Nat) : ∀ (rows : List (List Nat)), (∀ r ∈ rows, r.length ≤ N) → (joinL sep rows).length ≤ rows.length * (N + sep.length)
  | [], _ => by simp [joinL]
  | [x], h => by have := h x (.head _); simp [joinL]; lia
  | x :: y :: r, h => by
    have ih := joinL_len sep N (y :: r) fun q hq => h q (.tail _ hq)
    have := h x (.head _)
    show (x ++ sep ++ joinL sep (y :: r)).length ≤ _
    rw [List.length_cons, Nat.add_mul, Nat.one_mul, List.length_append, List.length_append]
    lia
theorem joinL_sum (sep : List Nat) : ∀ (rows : List (List Nat)), (rows.map (·.length)).sum ≤ (joinL sep rows).length
  | [] => by simp
  | [x] => by simp [joinL]
  | x :: y :: r => by
    have ih := joinL_sum sep (y :: r)
    show _ ≤ (x ++ sep ++ joinL sep (y :: r)).length
    rw [List.map_cons, List.sum_cons, List.length_append, List.length_append]
    lia
-- the letter's rows
theorem bmapF_nl : bmapF 10 = [10] := rfl
theorem bmapF_other {k : Nat} (h : k ≠ 10) (h' : k ≠ 13) : bmapF k = piece k := by unfold bmapF; rw [if_neg (by lia)]
theorem splitNL_bmap : ∀ (t : List Nat), (∀ k ∈ t, k < 256 ∧ k ≠ 13) → splitNL (t.flatMap bmapF) = (splitNL t).map enc
  | [], _ => rfl
  | k :: t, h => by
    have ih := splitNL_bmap t fun c hc => h c (.tail _ hc)
    obtain ⟨h1, h2⟩ := h k (.head _)
    rw [List.flatMap_cons]
    by_cases h10 : k = 10
    · subst h10
      rw [bmapF_nl, List.singleton_append, splitNL, if_pos rfl, ih, splitNL, if_pos rfl]; rfl
    · rw [bmapF_other h10 h2]
      cases hs : splitNL t with
      | nil => exact absurd hs (splitNL_ne t)
      | cons q qs =>
        rw [hs] at ih
        rw [split_free _ _ (fun hm => (piece_ok h1 10 hm).2 rfl) _ _ ih]
        rw [splitNL, if_neg h10, hs]
        simp only [List.map_cons, enc_cons]
theorem splitNL_lastnil {t : List Nat} (h : t ≠ []) : (splitNL t).getLast? = some [] ↔ t.getLast? = some 10 := by
  have hj := splitNL_join t
  have hf := splitNL_free t
  rcases List.eq_nil_or_concat (splitNL t) with hr | ⟨init, z, hr⟩
  · exact absurd hr (splitNL_ne t)
  · rw [List.concat_eq_append] at hr
    rw [hr] at hj hf ⊢
    rw [joinL_concat] at hj
    rw [List.getLast?_concat, ← hj]
    constructor
    · intro hz
      cases hz
      rcases List.eq_nil_or_concat init with rfl | ⟨i2, y, rfl⟩
      · exact absurd (by rw [← hj]; rfl) h
      · simp
    · intro hl
      cases z with
      | nil => rfl
      | cons a b =>
        rw [last_app (by simp)] at hl
        exact absurd (List.mem_of_getLast? hl) (hf _ (by simp))
theorem linesL_eq (t : List Nat) : linesL t = if (splitNL t).getLast? = some [] then (splitNL t).dropLast else splitNL t := by
  have := lines_join (splitNL t) (splitNL_free t)
  rw [splitNL_join] at this
  exact this
theorem encLine_nil (w : Nat) : encLine w [] = [[]] := rfl
theorem items_eq (w : Nat) {tb : List Nat} (h : tb ≠ []) : encItems w tb = (splitNL tb).flatMap (encLine w) := by
  unfold encItems
  rw [linesL_eq]
  have hi := splitNL_lastnil h
  by_cases hl : tb.getLast? = some 10
  · rw [if_pos (hi.mpr hl), if_pos hl]
    rcases List.eq_nil_or_concat (splitNL tb) with hr | ⟨init, z, hr⟩
    · exact absurd hr (splitNL_ne tb)
    · rw [List.concat_eq_append] at hr
      have hz := hi.mpr hl
      rw [hr, List.getLast?_concat] at hz
      cases hz
      rw [hr, List.dropLast_concat, List.flatMap_append]
      rfl
  · rw [if_neg (fun e => hl (hi.mp e)), if_neg hl, List.append_nil]
noncomputable abbrev codeRows (w : Nat) (l : List Nat) : List (List Nat) := (lawRows l w).map List.flatten
theorem LineRows.flat {w : Nat} {l : List Nat} {softs : List (List Nat)} {f tl : List Nat} (L : LineRows w l softs f tl) : codeRows w l = softs.map (fun s => enc s ++ [61]) ++ [enc f ++ (tl.map esc).flatten] := by
  unfold codeRows
  rw [L.rows, List.map_append, List.map_map]
  congr 1
  · refine List.map_congr_left fun s _ => ?_
    show (s.map piece ++ [[61]]).flatten = _
    rw [List.flatten_append, enc_flat]; rfl
  · rw [List.map_singleton, List.flatten_append, enc_flat]
theorem split_mem {t l : List Nat} (h : l ∈ splitNL t) : ∀ k ∈ l, k ∈ t ∧ k ≠ 10 := fun k hk => ⟨((splitNL_facts t).2 l h).2 k hk, fun e => splitNL_free t l h (by rw [← e]; exact hk)⟩
theorem bmap_ne {t : List Nat} (h : t ≠ []) : t.flatMap bmapF ≠ [] := by
  cases t with
  | nil => exact absurd rfl h
  | cons k t =>
    rw [List.flatMap_cons]
    unfold bmapF
    have := (piece_len k).1
    split
    · simp
    · intro e
      have h2 := (List.append_eq_nil_iff.mp e).1
      rw [h2] at this; simp at this
theorem encItems_ne (w : Nat) {tb : List Nat} (h : tb ≠ []) : encItems w tb ≠ [] := by
  rw [items_eq w h]
  cases hs : splitNL tb with
  | nil => exact absurd hs (splitNL_ne tb)
  | cons q qs => rw [List.flatMap_cons]; unfold encLine; simp
theorem letter_rows {w : Nat} (hw : 4 ≤ w) {t : List Nat} (ht : ∀ k ∈ t, k < 256 ∧ k ≠ 13) (hne : t ≠ []) : splitNL (encBody w t) = (splitNL t).flatMap (codeRows w) := by
  unfold encBody
  have hb := bmap_ne hne
  rw [splitNL_items _ (encItems_ne w hb), items_eq w hb, splitNL_bmap t ht, List.flatMap_assoc, List.flatMap_map]
  have : ∀ ls : List (List Nat), (∀ l ∈ ls, ∀ k ∈ l, k < 256) → (ls.flatMap fun l => (encLine w (enc l)).flatMap splitNL) = ls.flatMap (codeRows w) := by
    intro ls
    induction ls with
    | nil => intro _; rfl
    | cons l ls ih =>
      intro h
      rw [List.flatMap_cons, List.flatMap_cons, ih fun q hq => h q (.tail _ hq)]
      obtain ⟨softs, f, tl, L⟩ := line_rows hw l (h l (.head _))
      rw [L.codes, L.flat]
  exact this _ fun l hl k hk => (ht k (split_mem hl k hk).1).1
/-- what holds of each row of the letter -/
structure RowOk (w : Nat) (r : List Nat) : Prop where
  ok : ∀ c ∈ r, okC c ∧ c ≠ 10
  len : r.length ≤ w
  last : ∀ c, r.getLast? = some c → isWs c = false
theorem last_esc {k : Nat} (h : k < 256) (a : List Nat) : ∀ c, (a ++ esc k).getLast? = some c → isWs c = false := by
  intro c hc
  rw [last_app (by simp [esc])] at hc
  have hk := hexd_ne (esc_lt h).2
  have : hexd (k % 16) = c := Option.some.inj hc
  subst this
  unfold isWs
  simp; lia
theorem esc_ok {k : Nat} (h : k < 256) : ∀ c ∈ esc k, okC c ∧ c ≠ 10 := by
  intro c hc
  have he := esc_lt h
  simp only [esc, List.mem_cons, List.not_mem_nil, or_false] at hc
  rcases hc with rfl | rfl | rfl
  · unfold okC; lia
  · exact ⟨(hexd_ne he.1).2.2.2.2.2, (hexd_ne he.1).2.1⟩
  · exact ⟨(hexd_ne he.2).2.2.2.2.2, (hexd_ne he.2).2.1⟩
theorem enc_lastws {l : List Nat} (hl : ∀ k ∈ l, k < 256) (h : ∀ k, l.getLast? = some k → isWs k = false) : ∀ c, (enc l).getLast? = some c → isWs c = false := by
  intro c hc
  rcases List.eq_nil_or_concat l with rfl | ⟨init, z, rfl⟩
  · cases hc
  · rw [List.concat_eq_append] at hl h hc
    rw [enc_last, last_app (by intro e; have := (piece_len z).1; rw [e] at this; simp at this)] at hc
    exact piece_lastws (hl z (by simp)) (h z (by simp)) c hc
theorem LineRows.seg {w : Nat} {l : List Nat} {softs : List (List Nat)} {f tl : List Nat} (L : LineRows w l softs f tl) (hl : ∀ k ∈ l, k < 256) : (∀ s ∈ softs, s <:+: l ∧ ∀ k ∈ s, k < 256) ∧ (f <:+: l ∧ ∀ k ∈ f, k < 256) ∧ ∀ k ∈ tl, k < 256 := by
  have hs : ∀ s ∈ softs, s <:+: l := by
    intro s hs
    obtain ⟨a, b, hab⟩ := List.append_of_mem hs
    refine ⟨a.flatten, b.flatten ++ (f ++ tl), ?_⟩
    rw [L.line, hab]; simp
  have hf : f <:+: l := ⟨softs.flatten, tl, by rw [L.line]; simp⟩
  refine ⟨fun s h => ⟨hs s h, fun k hk => hl k ((hs s h).subset hk)⟩, ⟨hf, fun k hk => hl k (hf.subset hk)⟩, fun k hk => hl k (by rw [L.line]; simp [hk])⟩
theorem code_ok {w : Nat} (hw : 4 ≤ w) {l : List Nat} (hl : ∀ k ∈ l, k < 256) : ∀ r ∈ codeRows w l, RowOk w r := by
  obtain ⟨softs, f, tl, L⟩ := line_rows hw l hl
  obtain ⟨h1, h2, h3⟩ := L.seg hl
  intro r hr
  rw [L.flat] at hr
  rcases List.mem_append.mp hr with h | h
  · obtain ⟨s, hs, rfl⟩ := List.mem_map.mp h
    refine ⟨?_, ?_, ?_⟩
    · intro c hc
      rcases List.mem_append.mp hc with h | h
      · exact enc_ok (h1 s hs).2 c h
      · rw [List.mem_singleton.mp h]; exact ⟨by unfold okC; lia, by lia⟩
    · have := L.wide s hs
      simpa using this
    · intro c hc
      rw [List.getLast?_concat] at hc
      cases hc; rfl
  · rw [List.mem_singleton] at h
    subst h
    rcases L.tail with ht | ⟨k, ht, hk⟩
    · subst ht
      have := L.wideF
      refine ⟨?_, by simpa using this, ?_⟩
      · simpa using enc_ok h2.2
      · simpa using enc_lastws h2.2 (L.fin rfl)
    · subst ht
      have hk256 := h3 k (by simp)
      have := L.wideF
      refine ⟨?_, by simpa [esc] using this, ?_⟩
      · intro c hc
        rcases List.mem_append.mp hc with h | h
        · exact enc_ok h2.2 c h
        · exact esc_ok hk256 c (by simpa using h)
      · have := last_esc hk256 (enc f)
        simpa using this
theorem code_read {w : Nat} (hw : 4 ≤ w) {l : List Nat} (hl : ∀ k ∈ l, k < 256) (hr : Runs1 l) : ∀ row ∈ lawRows l w, readL row.flatten = numL [] row ∧ readL (enc row.flatten) = onceMore (numL [] row) := by
  obtain ⟨softs, f, tl, L⟩ := line_rows hw l hl
  obtain ⟨h1, h2, h3⟩ := L.seg hl
  intro row hrow
  rw [L.rows] at hrow
  rcases List.mem_append.mp hrow with h | h
  · obtain ⟨s, hs, rfl⟩ := List.mem_map.mp h
    have := row_read [[61]] (.inr (.inl rfl)) s [] (h1 s hs).2 (fun c hc => (by cases hc)) (by simp) (hr.sub (h1 s hs).1)
    simp only [List.nil_append] at this
    rw [List.flatten_append, enc_flat]
    exact this
  · rw [List.mem_singleton] at h
    subst h
    have htl : tl.map esc = [] ∨ tl.map esc = [[61]] ∨ ∃ k, k < 256 ∧ tl.map esc = [esc k] := by
      rcases L.tail with ht | ⟨k, ht, hk⟩
      · subst ht; exact .inl rfl
      · subst ht; exact .inr (.inr ⟨k, h3 k (by simp), rfl⟩)
    have := row_read (tl.map esc) htl f [] h2.2 (fun c hc => (by cases hc)) (by simp) (hr.sub h2.1)
    simp only [List.nil_append] at this
    rw [List.flatten_append, enc_flat]
    exact this
theorem code_count {w : Nat} (hw : 4 ≤ w) {l : List Nat} (hl : ∀ k ∈ l, k < 256) : (lawRows l w).length ≤ l.length + 2 := by
  obtain ⟨softs, f, tl, L⟩ := line_rows hw l hl
  rw [L.rows, List.length_append, List.length_map, List.length_singleton]
  have := L.count
  lia
theorem code_pieces {w : Nat} (hw : 4 ≤ w) {l : List Nat} (hl : ∀ k ∈ l, k < 256) : ∀ row ∈ lawRows l w, row.length ≤ w ∧ ∀ p ∈ row, (∃ k, p = [k]) ∨ (∃ k, k < 256 ∧ p = esc k) := by
  obtain ⟨softs, f, tl, L⟩ := line_rows hw l hl
  obtain ⟨h1, h2, h3⟩ := L.seg hl
  have hp : ∀ k, k < 256 → (∃ j, piece k = [j]) ∨ (∃ j, j < 256 ∧ piece k = esc j) := by
    intro k hk
    cases h : plainC k with
    | true => exact .inl ⟨k, piece_plain h⟩
    | false => exact .inr ⟨k, hk, piece_esc h⟩
  intro row hrow
  rw [L.rows] at hrow
  rcases List.mem_append.mp hrow with h | h
  · obtain ⟨s, hs, rfl⟩ := List.mem_map.mp h
    refine ⟨?_, ?_⟩
    · have := L.wide s hs
      have := enc_len_ge s
      simp; lia
    · intro p hp'
      rcases List.mem_append.mp hp' with h | h
      · obtain ⟨k, hk, rfl⟩ := List.mem_map.mp h
        exact hp k ((h1 s hs).2 k hk)
      · rw [List.mem_singleton.mp h]; exact .inl ⟨61, rfl⟩
  · rw [List.mem_singleton] at h
    subst h
    refine ⟨?_, ?_⟩
    · have := L.wideF
      have := enc_len_ge f
      simp; lia
    · intro p hp'
      rcases List.mem_append.mp hp' with h | h
      · obtain ⟨k, hk, rfl⟩ := List.mem_map.mp h
        exact hp k (h2.2 k hk)
      · obtain ⟨k, hk, rfl⟩ := List.mem_map.mp h
        exact .inr ⟨k, h3 k hk, rfl⟩
end Mine
end
section
open PySem PySem.W PySem.Calls PyProof.Rows PySem.Spec
namespace Mine
-- decoding
theorem back {k : Nat} : 16 * (k / 16) + k % 16 = k := by lia
theorem enc_nonempty {s : List Nat} (h : s ≠ []) (X : List Nat) : enc s ++ X ≠ [] := by
  cases s with
  | nil => exact absurd rfl h
  | cons k s =>
    intro e
    have h2 := (List.append_eq_nil_iff.mp (List.append_eq_nil_iff.mp e).1)
    have := enc_len_ge (k :: s)
    rw [(List.append_eq_nil_iff.mp e).1] at this
    simp at this
theorem dec_piece {k : Nat} (h : k < 256) {r o : List Nat} (hr : r ≠ []) (d : Dec r o) : Dec (piece k ++ r) (k :: o) := by
  cases hp : plainC k with
  | true => rw [piece_plain hp]; exact .plain (plain_ne hp) hr d
  | false =>
    rw [piece_esc hp]
    have := Dec.esc (esc_lt h).1 (esc_lt h).2 hr d
    rw [back] at this
    exact this
theorem dec_piece1 {k : Nat} (h : k < 256) : Dec (piece k) [k, 10] := by
  cases hp : plainC k with
  | true => rw [piece_plain hp]; exact .plain1 (plain_ne hp)
  | false =>
    rw [piece_esc hp]
    have := Dec.esc1 (esc_lt h).1 (esc_lt h).2
    rw [back] at this
    exact this
theorem dec_esc1 {k : Nat} (h : k < 256) : Dec (esc k) [k, 10] := by
  have := Dec.esc1 (esc_lt h).1 (esc_lt h).2
  rw [back] at this
  exact this
theorem dec_pre {r o : List Nat} (hr : r ≠ []) (d : Dec r o) : ∀ s : List Nat, (∀ k ∈ s, k < 256) → Dec (enc s ++ r) (s ++ o) := by
  intro s
  induction s with
  | nil => intro _; exact d
  | cons k s ih =>
    intro h
    rw [enc_cons, List.append_assoc, List.cons_append]
    refine dec_piece (h k (.head _)) ?_ (ih fun c hc => h c (.tail _ hc))
    intro e
    exact hr (List.append_eq_nil_iff.mp e).2
theorem dec_soft (s : List Nat) (h : ∀ k ∈ s, k < 256) : Dec (enc s ++ [61]) s := by
  have := dec_pre (by simp) .soft s h
  simpa using this
theorem dec_line (s : List Nat) (h : ∀ k ∈ s, k < 256) (hne : s ≠ []) : Dec (enc s) (s ++ [10]) := by
  rcases List.eq_nil_or_concat s with rfl | ⟨init, z, rfl⟩
  · exact absurd rfl hne
  · rw [List.concat_eq_append] at h ⊢
    rw [enc_last]
    have := dec_pre (by intro e; have := (piece_len z).1; rw [e] at this; simp at this) (dec_piece1 (h z (by simp))) init fun k hk => h k (List.mem_append_left _ hk)
    simpa using this
theorem le_sum {n : Nat} : ∀ {l : List Nat}, n ∈ l → n ≤ l.sum
  | _ :: l, .head _ => by simp
  | _ :: l, .tail _ h => by have := le_sum h; simp; lia
/-- a row and what decode makes of it -/
structure RowDec (p : List Nat × List Nat) : Prop where
  ok : ∀ c ∈ p.1, okC c ∧ c ≠ 10
  last : ∀ c, p.1.getLast? = some c → isWs c = false
  dec : (p.1 = [] ∧ p.2 = [10]) ∨ (p.1 ≠ [] ∧ Dec p.1 p.2)
theorem code_dec {w : Nat} (hw : 4 ≤ w) {l : List Nat} (hl : ∀ k ∈ l, k < 256) : ∃ ps : List (List Nat × List Nat), ps.map (·.1) = codeRows w l ∧ (∀ p ∈ ps, RowDec p) ∧ (ps.map (·.2)).flatten = l ++ [10] := by
  have hok := code_ok hw hl
  obtain ⟨softs, f, tl, L⟩ := line_rows hw l hl
  obtain ⟨h1, h2, h3⟩ := L.seg hl
  have hmap : (softs.map (fun s => (enc s ++ [61], s)) ++ [(enc f ++ (tl.map esc).flatten, f ++ tl ++ [10])]).map (fun (p : List Nat × List Nat) => p.1) = codeRows w l := by
    rw [L.flat, List.map_append, List.map_map]; rfl
  refine ⟨_, hmap, ?_, ?_⟩
  · intro p hp
    have hr := hok p.1 (by rw [← hmap]; exact List.mem_map_of_mem hp)
    refine ⟨hr.ok, hr.last, ?_⟩
    rcases List.mem_append.mp hp with h | h
    · obtain ⟨s, hs, rfl⟩ := List.mem_map.mp h
      exact .inr ⟨by simp, dec_soft s (h1 s hs).2⟩
    · rw [List.mem_singleton] at h
      subst h
      rcases L.tail with ht | ⟨k, ht, hk⟩
      · subst ht
        by_cases hf : f = []
        · subst hf; exact .inl ⟨rfl, rfl⟩
        · refine .inr ⟨?_, ?_⟩
          · exact enc_nonempty hf _
          · have := dec_line f h2.2 hf
            simpa using this
      · subst ht
        refine .inr ⟨by simp [esc], ?_⟩
        have := dec_pre (by simp [esc]) (dec_esc1 (h3 k (by simp))) f h2.2
        simpa using this
  · rw [List.map_append, List.map_map, List.flatten_append, L.line]
    have : softs.map ((fun (x : List Nat × List Nat) => x.2) ∘ fun s => (enc s ++ [61], s)) = softs := by
      conv => rhs; rw [← List.map_id softs]
      rfl
    rw [this]
    simp
theorem codes_dec {w : Nat} (hw : 4 ≤ w) : ∀ (ls : List (List Nat)), (∀ l ∈ ls, ∀ k ∈ l, k < 256) → ∃ ps : List (List Nat × List Nat), ps.map (·.1) = ls.flatMap (codeRows w) ∧ (∀ p ∈ ps, RowDec p) ∧ (ps.map (·.2)).flatten = ls.flatMap (fun l => l ++ [10])
  | [], _ => ⟨[], rfl, by simp, rfl⟩
  | l :: ls, h => by
    obtain ⟨p1, a1, b1, c1⟩ := code_dec hw (h l (.head _))
    obtain ⟨p2, a2, b2, c2⟩ := codes_dec hw ls fun q hq => h q (.tail _ hq)
    refine ⟨p1 ++ p2, by rw [List.map_append, a1, a2]; rfl, ?_, by rw [List.map_append, List.flatten_append, c1, c2]; rfl⟩
    intro p hp
    rcases List.mem_append.mp hp with h | h
    · exact b1 p h
    · exact b2 p h
theorem dec_rows (pad : List Nat) (hpad : ∀ c ∈ pad, c = 9 ∨ c = 32) (hpl : pad.length ≤ 2) (ps : List (List Nat × List Nat)) (t : List Nat) (hp : ∀ p ∈ ps, RowDec p)
    (hout : (ps.map (·.2)).flatten = t ++ [10]) (he : joinL (pad ++ [10]) (ps.map (·.1)) ≠ []) (hlen : (joinL (pad ++ [10]) (ps.map (·.1))).length < 1000000) (ht : t.length + 1 < 1000000) : DecOk (joinL (pad ++ [10]) (ps.map (·.1))) t := by
  rcases List.eq_nil_or_concat ps with rfl | ⟨init, z, rfl⟩
  · exact absurd rfl he
  · rw [List.concat_eq_append] at hp hout he hlen ⊢
    have hz : RowDec z := hp z (by simp)
    have hi : ∀ p ∈ init, RowDec p := fun p h => hp p (List.mem_append_left _ h)
    have ej : joinL (pad ++ [10]) ((init ++ [z]).map (·.1)) = joinL [10] (init.map (fun p => p.1 ++ pad) ++ [z.1]) := by
      rw [List.map_append, List.map_singleton, joinL_concat, joinL_concat, List.flatMap_map, List.flatMap_map]
      simp only [List.append_assoc]
    have rawOk : ∀ r ∈ init.map (fun p => p.1 ++ pad) ++ [z.1], ∀ c ∈ r, okC c ∧ c ≠ 10 := by
      intro r hr c hc
      rcases List.mem_append.mp hr with h | h
      · obtain ⟨p, h1, rfl⟩ := List.mem_map.mp h
        rcases List.mem_append.mp hc with h2 | h2
        · exact (hi p h1).ok c h2
        · rcases hpad c h2 with rfl | rfl
          · exact ⟨by unfold okC; lia, by lia⟩
          · exact ⟨by unfold okC; lia, by lia⟩
      · rw [List.mem_singleton.mp h] at hc
        exact hz.ok c hc
    have allOk : ∀ c ∈ joinL [10] (init.map (fun p => p.1 ++ pad) ++ [z.1]), okC c := by
      intro c hc
      rcases joinL_mem hc with rfl | ⟨r, h1, h2⟩
      · unfold okC; lia
      · exact (rawOk r h1 c h2).1
    have hlines := lines_S _ allOk
    have hll := lines_join (init.map (fun p => p.1 ++ pad) ++ [z.1]) fun r hr hm => (rawOk r hr 10 hm).2 rfl
    rw [List.getLast?_concat, List.dropLast_concat] at hll
    rw [ej] at he hlen ⊢
    have hsum := joinL_sum [10] (init.map (fun p => p.1 ++ pad) ++ [z.1])
    have rawLen : ∀ r ∈ init.map (fun p => p.1 ++ pad) ++ [z.1], r.length < 1000000 := by
      intro r hr
      have : r.length ≤ ((init.map (fun p => p.1 ++ pad) ++ [z.1]).map (·.length)).sum := le_sum (List.mem_map_of_mem hr)
      lia
    have good : ∀ p ∈ init, (DLine.mk (p.1 ++ pad) p.1 p.2).Good := by
      intro p h
      have P := hi p h
      have hl := rawLen (p.1 ++ pad) (List.mem_append_left _ (List.mem_map_of_mem h))
      have hl2 := hl
      rw [List.length_append] at hl2
      refine ⟨rstrip_S p.1 pad (fun c hc => (P.ok c hc).1) hpad ?_, ⟨hl, by dsimp only; lia⟩, ?_⟩
      · intro c hc
        have h1 := P.last c hc
        have h2 := (P.ok c (List.mem_of_getLast? hc)).2
        unfold isWs at h1
        simp at h1
        lia
      · rcases P.dec with h | h
        · exact .inl h
        · exact .inr h
    have goodz : (DLine.mk z.1 z.1 z.2).Good := by
      have hl := rawLen z.1 (by simp)
      have := rstrip_S z.1 [] (fun c hc => (hz.ok c hc).1) (by simp) (fun c hc => by
        have h1 := hz.last c hc
        have h2 := (hz.ok c (List.mem_of_getLast? hc)).2
        unfold isWs at h1
        simp at h1
        lia)
      rw [List.append_nil] at this
      refine ⟨this, ⟨hl, hl⟩, ?_⟩
      rcases hz.dec with h | h
      · exact .inl h
      · exact .inr h
    rw [List.map_append, List.map_singleton, List.flatten_append, List.flatten_singleton] at hout
    have outEq : ∀ (i : List (List Nat × List Nat)), (i.map fun p => DLine.mk (p.1 ++ pad) p.1 p.2).flatMap DLine.out = (i.map (·.2)).flatten := by
      intro i
      rw [List.flatMap_map, List.flatMap_def]
    by_cases hz1 : z.1 = []
    · rcases hz.dec with ⟨_, h2⟩ | ⟨h2, _⟩
      · rw [h2] at hout
        have ho : (init.map (·.2)).flatten = t := List.append_cancel_right hout
        refine ⟨he, hlen, init.map (fun p => DLine.mk (p.1 ++ pad) p.1 p.2), ?_, ?_, ?_, ?_⟩
        · rw [hlines, hll, if_pos (by rw [hz1]), List.map_map, List.map_map, List.map_map]; rfl
        · intro d hd
          obtain ⟨p, h1, rfl⟩ := List.mem_map.mp hd
          exact good p h1
        · rw [outEq, ho]; lia
        · rw [outEq, ho]
          unfold decTail
          rw [if_neg]
          rintro ⟨⟨h3, _⟩, _⟩
          refine h3 ?_
          rw [hz1, joinL_concat, List.append_nil]
          rcases List.eq_nil_or_concat init with rfl | ⟨i2, y, rfl⟩
          · exact absurd (by rw [hz1]; rfl) he
          · simp
      · exact absurd hz1 h2
    · refine ⟨he, hlen, init.map (fun p => DLine.mk (p.1 ++ pad) p.1 p.2) ++ [DLine.mk z.1 z.1 z.2], ?_, ?_, ?_, ?_⟩
      · rw [hlines, hll, if_neg (by simpa using hz1)]
        simp only [List.map_append, List.map_map, List.map_singleton]; rfl
      · intro d hd
        rcases List.mem_append.mp hd with h | h
        · obtain ⟨p, h1, rfl⟩ := List.mem_map.mp h
          exact good p h1
        · rw [List.mem_singleton.mp h]; exact goodz
      · rw [List.flatMap_append, outEq]
        show ((init.map (·.2)).flatten ++ [DLine.mk z.1 z.1 z.2].flatMap DLine.out).length < _
        rw [List.flatMap_singleton]
        show ((init.map (·.2)).flatten ++ z.2).length < _
        rw [hout]; simpa using ht
      · rw [List.flatMap_append, outEq, List.flatMap_singleton]
        show decTail _ ((init.map (·.2)).flatten ++ z.2) = t
        rw [hout]
        unfold decTail
        rw [if_pos, List.dropLast_concat]
        have hg : (joinL [10] (init.map (fun p => p.1 ++ pad) ++ [z.1])).getLast? = z.1.getLast? := by rw [joinL_concat, last_app hz1]
        refine ⟨⟨?_, ?_⟩, by simp⟩
        · rw [hg]
          intro h
          exact (hz.ok 10 (List.mem_of_getLast? h)).2 rfl
        · rw [hg]
          intro h
          have := (hz.ok 13 (List.mem_of_getLast? h)).1
          unfold okC at this; lia
end Mine
end
section
open PySem PySem.W PySem.Calls PyProof.Rows PySem.Spec
namespace Mine
-- bounds
theorem opOf_len (x : Int) : 1 ≤ (opOf x).length ∧ (opOf x).length ≤ 3 := ops_lens _ (opOf_mem x)
theorem textOf_len : ∀ xs : List Int, (textOf xs).length ≤ 7 * xs.length
  | [] => by simp [textOf]
  | x :: xs => by
    have ih := textOf_len xs
    have h1 := opOf_len x
    have h2 := behind_len x
    show ((opOf x ++ behind x) ++ textOf xs).length ≤ _
    simp only [List.length_append, List.length_cons]
    lia
theorem textOf_chars : ∀ xs : List Int, ∀ k ∈ textOf xs, k < 256 ∧ k ≠ 13
  | [] => by simp [textOf]
  | x :: xs => by
    intro k hk
    have hk : k ∈ (opOf x ++ behind x) ++ textOf xs := hk
    rcases List.mem_append.mp hk with h | h
    · rcases List.mem_append.mp h with h | h
      · have : ∀ o ∈ OPS, ∀ k ∈ o, k < 256 ∧ k ≠ 13 := by decide +kernel
        exact this _ (opOf_mem x) k h
      · have := (behind_facts x).2 k h
        exact ⟨this.1, this.2.1⟩
    · exact textOf_chars xs k h
theorem xs_len (ns : List Int) : (xsOf ns).length ≤ 9 := by
  unfold xsOf
  simp only [List.length_append, List.length_cons, List.length_nil, List.length_take]
  lia
theorem text_ne (ns : List Int) : textOf (xsOf ns) ≠ [] := by
  intro e
  have h1 := opOf_len 310
  have : textOf (xsOf ns) = (opOf 310 ++ behind 310) ++ textOf ([236, 170, 20, 45] ++ ns.take 4) := rfl
  rw [this] at e
  have e2 := (List.append_eq_nil_iff.mp (List.append_eq_nil_iff.mp e).1).1
  rw [e2] at h1
  simp at h1
theorem width_le (ns : List Int) : 4 ≤ widthOf ns ∧ widthOf ns ≤ 12 := by
  unfold widthOf
  have h2 := Int.fmod_lt_of_pos (((ns.take 4).map fun (x : Int) => x.fmod 9).sum) (b := 9) (by decide)
  lia
theorem flatMap_congr' {α β : Type} {f g : α → List β} : ∀ {ls : List α}, (∀ l ∈ ls, f l = g l) → ls.flatMap f = ls.flatMap g
  | [], _ => rfl
  | l :: ls, h => by rw [List.flatMap_cons, List.flatMap_cons, h l (.head _), flatMap_congr' fun q hq => h q (.tail _ hq)]
theorem split_sum (b : List Nat) : ((splitNL b).map (·.length)).sum ≤ b.length := by
  have := joinL_sum [10] (splitNL b)
  rw [splitNL_join] at this
  exact this
theorem rows_count {w : Nat} (hw : 4 ≤ w) : ∀ (ls : List (List Nat)), (∀ l ∈ ls, ∀ k ∈ l, k < 256) → (ls.flatMap (codeRows w)).length ≤ (ls.map (·.length)).sum + 2 * ls.length
  | [], _ => by simp
  | l :: ls, h => by
    have ih := rows_count hw ls fun q hq => h q (.tail _ hq)
    have h1 := code_count hw (h l (.head _))
    rw [List.flatMap_cons, List.length_append, List.map_cons, List.sum_cons, List.length_cons]
    have : (codeRows w l).length = (lawRows l w).length := List.length_map _
    lia
section
variable {w : Nat} {b : List Nat} (hw : 4 ≤ w) (hb : ∀ k ∈ b, k < 256 ∧ k ≠ 13) (hne : b ≠ [])
include hw hb hne
theorem rows_ok : ∀ r ∈ splitNL (encBody w b), RowOk w r := by
  intro r hr
  rw [letter_rows hw hb hne] at hr
  obtain ⟨l, h1, h2⟩ := List.mem_flatMap.mp hr
  exact code_ok hw (fun k hk => (hb k (split_mem h1 k hk).1).1) r h2
theorem rows_le : (splitNL (encBody w b)).length ≤ 3 * b.length + 2 := by
  rw [letter_rows hw hb hne]
  have h1 := rows_count hw (splitNL b) fun l hl k hk => (hb k (split_mem hl k hk).1).1
  have h2 := split_sum b
  have h3 := (splitNL_facts b).1
  lia
theorem letter_len : (encBody w b).length ≤ (3 * b.length + 2) * (w + 1) := by
  have h1 := rows_le hw hb hne
  have h2 := joinL_len [10] w (splitNL (encBody w b)) fun r hr => (rows_ok hw hb hne r hr).len
  rw [splitNL_join] at h2
  exact Nat.le_trans h2 (Nat.mul_le_mul_right _ h1)
theorem letter_chars : ∀ k ∈ encBody w b, okC k := by
  intro k hk
  rw [← splitNL_join (encBody w b)] at hk
  rcases joinL_mem hk with rfl | ⟨r, h1, h2⟩
  · unfold okC; lia
  · exact ((rows_ok hw hb hne r h1).ok k h2).1
theorem enc_good (hw2 : w < 1000) (hl : b.length ≤ 3000) : EncOk b w := by
  have hlen : (b.flatMap bmapF).length ≤ 3 * b.length := by
    have : ∀ b : List Nat, (b.flatMap bmapF).length ≤ 3 * b.length := by
      intro b
      induction b with
      | nil => simp
      | cons k b ih =>
        rw [List.flatMap_cons, List.length_append, List.length_cons]
        have : (bmapF k).length ≤ 3 := by
          unfold bmapF
          split
          · simp
          · exact (piece_len k).2
        lia
    exact this b
  have hit := splitNL_items (encItems w (b.flatMap bmapF)) (encItems_ne w (bmap_ne hne))
  have hcnt : (encItems w (b.flatMap bmapF)).length ≤ 3 * b.length + 2 := by
    have h1 := rows_le hw hb hne
    unfold encBody at h1
    rw [hit] at h1
    have : ∀ is : List (List Nat), is.length ≤ (is.flatMap splitNL).length := by
      intro is
      induction is with
      | nil => simp
      | cons i is ih =>
        rw [List.flatMap_cons, List.length_append, List.length_cons]
        have : 1 ≤ (splitNL i).length := by
          cases h : splitNL i with
          | nil => exact absurd h (splitNL_ne i)
          | cons _ _ => simp
        lia
    exact Nat.le_trans (this _) h1
  have hsum : ((encItems w (b.flatMap bmapF)).map (·.length)).sum ≤ (3 * b.length + 2) * (w + 1) := by
    have h1 := joinL_sum [10] (encItems w (b.flatMap bmapF))
    have h2 := letter_len hw hb hne
    unfold encBody at h2
    lia
  have h9 : (3 * b.length + 2) * (w + 1) ≤ 9002 * 1000 := Nat.mul_le_mul (by lia) (by lia)
  refine ⟨hne, by lia, fun k hk => (hb k hk).1, hw, hw2, ?_, by lia, ?_, by lia, by lia⟩
  · intro c hc
    obtain ⟨k, hk, hck⟩ := List.mem_flatMap.mp hc
    obtain ⟨h1, h2⟩ := hb k hk
    by_cases h10 : k = 10
    · subst h10
      rw [bmapF_nl, List.mem_singleton] at hck
      subst hck; unfold okC; lia
    · rw [bmapF_other h10 h2] at hck
      exact (piece_ok h1 c hck).1
  · intro l hl
    have : l ∈ splitNL (b.flatMap bmapF) := by
      rw [linesL_eq] at hl
      split at hl
      · exact List.dropLast_subset _ hl
      · exact hl
    have := ((splitNL_facts (b.flatMap bmapF)).2 l this).1
    lia
end
-- numbers
theorem tok_vals (p : List Nat) (c : Nat) : 7 ≤ tok p c ∧ (tok p c < 256 → tok p c < 55) := by
  unfold tok
  split
  · rename_i h
    have : OPS.idxOf p < 48 := List.idxOf_lt_length_of_mem (List.contains_iff_mem.mp h)
    lia
  · lia
theorem readL_vals : ∀ (n : Nat) (l : List Nat), l.length ≤ n → (readL l).length ≤ l.length ∧ ∀ k ∈ readL l, 7 ≤ k ∧ (k < 256 → k < 55)
  | _, [], _ => by simp [readL_nil]
  | 0, _ :: _, h => by simp at h
  | n + 1, c :: r, h => by
    have hs := szL_pos (c :: r)
    have ih := readL_vals n ((c :: r).drop (szL (c :: r))) (by simp at h ⊢; lia)
    rw [readL_cons]
    refine ⟨?_, ?_⟩
    · have := ih.1
      simp only [List.length_cons, List.length_drop] at this ⊢
      lia
    · intro k hk
      rcases List.mem_cons.mp hk with rfl | hk
      · exact tok_vals _ _
      · exact ih.2 k hk
theorem code400 {r : List Nat} (hl : r.length ≤ 12) (hlast : ∀ c, r.getLast? = some c → isWs c = false) : codeRows 400 r = [enc r] := by
  have hlen := enc_len_le r
  have hc : ∀ n, cutF 400 n (r.map piece) = ([], r.map piece) := by
    intro n
    cases n with
    | zero => rfl
    | succ n => rw [cutF, if_neg (by rw [enc_flat]; lia)]
  unfold codeRows lawRows
  rw [hc]
  dsimp only
  unfold lawTail
  cases hg : r.getLast? with
  | none =>
    show [(r.map piece).flatten] = _
    rw [enc_flat]
  | some k =>
    dsimp only
    rw [if_pos (hlast k hg)]
    show [(r.map piece).flatten] = _
    rw [enc_flat]
theorem law_ok (ns : List Int) : LawOk ns := by
  have htl := textOf_len (xsOf ns)
  have hxl := xs_len ns
  have hch := textOf_chars (xsOf ns)
  have hne := text_ne ns
  obtain ⟨hw, hw2⟩ := width_le ns
  have hruns := runs_text (xsOf ns)
  have hplain := plain_ok (xsOf ns)
  generalize ht : textOf (xsOf ns) = t at *
  generalize hpl : plainOf (xsOf ns) = pl at *
  have hlines : ∀ l ∈ splitNL t, ∀ k ∈ l, k < 256 := fun l hl k hk => (hch k (split_mem hl k hk).1).1
  have hLR := letter_rows hw hch hne
  have hok := rows_ok hw hch hne
  have hcount := rows_le hw hch hne
  have hll := letter_len hw hch hne
  have hlch := letter_chars hw hch hne
  have hread2 : (splitNL (encBody (widthOf ns) t)).map readL = toldOf t (widthOf ns) := by
    rw [hLR, List.map_flatMap]
    unfold toldOf
    refine flatMap_congr' fun l hl => ?_
    unfold codeRows
    rw [List.map_map]
    exact List.map_congr_left fun row hrow => (code_read hw (hlines l hl) (hruns.sub (split_infix t l hl)) row hrow).1
  have hread2e : (splitNL (encBody (widthOf ns) t)).map (fun r => readL (enc r)) = (toldOf t (widthOf ns)).map onceMore := by
    rw [hLR, List.map_flatMap]
    unfold toldOf
    rw [List.map_flatMap]
    refine flatMap_congr' fun l hl => ?_
    unfold codeRows
    rw [List.map_map, List.map_map]
    exact List.map_congr_left fun row hrow => (code_read hw (hlines l hl) (hruns.sub (split_infix t l hl)) row hrow).2
  obtain ⟨ps, hps1, hps2, hps3⟩ := codes_dec hw (splitNL t) hlines
  rw [← hLR] at hps1
  rw [joinL_nl (splitNL_ne t), splitNL_join] at hps3
  have hlne : encBody (widthOf ns) t ≠ [] := by
    intro e
    rw [e] at hps1
    cases ps with
    | nil => simp [splitNL] at hps1
    | cons p ps2 =>
      cases ps2 with
      | cons q r => simp [splitNL] at hps1
      | nil =>
        have h4 : p.1 = [] := by simpa [splitNL] using hps1
        rcases (hps2 p (.head _)).dec with ⟨_, h5⟩ | ⟨h5, _⟩
        · rw [List.map_singleton, List.flatten_singleton, h5] at hps3
          have := congrArg List.length hps3
          simp only [List.length_append, List.length_singleton] at this
          exact hne (List.eq_nil_of_length_eq_zero (by lia))
        · exact h5 h4
  generalize hle : encBody (widthOf ns) t = letter at *
  have hllen : letter.length ≤ 191 * 13 := Nat.le_trans hll (Nat.mul_le_mul (by lia) (by lia))
  have hlch2 : ∀ k ∈ letter, k < 256 ∧ k ≠ 13 := by
    intro k hk
    have := hlch k hk
    unfold okC at this; lia
  have h400 : splitNL (encBody 400 letter) = (splitNL letter).map enc := by
    rw [letter_rows (w := 400) (by decide) hlch2 hlne]
    have : ∀ ls : List (List Nat), (∀ r ∈ ls, RowOk (widthOf ns) r) → ls.flatMap (codeRows 400) = ls.map enc := by
      intro ls
      induction ls with
      | nil => intro _; rfl
      | cons r ls ih =>
        intro h
        have hr := h r (.head _)
        rw [List.flatMap_cons, List.map_cons, ih fun q hq => h q (.tail _ hq), code400 (Nat.le_trans hr.len hw2) hr.last]; rfl
    exact this _ hok
  have halen : (encBody 400 letter).length ≤ 191 * 37 := by
    have h1 := joinL_len [10] 36 (splitNL (encBody 400 letter)) (by
      intro r hr
      rw [h400] at hr
      obtain ⟨q, hq, rfl⟩ := List.mem_map.mp hr
      have := enc_len_le q
      have := (hok q hq).len
      lia)
    rw [splitNL_join, h400, List.length_map] at h1
    exact Nat.le_trans h1 (Nat.mul_le_mul (by lia) (by simp))
  have hane : encBody 400 letter ≠ [] := by
    intro e
    rw [e] at h400
    have : (splitNL letter).map enc = [[]] := h400.symm
    have h2 : joinL [10] (splitNL letter) = letter := splitNL_join letter
    match h3 : splitNL letter with
    | [] => exact splitNL_ne letter h3
    | [q] =>
      rw [h3] at this h2
      have h4 : enc q = [] := by simpa using this
      have h5 := enc_len_ge q
      rw [h4] at h5
      have : q = [] := List.eq_nil_of_length_eq_zero (by simpa using h5)
      subst this
      exact hlne h2.symm
    | q :: q2 :: r => rw [h3] at this; simp at this
  have hpt : ∀ ls : List (List Nat), ls = splitNL letter → ls.flatMap (fun r => r ++ [10]) = letter ++ [10] := by
    intro ls h
    subst h
    rw [joinL_nl (splitNL_ne letter), splitNL_join]
  constructor
  all_goals (try rw [ht])
  all_goals (try rw [hle])
  all_goals (try rw [hpl])
  · lia
  · exact enc_good hw hch hne (by lia) (by lia)
  · exact enc_good (w := 400) (by decide) hlch2 hlne (by decide) (by lia)
  · lia
  · lia
  · intro line hline row hrow
    obtain ⟨h1, h2⟩ := code_pieces hw (hlines line hline) row hrow
    exact ⟨by lia, h2⟩
  · rw [← hread2, List.length_map]; lia
  · intro r hr
    rw [← hread2] at hr
    obtain ⟨q, hq, rfl⟩ := List.mem_map.mp hr
    have h1 := readL_vals _ q (Nat.le_refl _)
    have := (hok q hq).len
    exact ⟨by lia, h1.2⟩
  · exact hplain
  · rw [← hplain, List.length_map]
    have := (splitNL_facts t).1
    lia
  · exact hread2
  · rw [h400, List.map_map]; exact hread2e
  · have := dec_rows [] (by simp) (by simp) ps t hps2 hps3
    rw [hps1, List.nil_append, splitNL_join] at this
    exact this hlne (by lia) (by lia)
  · have := dec_rows [9, 32] (by simp) (by simp) ps t hps2 hps3
    rw [hps1] at this
    refine this ?_ ?_ (by lia)
    · intro e
      have h1 : splitNL letter ≠ [[]] := by
        intro h2
        have h3 := splitNL_join letter
        rw [h2] at h3
        exact hlne h3.symm
      match h3 : splitNL letter with
      | [] => exact splitNL_ne letter h3
      | [q] =>
        rw [h3] at e h1
        have : q = [] := e
        subst this
        exact h1 rfl
      | q :: q2 :: r =>
        rw [h3] at e
        have := congrArg List.length e
        simp [joinL] at this
    · have h1 := joinL_len ([9, 32] ++ [10]) 12 (splitNL letter) fun r hr => Nat.le_trans (hok r hr).len hw2
      have h2 : (splitNL letter).length * (12 + ([9, 32] ++ [10] : List Nat).length) ≤ 191 * 15 := Nat.mul_le_mul (by lia) (by simp)
      lia
  · have := dec_rows [] (by simp) (by simp) ((splitNL letter).map fun r => (enc r, r ++ [10])) letter (by
      intro p hp
      obtain ⟨r, hr, rfl⟩ := List.mem_map.mp hp
      have hro := hok r hr
      have h256 : ∀ k ∈ r, k < 256 := fun k hk => by have := okC_lt (hro.ok k hk).1; lia
      refine ⟨enc_ok h256, enc_lastws h256 hro.last, ?_⟩
      by_cases h0 : r = []
      · subst h0; exact .inl ⟨rfl, rfl⟩
      · refine .inr ⟨?_, dec_line r h256 h0⟩
        have := enc_nonempty h0 []
        simpa using this) (by
      rw [List.map_map, ← hpt _ rfl, List.flatMap_def]; rfl)
    rw [List.map_map, List.nil_append] at this
    have e : (splitNL letter).map ((fun (p : List Nat × List Nat) => p.1) ∘ fun r => (enc r, r ++ [10])) = splitNL (encBody 400 letter) := by rw [h400]; rfl
    rw [e, splitNL_join] at this
    exact this hane (by lia) (by lia)
end Mine
end
section
open PySem PySem.W PySem.Calls PyProof.Rows PySem.Spec
namespace Mine
noncomputable section
set_option linter.unusedVariables false
set_option maxRecDepth 100000
set_option maxHeartbeats 4000000
noncomputable def hlife : Life := ⟨[], [], [], 0, [], [], false, #[], [], 0, false, false, false, 0, [2000, 10, 10], false, 0, true, [], [], 0, false⟩
noncomputable abbrev hpE : Program := PySem.Challenge.pw_rs0178_01
noncomputable abbrev hAnn : Option Value := some (.ref 6)
noncomputable abbrev qGo := @PySem.W.Fast.tw10295753902157049106
noncomputable abbrev qRun := @PySem.W.Fast.tw10110043849684766642
noncomputable abbrev qTab := @PySem.W.Fast.tw14364793385576792824
noncomputable abbrev qDen := @PySem.W.Fast.tw11892475500146522536
noncomputable abbrev qExecs := @PySem.W.Fast.tw12563942051412417395
noncomputable def hEnv : Env := { scope := hpE.main.scope, locals := mainNs, globals := mainNs, cells := [], code := .ref 13, frame := some 14 }
noncomputable def hBody : List Stmt := behindTheImports hpE
noncomputable def hCode : Code := .body hBody hEnv
noncomputable def hB : List Frame := [topFrame ⟨0, 0, 0, 0⟩]
noncomputable def hTh (l : List Stmt) (p : Pos) : Thread := ⟨(qExecs l hEnv).wrap doneF deadEnd id id, hCode, p, hB⟩
noncomputable def thOf (x : Option (SharedT × Thread)) : Thread := match x with
  | some (_, t) => t
  | none => ⟨.pure (.done .next), hCode, ⟨0, 0, 0, 0⟩, []⟩
noncomputable def turn (t : Thread) (p : Pos) : Thread := ⟨qDen qTab t.code, t.code, p, t.stack⟩
noncomputable def noRows (w : World) : World := (w.withFollow "comprehension-iter-twice" false).withFollow "special-get-raises" false
/-- bytes told as signs, written into a list -/
noncomputable def hset : List Nat → Nat → List Value → List Value
  | [], _, l => l
  | b :: bs, t, l => hset bs (t + 3) (l.set b (.str ⟨#[b]⟩ t))
theorem hGo {w : World} {n : Nat} {s s' : SharedT} {t t' : Thread} (h : qGo qTab hpE w 11 hAnn 1 n s t = some (s', t')) : segGo treeTable hpE w 11 hAnn 1 n s.abs t = some (s'.abs, t') :=
  segGo_of (by rw [PySem.W.Fast.te10295753902157049106, PySem.W.Fast.te14364793385576792824]; exact h)
theorem hRun {w : World} {n : Nat} {s s' : SharedT} {t : Thread} {f : Flow} {c : Code} {q : Pos} (h : qRun qTab hpE w 11 hAnn 1 n s t = some (f, s', c, q)) : segRun treeTable hpE w 11 hAnn 1 n s.abs t = some (f, s'.abs, c, q) :=
  segRun_of (by rw [PySem.W.Fast.te10110043849684766642, PySem.W.Fast.te14364793385576792824]; exact h)
theorem hTh_eq (l : List Stmt) (p : Pos) : piecesOf l hEnv hCode p hB = hTh l p := by
  show (⟨(execs l hEnv).wrap doneF deadEnd id id, hCode, p, hB⟩ : Thread) = _
  rw [PySem.W.Fast.te12563942051412417395]; rfl
theorem rows2 (P : World → Prop) (h : ∀ w : World, P ((w.withFollow "special-get-raises" false)) ∧ P (w.withFollow "special-get-raises" true)) (w : World) : P w :=
  byRow2 "special-get-raises" (P := P) (fun w => (h w).1) (fun w => (h w).2) w

noncomputable def hItems : List Value := [(.str ⟨#[61, 48, 48]⟩ 197), (.str ⟨#[61, 48, 49]⟩ 201), (.str ⟨#[61, 48, 50]⟩ 205), (.str ⟨#[61, 48, 51]⟩ 209), (.str ⟨#[61, 48, 52]⟩ 213), (.str ⟨#[61, 48, 53]⟩ 217), (.str ⟨#[61, 48, 54]⟩ 221), (.str ⟨#[61, 48, 55]⟩ 225), (.str ⟨#[61, 48, 56]⟩ 229), (.str ⟨#[61, 48, 57]⟩ 233), (.str ⟨#[61, 48, 65]⟩ 237), (.str ⟨#[61, 48, 66]⟩ 241), (.str ⟨#[61, 48, 67]⟩ 245), (.str ⟨#[61, 48, 68]⟩ 249), (.str ⟨#[61, 48, 69]⟩ 253), (.str ⟨#[61, 48, 70]⟩ 257), (.str ⟨#[61, 49, 48]⟩ 261), (.str ⟨#[61, 49, 49]⟩ 265), (.str ⟨#[61, 49, 50]⟩ 269), (.str ⟨#[61, 49, 51]⟩ 273), (.str ⟨#[61, 49, 52]⟩ 277), (.str ⟨#[61, 49, 53]⟩ 281), (.str ⟨#[61, 49, 54]⟩ 285), (.str ⟨#[61, 49, 55]⟩ 289), (.str ⟨#[61, 49, 56]⟩ 293), (.str ⟨#[61, 49, 57]⟩ 297), (.str ⟨#[61, 49, 65]⟩ 301), (.str ⟨#[61, 49, 66]⟩ 305), (.str ⟨#[61, 49, 67]⟩ 309), (.str ⟨#[61, 49, 68]⟩ 313), (.str ⟨#[61, 49, 69]⟩ 317), (.str ⟨#[61, 49, 70]⟩ 321), (.str ⟨#[61, 50, 48]⟩ 325), (.str ⟨#[61, 50, 49]⟩ 329), (.str ⟨#[61, 50, 50]⟩ 333), (.str ⟨#[61, 50, 51]⟩ 337), (.str ⟨#[61, 50, 52]⟩ 341), (.str ⟨#[61, 50, 53]⟩ 345), (.str ⟨#[61, 50, 54]⟩ 349), (.str ⟨#[61, 50, 55]⟩ 353), (.str ⟨#[61, 50, 56]⟩ 357), (.str ⟨#[61, 50, 57]⟩ 361), (.str ⟨#[61, 50, 65]⟩ 365), (.str ⟨#[61, 50, 66]⟩ 369), (.str ⟨#[61, 50, 67]⟩ 373), (.str ⟨#[61, 50, 68]⟩ 377), (.str ⟨#[61, 50, 69]⟩ 381), (.str ⟨#[61, 50, 70]⟩ 385), (.str ⟨#[61, 51, 48]⟩ 389), (.str ⟨#[61, 51, 49]⟩ 393), (.str ⟨#[61, 51, 50]⟩ 397), (.str ⟨#[61, 51, 51]⟩ 401), (.str ⟨#[61, 51, 52]⟩ 405), (.str ⟨#[61, 51, 53]⟩ 409), (.str ⟨#[61, 51, 54]⟩ 413), (.str ⟨#[61, 51, 55]⟩ 417), (.str ⟨#[61, 51, 56]⟩ 421), (.str ⟨#[61, 51, 57]⟩ 425), (.str ⟨#[61, 51, 65]⟩ 429), (.str ⟨#[61, 51, 66]⟩ 433), (.str ⟨#[61, 51, 67]⟩ 437), (.str ⟨#[61, 51, 68]⟩ 441), (.str ⟨#[61, 51, 69]⟩ 445), (.str ⟨#[61, 51, 70]⟩ 449), (.str ⟨#[61, 52, 48]⟩ 453), (.str ⟨#[61, 52, 49]⟩ 457), (.str ⟨#[61, 52, 50]⟩ 461), (.str ⟨#[61, 52, 51]⟩ 465), (.str ⟨#[61, 52, 52]⟩ 469), (.str ⟨#[61, 52, 53]⟩ 473), (.str ⟨#[61, 52, 54]⟩ 477), (.str ⟨#[61, 52, 55]⟩ 481), (.str ⟨#[61, 52, 56]⟩ 485), (.str ⟨#[61, 52, 57]⟩ 489), (.str ⟨#[61, 52, 65]⟩ 493), (.str ⟨#[61, 52, 66]⟩ 497), (.str ⟨#[61, 52, 67]⟩ 501), (.str ⟨#[61, 52, 68]⟩ 505), (.str ⟨#[61, 52, 69]⟩ 509), (.str ⟨#[61, 52, 70]⟩ 513), (.str ⟨#[61, 53, 48]⟩ 517), (.str ⟨#[61, 53, 49]⟩ 521), (.str ⟨#[61, 53, 50]⟩ 525), (.str ⟨#[61, 53, 51]⟩ 529), (.str ⟨#[61, 53, 52]⟩ 533), (.str ⟨#[61, 53, 53]⟩ 537), (.str ⟨#[61, 53, 54]⟩ 541), (.str ⟨#[61, 53, 55]⟩ 545), (.str ⟨#[61, 53, 56]⟩ 549), (.str ⟨#[61, 53, 57]⟩ 553), (.str ⟨#[61, 53, 65]⟩ 557), (.str ⟨#[61, 53, 66]⟩ 561), (.str ⟨#[61, 53, 67]⟩ 565), (.str ⟨#[61, 53, 68]⟩ 569), (.str ⟨#[61, 53, 69]⟩ 573), (.str ⟨#[61, 53, 70]⟩ 577), (.str ⟨#[61, 54, 48]⟩ 581), (.str ⟨#[61, 54, 49]⟩ 585), (.str ⟨#[61, 54, 50]⟩ 589), (.str ⟨#[61, 54, 51]⟩ 593), (.str ⟨#[61, 54, 52]⟩ 597), (.str ⟨#[61, 54, 53]⟩ 601), (.str ⟨#[61, 54, 54]⟩ 605), (.str ⟨#[61, 54, 55]⟩ 609), (.str ⟨#[61, 54, 56]⟩ 613), (.str ⟨#[61, 54, 57]⟩ 617), (.str ⟨#[61, 54, 65]⟩ 621), (.str ⟨#[61, 54, 66]⟩ 625), (.str ⟨#[61, 54, 67]⟩ 629), (.str ⟨#[61, 54, 68]⟩ 633), (.str ⟨#[61, 54, 69]⟩ 637), (.str ⟨#[61, 54, 70]⟩ 641), (.str ⟨#[61, 55, 48]⟩ 645), (.str ⟨#[61, 55, 49]⟩ 649), (.str ⟨#[61, 55, 50]⟩ 653), (.str ⟨#[61, 55, 51]⟩ 657), (.str ⟨#[61, 55, 52]⟩ 661), (.str ⟨#[61, 55, 53]⟩ 665), (.str ⟨#[61, 55, 54]⟩ 669), (.str ⟨#[61, 55, 55]⟩ 673), (.str ⟨#[61, 55, 56]⟩ 677), (.str ⟨#[61, 55, 57]⟩ 681), (.str ⟨#[61, 55, 65]⟩ 685), (.str ⟨#[61, 55, 66]⟩ 689), (.str ⟨#[61, 55, 67]⟩ 693), (.str ⟨#[61, 55, 68]⟩ 697), (.str ⟨#[61, 55, 69]⟩ 701), (.str ⟨#[61, 55, 70]⟩ 705), (.str ⟨#[61, 56, 48]⟩ 709), (.str ⟨#[61, 56, 49]⟩ 713), (.str ⟨#[61, 56, 50]⟩ 717), (.str ⟨#[61, 56, 51]⟩ 721), (.str ⟨#[61, 56, 52]⟩ 725), (.str ⟨#[61, 56, 53]⟩ 729), (.str ⟨#[61, 56, 54]⟩ 733), (.str ⟨#[61, 56, 55]⟩ 737), (.str ⟨#[61, 56, 56]⟩ 741), (.str ⟨#[61, 56, 57]⟩ 745), (.str ⟨#[61, 56, 65]⟩ 749), (.str ⟨#[61, 56, 66]⟩ 753), (.str ⟨#[61, 56, 67]⟩ 757), (.str ⟨#[61, 56, 68]⟩ 761), (.str ⟨#[61, 56, 69]⟩ 765), (.str ⟨#[61, 56, 70]⟩ 769), (.str ⟨#[61, 57, 48]⟩ 773), (.str ⟨#[61, 57, 49]⟩ 777), (.str ⟨#[61, 57, 50]⟩ 781), (.str ⟨#[61, 57, 51]⟩ 785), (.str ⟨#[61, 57, 52]⟩ 789), (.str ⟨#[61, 57, 53]⟩ 793), (.str ⟨#[61, 57, 54]⟩ 797), (.str ⟨#[61, 57, 55]⟩ 801), (.str ⟨#[61, 57, 56]⟩ 805), (.str ⟨#[61, 57, 57]⟩ 809), (.str ⟨#[61, 57, 65]⟩ 813), (.str ⟨#[61, 57, 66]⟩ 817), (.str ⟨#[61, 57, 67]⟩ 821), (.str ⟨#[61, 57, 68]⟩ 825), (.str ⟨#[61, 57, 69]⟩ 829), (.str ⟨#[61, 57, 70]⟩ 833), (.str ⟨#[61, 65, 48]⟩ 837), (.str ⟨#[61, 65, 49]⟩ 841), (.str ⟨#[61, 65, 50]⟩ 845), (.str ⟨#[61, 65, 51]⟩ 849), (.str ⟨#[61, 65, 52]⟩ 853), (.str ⟨#[61, 65, 53]⟩ 857), (.str ⟨#[61, 65, 54]⟩ 861), (.str ⟨#[61, 65, 55]⟩ 865), (.str ⟨#[61, 65, 56]⟩ 869), (.str ⟨#[61, 65, 57]⟩ 873), (.str ⟨#[61, 65, 65]⟩ 877), (.str ⟨#[61, 65, 66]⟩ 881), (.str ⟨#[61, 65, 67]⟩ 885), (.str ⟨#[61, 65, 68]⟩ 889), (.str ⟨#[61, 65, 69]⟩ 893), (.str ⟨#[61, 65, 70]⟩ 897), (.str ⟨#[61, 66, 48]⟩ 901), (.str ⟨#[61, 66, 49]⟩ 905), (.str ⟨#[61, 66, 50]⟩ 909), (.str ⟨#[61, 66, 51]⟩ 913), (.str ⟨#[61, 66, 52]⟩ 917), (.str ⟨#[61, 66, 53]⟩ 921), (.str ⟨#[61, 66, 54]⟩ 925), (.str ⟨#[61, 66, 55]⟩ 929), (.str ⟨#[61, 66, 56]⟩ 933), (.str ⟨#[61, 66, 57]⟩ 937), (.str ⟨#[61, 66, 65]⟩ 941), (.str ⟨#[61, 66, 66]⟩ 945), (.str ⟨#[61, 66, 67]⟩ 949), (.str ⟨#[61, 66, 68]⟩ 953), (.str ⟨#[61, 66, 69]⟩ 957), (.str ⟨#[61, 66, 70]⟩ 961), (.str ⟨#[61, 67, 48]⟩ 965), (.str ⟨#[61, 67, 49]⟩ 969), (.str ⟨#[61, 67, 50]⟩ 973), (.str ⟨#[61, 67, 51]⟩ 977), (.str ⟨#[61, 67, 52]⟩ 981), (.str ⟨#[61, 67, 53]⟩ 985), (.str ⟨#[61, 67, 54]⟩ 989), (.str ⟨#[61, 67, 55]⟩ 993), (.str ⟨#[61, 67, 56]⟩ 997), (.str ⟨#[61, 67, 57]⟩ 1001), (.str ⟨#[61, 67, 65]⟩ 1005), (.str ⟨#[61, 67, 66]⟩ 1009), (.str ⟨#[61, 67, 67]⟩ 1013), (.str ⟨#[61, 67, 68]⟩ 1017), (.str ⟨#[61, 67, 69]⟩ 1021), (.str ⟨#[61, 67, 70]⟩ 1025), (.str ⟨#[61, 68, 48]⟩ 1029), (.str ⟨#[61, 68, 49]⟩ 1033), (.str ⟨#[61, 68, 50]⟩ 1037), (.str ⟨#[61, 68, 51]⟩ 1041), (.str ⟨#[61, 68, 52]⟩ 1045), (.str ⟨#[61, 68, 53]⟩ 1049), (.str ⟨#[61, 68, 54]⟩ 1053), (.str ⟨#[61, 68, 55]⟩ 1057), (.str ⟨#[61, 68, 56]⟩ 1061), (.str ⟨#[61, 68, 57]⟩ 1065), (.str ⟨#[61, 68, 65]⟩ 1069), (.str ⟨#[61, 68, 66]⟩ 1073), (.str ⟨#[61, 68, 67]⟩ 1077), (.str ⟨#[61, 68, 68]⟩ 1081), (.str ⟨#[61, 68, 69]⟩ 1085), (.str ⟨#[61, 68, 70]⟩ 1089), (.str ⟨#[61, 69, 48]⟩ 1093), (.str ⟨#[61, 69, 49]⟩ 1097), (.str ⟨#[61, 69, 50]⟩ 1101), (.str ⟨#[61, 69, 51]⟩ 1105), (.str ⟨#[61, 69, 52]⟩ 1109), (.str ⟨#[61, 69, 53]⟩ 1113), (.str ⟨#[61, 69, 54]⟩ 1117), (.str ⟨#[61, 69, 55]⟩ 1121), (.str ⟨#[61, 69, 56]⟩ 1125), (.str ⟨#[61, 69, 57]⟩ 1129), (.str ⟨#[61, 69, 65]⟩ 1133), (.str ⟨#[61, 69, 66]⟩ 1137), (.str ⟨#[61, 69, 67]⟩ 1141), (.str ⟨#[61, 69, 68]⟩ 1145), (.str ⟨#[61, 69, 69]⟩ 1149), (.str ⟨#[61, 69, 70]⟩ 1153), (.str ⟨#[61, 70, 48]⟩ 1157), (.str ⟨#[61, 70, 49]⟩ 1161), (.str ⟨#[61, 70, 50]⟩ 1165), (.str ⟨#[61, 70, 51]⟩ 1169), (.str ⟨#[61, 70, 52]⟩ 1173), (.str ⟨#[61, 70, 53]⟩ 1177), (.str ⟨#[61, 70, 54]⟩ 1181), (.str ⟨#[61, 70, 55]⟩ 1185), (.str ⟨#[61, 70, 56]⟩ 1189), (.str ⟨#[61, 70, 57]⟩ 1193), (.str ⟨#[61, 70, 65]⟩ 1197), (.str ⟨#[61, 70, 66]⟩ 1201), (.str ⟨#[61, 70, 67]⟩ 1205), (.str ⟨#[61, 70, 68]⟩ 1209), (.str ⟨#[61, 70, 69]⟩ 1213), (.str ⟨#[61, 70, 70]⟩ 1217)]
noncomputable def hD3 (P : Params) : List DictEntry := [⟨PyData.keyHash P ⟨#[95, 95, 110, 97, 109, 101, 95, 95]⟩, (.str ⟨#[95, 95, 110, 97, 109, 101, 95, 95]⟩ 165), (.str ⟨#[99, 112, 121, 51, 49, 51, 46, 101, 109, 97, 105, 108, 46, 113, 117, 111, 112, 114, 105, 109, 105, 109, 101]⟩ 1234)⟩, ⟨PyData.keyHash P ⟨#[95, 95, 100, 111, 99, 95, 95]⟩, (.str ⟨#[95, 95, 100, 111, 99, 95, 95]⟩ 166), .none⟩, ⟨PyData.keyHash P ⟨#[95, 95, 112, 97, 99, 107, 97, 103, 101, 95, 95]⟩, (.str ⟨#[95, 95, 112, 97, 99, 107, 97, 103, 101, 95, 95]⟩ 167), .none⟩, ⟨PyData.keyHash P ⟨#[95, 95, 108, 111, 97, 100, 101, 114, 95, 95]⟩, (.str ⟨#[95, 95, 108, 111, 97, 100, 101, 114, 95, 95]⟩ 168), (.builtin "__main__.__loader__#opaque")⟩, ⟨PyData.keyHash P ⟨#[95, 95, 115, 112, 101, 99, 95, 95]⟩, (.str ⟨#[95, 95, 115, 112, 101, 99, 95, 95]⟩ 169), .none⟩, ⟨PyData.keyHash P ⟨#[95, 95, 97, 110, 110, 111, 116, 97, 116, 105, 111, 110, 115, 95, 95]⟩, (.str ⟨#[95, 95, 97, 110, 110, 111, 116, 97, 116, 105, 111, 110, 115, 95, 95]⟩ 170), (.ref 6)⟩, ⟨PyData.keyHash P ⟨#[95, 95, 98, 117, 105, 108, 116, 105, 110, 115, 95, 95]⟩, (.str ⟨#[95, 95, 98, 117, 105, 108, 116, 105, 110, 115, 95, 95]⟩ 171), (.ref 4)⟩, ⟨PyData.keyHash P ⟨#[95, 95, 102, 105, 108, 101, 95, 95]⟩, (.str ⟨#[95, 95, 102, 105, 108, 101, 95, 95]⟩ 173), (.str ⟨#[47, 99, 108, 97, 105, 109, 47, 99, 117, 116, 46, 112, 121]⟩ 172)⟩, ⟨PyData.keyHash P ⟨#[95, 95, 99, 97, 99, 104, 101, 100, 95, 95]⟩, (.str ⟨#[95, 95, 99, 97, 99, 104, 101, 100, 95, 95]⟩ 174), .none⟩, ⟨PyData.keyHash P ⟨#[67, 82, 76, 70]⟩, (.str ⟨#[67, 82, 76, 70]⟩ 188), (.str ⟨#[13, 10]⟩ 187)⟩, ⟨PyData.keyHash P ⟨#[78, 76]⟩, (.str ⟨#[78, 76]⟩ 190), (.str ⟨#[10]⟩ 189)⟩, ⟨PyData.keyHash P ⟨#[95, 81, 85, 79, 80, 82, 73, 95, 77, 65, 80]⟩, (.str ⟨#[95, 81, 85, 79, 80, 82, 73, 95, 77, 65, 80]⟩ 1218), (.ref 17)⟩, ⟨PyData.keyHash P ⟨#[95, 81, 85, 79, 80, 82, 73, 95, 72, 69, 65, 68, 69, 82, 95, 77, 65, 80]⟩, (.str ⟨#[95, 81, 85, 79, 80, 82, 73, 95, 72, 69, 65, 68, 69, 82, 95, 77, 65, 80]⟩ 1219), (.ref 22)⟩, ⟨PyData.keyHash P ⟨#[95, 81, 85, 79, 80, 82, 73, 95, 66, 79, 68, 89, 95, 77, 65, 80]⟩, (.str ⟨#[95, 81, 85, 79, 80, 82, 73, 95, 66, 79, 68, 89, 95, 77, 65, 80]⟩ 1220), (.ref 24)⟩, ⟨PyData.keyHash P ⟨#[97, 115, 99, 105, 105, 95, 108, 111, 119, 101, 114, 99, 97, 115, 101]⟩, (.str ⟨#[97, 115, 99, 105, 105, 95, 108, 111, 119, 101, 114, 99, 97, 115, 101]⟩ 1222), (.str ⟨#[97, 98, 99, 100, 101, 102, 103, 104, 105, 106, 107, 108, 109, 110, 111, 112, 113, 114, 115, 116, 117, 118, 119, 120, 121, 122]⟩ 1221)⟩, ⟨PyData.keyHash P ⟨#[97, 115, 99, 105, 105, 95, 117, 112, 112, 101, 114, 99, 97, 115, 101]⟩, (.str ⟨#[97, 115, 99, 105, 105, 95, 117, 112, 112, 101, 114, 99, 97, 115, 101]⟩ 1224), (.str ⟨#[65, 66, 67, 68, 69, 70, 71, 72, 73, 74, 75, 76, 77, 78, 79, 80, 81, 82, 83, 84, 85, 86, 87, 88, 89, 90]⟩ 1223)⟩, ⟨PyData.keyHash P ⟨#[97, 115, 99, 105, 105, 95, 108, 101, 116, 116, 101, 114, 115]⟩, (.str ⟨#[97, 115, 99, 105, 105, 95, 108, 101, 116, 116, 101, 114, 115]⟩ 1226), (.str ⟨#[97, 98, 99, 100, 101, 102, 103, 104, 105, 106, 107, 108, 109, 110, 111, 112, 113, 114, 115, 116, 117, 118, 119, 120, 121, 122, 65, 66, 67, 68, 69, 70, 71, 72, 73, 74, 75, 76, 77, 78, 79, 80, 81, 82, 83, 84, 85, 86, 87, 88, 89, 90]⟩ 1225)⟩, ⟨PyData.keyHash P ⟨#[100, 105, 103, 105, 116, 115]⟩, (.str ⟨#[100, 105, 103, 105, 116, 115]⟩ 1228), (.str ⟨#[48, 49, 50, 51, 52, 53, 54, 55, 56, 57]⟩ 1227)⟩, ⟨PyData.keyHash P ⟨#[104, 101, 120, 100, 105, 103, 105, 116, 115]⟩, (.str ⟨#[104, 101, 120, 100, 105, 103, 105, 116, 115]⟩ 1233), (.str ⟨#[48, 49, 50, 51, 52, 53, 54, 55, 56, 57, 97, 98, 99, 100, 101, 102, 65, 66, 67, 68, 69, 70]⟩ 1232)⟩]
noncomputable def hN11 : List Nat := [45, 33, 42, 43, 47, 97, 98, 99, 100, 101, 102, 103, 104, 105, 106, 107, 108, 109, 110, 111, 112, 113, 114, 115, 116, 117, 118, 119, 120, 121, 122, 65, 66, 67, 68, 69, 70, 71, 72, 73, 74, 75, 76, 77, 78, 79, 80, 81, 82, 83, 84, 85, 86, 87, 88, 89, 90, 48, 49, 50, 51, 52, 53, 54, 55, 56, 57]
noncomputable def hN13 : List Nat := [32, 33, 34, 35, 36, 37, 38, 39, 40, 41, 42, 43, 44, 45, 46, 47, 48, 49, 50, 51, 52, 53, 54, 55, 56, 57, 58, 59, 60, 62, 63, 64, 65, 66, 67, 68, 69, 70, 71, 72, 73, 74, 75, 76, 77, 78, 79, 80, 81, 82, 83, 84, 85, 86, 87, 88, 89, 90, 91, 92, 93, 94, 95, 96, 97, 98, 99, 100, 101, 102, 103, 104, 105, 106, 107, 108, 109, 110, 111, 112, 113, 114, 115, 116, 117, 118, 119, 120, 121, 122, 123, 124, 125, 126, 9]
noncomputable def hY11 : Array UInt8 := #[45, 33, 42, 43, 47, 97, 98, 99, 100, 101, 102, 103, 104, 105, 106, 107, 108, 109, 110, 111, 112, 113, 114, 115, 116, 117, 118, 119, 120, 121, 122, 65, 66, 67, 68, 69, 70, 71, 72, 73, 74, 75, 76, 77, 78, 79, 80, 81, 82, 83, 84, 85, 86, 87, 88, 89, 90, 48, 49, 50, 51, 52, 53, 54, 55, 56, 57]
noncomputable def hY13 : Array UInt8 := #[32, 33, 34, 35, 36, 37, 38, 39, 40, 41, 42, 43, 44, 45, 46, 47, 48, 49, 50, 51, 52, 53, 54, 55, 56, 57, 58, 59, 60, 62, 63, 64, 65, 66, 67, 68, 69, 70, 71, 72, 73, 74, 75, 76, 77, 78, 79, 80, 81, 82, 83, 84, 85, 86, 87, 88, 89, 90, 91, 92, 93, 94, 95, 96, 97, 98, 99, 100, 101, 102, 103, 104, 105, 106, 107, 108, 109, 110, 111, 112, 113, 114, 115, 116, 117, 118, 119, 120, 121, 122, 123, 124, 125, 126, 9]
noncomputable def hD4 (P : Params) : List DictEntry := (hD3 P).take 19 ++ ([⟨PyData.keyHash P ⟨#[99]⟩, (.str ⟨#[99]⟩ 1244), (.int (57) 1441)⟩] : List DictEntry)
noncomputable def hD6 (P : Params) : List DictEntry := (hD4 P).take 19 ++ ([⟨PyData.keyHash P ⟨#[99]⟩, (.str ⟨#[99]⟩ 1244), (.int (9) 1730)⟩] : List DictEntry)
noncomputable def hD7 (P : Params) : List DictEntry := (hD6 P).take 19 ++ ([⟨PyData.keyHash P ⟨#[99]⟩, (.str ⟨#[99]⟩ 1244), (.int (10) 1752)⟩, ⟨PyData.keyHash P ⟨#[117, 110, 113, 117, 111, 116, 101]⟩, (.str ⟨#[117, 110, 113, 117, 111, 116, 101]⟩ 1739), (.ref 37)⟩, ⟨PyData.keyHash P ⟨#[113, 117, 111, 116, 101]⟩, (.str ⟨#[113, 117, 111, 116, 101]⟩ 1746), (.ref 44)⟩, ⟨PyData.keyHash P ⟨#[95, 81, 85, 79, 80, 82, 73, 95, 66, 79, 68, 89, 95, 69, 78, 67, 79, 68, 69, 95, 77, 65, 80]⟩, (.str ⟨#[95, 81, 85, 79, 80, 82, 73, 95, 66, 79, 68, 89, 95, 69, 78, 67, 79, 68, 69, 95, 77, 65, 80]⟩ 1747), (.ref 46)⟩] : List DictEntry)
noncomputable def hD8 (P : Params) : List DictEntry := (hD7 P).take 19 ++ ([⟨PyData.keyHash P ⟨#[117, 110, 113, 117, 111, 116, 101]⟩, (.str ⟨#[117, 110, 113, 117, 111, 116, 101]⟩ 1739), (.ref 37)⟩, ⟨PyData.keyHash P ⟨#[113, 117, 111, 116, 101]⟩, (.str ⟨#[113, 117, 111, 116, 101]⟩ 1746), (.ref 44)⟩, ⟨PyData.keyHash P ⟨#[95, 81, 85, 79, 80, 82, 73, 95, 66, 79, 68, 89, 95, 69, 78, 67, 79, 68, 69, 95, 77, 65, 80]⟩, (.str ⟨#[95, 81, 85, 79, 80, 82, 73, 95, 66, 79, 68, 89, 95, 69, 78, 67, 79, 68, 69, 95, 77, 65, 80]⟩ 1747), (.ref 46)⟩, ⟨PyData.keyHash P ⟨#[98, 111, 100, 121, 95, 101, 110, 99, 111, 100, 101]⟩, (.str ⟨#[98, 111, 100, 121, 95, 101, 110, 99, 111, 100, 101]⟩ 1774), (.ref 57)⟩, ⟨PyData.keyHash P ⟨#[100, 101, 99, 111, 100, 101]⟩, (.str ⟨#[100, 101, 99, 111, 100, 101]⟩ 1787), (.ref 65)⟩, ⟨PyData.keyHash P ⟨#[76, 80, 65, 82]⟩, (.str ⟨#[76, 80, 65, 82]⟩ 1789), (.int (7) 1788)⟩, ⟨PyData.keyHash P ⟨#[82, 80, 65, 82]⟩, (.str ⟨#[82, 80, 65, 82]⟩ 1791), (.int (8) 1790)⟩, ⟨PyData.keyHash P ⟨#[76, 83, 81, 66]⟩, (.str ⟨#[76, 83, 81, 66]⟩ 1793), (.int (9) 1792)⟩, ⟨PyData.keyHash P ⟨#[82, 83, 81, 66]⟩, (.str ⟨#[82, 83, 81, 66]⟩ 1795), (.int (10) 1794)⟩, ⟨PyData.keyHash P ⟨#[67, 79, 76, 79, 78]⟩, (.str ⟨#[67, 79, 76, 79, 78]⟩ 1797), (.int (11) 1796)⟩, ⟨PyData.keyHash P ⟨#[67, 79, 77, 77, 65]⟩, (.str ⟨#[67, 79, 77, 77, 65]⟩ 1799), (.int (12) 1798)⟩, ⟨PyData.keyHash P ⟨#[83, 69, 77, 73]⟩, (.str ⟨#[83, 69, 77, 73]⟩ 1801), (.int (13) 1800)⟩, ⟨PyData.keyHash P ⟨#[80, 76, 85, 83]⟩, (.str ⟨#[80, 76, 85, 83]⟩ 1803), (.int (14) 1802)⟩, ⟨PyData.keyHash P ⟨#[77, 73, 78, 85, 83]⟩, (.str ⟨#[77, 73, 78, 85, 83]⟩ 1805), (.int (15) 1804)⟩, ⟨PyData.keyHash P ⟨#[83, 84, 65, 82]⟩, (.str ⟨#[83, 84, 65, 82]⟩ 1807), (.int (16) 1806)⟩, ⟨PyData.keyHash P ⟨#[83, 76, 65, 83, 72]⟩, (.str ⟨#[83, 76, 65, 83, 72]⟩ 1809), (.int (17) 1808)⟩, ⟨PyData.keyHash P ⟨#[86, 66, 65, 82]⟩, (.str ⟨#[86, 66, 65, 82]⟩ 1811), (.int (18) 1810)⟩, ⟨PyData.keyHash P ⟨#[65, 77, 80, 69, 82]⟩, (.str ⟨#[65, 77, 80, 69, 82]⟩ 1813), (.int (19) 1812)⟩, ⟨PyData.keyHash P ⟨#[76, 69, 83, 83]⟩, (.str ⟨#[76, 69, 83, 83]⟩ 1815), (.int (20) 1814)⟩, ⟨PyData.keyHash P ⟨#[71, 82, 69, 65, 84, 69, 82]⟩, (.str ⟨#[71, 82, 69, 65, 84, 69, 82]⟩ 1817), (.int (21) 1816)⟩, ⟨PyData.keyHash P ⟨#[69, 81, 85, 65, 76]⟩, (.str ⟨#[69, 81, 85, 65, 76]⟩ 1819), (.int (22) 1818)⟩, ⟨PyData.keyHash P ⟨#[68, 79, 84]⟩, (.str ⟨#[68, 79, 84]⟩ 1821), (.int (23) 1820)⟩, ⟨PyData.keyHash P ⟨#[80, 69, 82, 67, 69, 78, 84]⟩, (.str ⟨#[80, 69, 82, 67, 69, 78, 84]⟩ 1823), (.int (24) 1822)⟩, ⟨PyData.keyHash P ⟨#[76, 66, 82, 65, 67, 69]⟩, (.str ⟨#[76, 66, 82, 65, 67, 69]⟩ 1825), (.int (25) 1824)⟩, ⟨PyData.keyHash P ⟨#[82, 66, 82, 65, 67, 69]⟩, (.str ⟨#[82, 66, 82, 65, 67, 69]⟩ 1827), (.int (26) 1826)⟩, ⟨PyData.keyHash P ⟨#[69, 81, 69, 81, 85, 65, 76]⟩, (.str ⟨#[69, 81, 69, 81, 85, 65, 76]⟩ 1829), (.int (27) 1828)⟩, ⟨PyData.keyHash P ⟨#[78, 79, 84, 69, 81, 85, 65, 76]⟩, (.str ⟨#[78, 79, 84, 69, 81, 85, 65, 76]⟩ 1831), (.int (28) 1830)⟩, ⟨PyData.keyHash P ⟨#[76, 69, 83, 83, 69, 81, 85, 65, 76]⟩, (.str ⟨#[76, 69, 83, 83, 69, 81, 85, 65, 76]⟩ 1833), (.int (29) 1832)⟩, ⟨PyData.keyHash P ⟨#[71, 82, 69, 65, 84, 69, 82, 69, 81, 85, 65, 76]⟩, (.str ⟨#[71, 82, 69, 65, 84, 69, 82, 69, 81, 85, 65, 76]⟩ 1835), (.int (30) 1834)⟩, ⟨PyData.keyHash P ⟨#[84, 73, 76, 68, 69]⟩, (.str ⟨#[84, 73, 76, 68, 69]⟩ 1837), (.int (31) 1836)⟩, ⟨PyData.keyHash P ⟨#[67, 73, 82, 67, 85, 77, 70, 76, 69, 88]⟩, (.str ⟨#[67, 73, 82, 67, 85, 77, 70, 76, 69, 88]⟩ 1839), (.int (32) 1838)⟩, ⟨PyData.keyHash P ⟨#[76, 69, 70, 84, 83, 72, 73, 70, 84]⟩, (.str ⟨#[76, 69, 70, 84, 83, 72, 73, 70, 84]⟩ 1841), (.int (33) 1840)⟩, ⟨PyData.keyHash P ⟨#[82, 73, 71, 72, 84, 83, 72, 73, 70, 84]⟩, (.str ⟨#[82, 73, 71, 72, 84, 83, 72, 73, 70, 84]⟩ 1843), (.int (34) 1842)⟩, ⟨PyData.keyHash P ⟨#[68, 79, 85, 66, 76, 69, 83, 84, 65, 82]⟩, (.str ⟨#[68, 79, 85, 66, 76, 69, 83, 84, 65, 82]⟩ 1845), (.int (35) 1844)⟩, ⟨PyData.keyHash P ⟨#[80, 76, 85, 83, 69, 81, 85, 65, 76]⟩, (.str ⟨#[80, 76, 85, 83, 69, 81, 85, 65, 76]⟩ 1847), (.int (36) 1846)⟩, ⟨PyData.keyHash P ⟨#[77, 73, 78, 69, 81, 85, 65, 76]⟩, (.str ⟨#[77, 73, 78, 69, 81, 85, 65, 76]⟩ 1849), (.int (37) 1848)⟩, ⟨PyData.keyHash P ⟨#[83, 84, 65, 82, 69, 81, 85, 65, 76]⟩, (.str ⟨#[83, 84, 65, 82, 69, 81, 85, 65, 76]⟩ 1851), (.int (38) 1850)⟩, ⟨PyData.keyHash P ⟨#[83, 76, 65, 83, 72, 69, 81, 85, 65, 76]⟩, (.str ⟨#[83, 76, 65, 83, 72, 69, 81, 85, 65, 76]⟩ 1853), (.int (39) 1852)⟩, ⟨PyData.keyHash P ⟨#[80, 69, 82, 67, 69, 78, 84, 69, 81, 85, 65, 76]⟩, (.str ⟨#[80, 69, 82, 67, 69, 78, 84, 69, 81, 85, 65, 76]⟩ 1855), (.int (40) 1854)⟩, ⟨PyData.keyHash P ⟨#[65, 77, 80, 69, 82, 69, 81, 85, 65, 76]⟩, (.str ⟨#[65, 77, 80, 69, 82, 69, 81, 85, 65, 76]⟩ 1857), (.int (41) 1856)⟩, ⟨PyData.keyHash P ⟨#[86, 66, 65, 82, 69, 81, 85, 65, 76]⟩, (.str ⟨#[86, 66, 65, 82, 69, 81, 85, 65, 76]⟩ 1859), (.int (42) 1858)⟩, ⟨PyData.keyHash P ⟨#[67, 73, 82, 67, 85, 77, 70, 76, 69, 88, 69, 81, 85, 65, 76]⟩, (.str ⟨#[67, 73, 82, 67, 85, 77, 70, 76, 69, 88, 69, 81, 85, 65, 76]⟩ 1861), (.int (43) 1860)⟩, ⟨PyData.keyHash P ⟨#[76, 69, 70, 84, 83, 72, 73, 70, 84, 69, 81, 85, 65, 76]⟩, (.str ⟨#[76, 69, 70, 84, 83, 72, 73, 70, 84, 69, 81, 85, 65, 76]⟩ 1863), (.int (44) 1862)⟩, ⟨PyData.keyHash P ⟨#[82, 73, 71, 72, 84, 83, 72, 73, 70, 84, 69, 81, 85, 65, 76]⟩, (.str ⟨#[82, 73, 71, 72, 84, 83, 72, 73, 70, 84, 69, 81, 85, 65, 76]⟩ 1865), (.int (45) 1864)⟩, ⟨PyData.keyHash P ⟨#[68, 79, 85, 66, 76, 69, 83, 84, 65, 82, 69, 81, 85, 65, 76]⟩, (.str ⟨#[68, 79, 85, 66, 76, 69, 83, 84, 65, 82, 69, 81, 85, 65, 76]⟩ 1867), (.int (46) 1866)⟩, ⟨PyData.keyHash P ⟨#[68, 79, 85, 66, 76, 69, 83, 76, 65, 83, 72]⟩, (.str ⟨#[68, 79, 85, 66, 76, 69, 83, 76, 65, 83, 72]⟩ 1869), (.int (47) 1868)⟩, ⟨PyData.keyHash P ⟨#[68, 79, 85, 66, 76, 69, 83, 76, 65, 83, 72, 69, 81, 85, 65, 76]⟩, (.str ⟨#[68, 79, 85, 66, 76, 69, 83, 76, 65, 83, 72, 69, 81, 85, 65, 76]⟩ 1871), (.int (48) 1870)⟩, ⟨PyData.keyHash P ⟨#[65, 84]⟩, (.str ⟨#[65, 84]⟩ 1873), (.int (49) 1872)⟩, ⟨PyData.keyHash P ⟨#[65, 84, 69, 81, 85, 65, 76]⟩, (.str ⟨#[65, 84, 69, 81, 85, 65, 76]⟩ 1875), (.int (50) 1874)⟩, ⟨PyData.keyHash P ⟨#[82, 65, 82, 82, 79, 87]⟩, (.str ⟨#[82, 65, 82, 82, 79, 87]⟩ 1877), (.int (51) 1876)⟩, ⟨PyData.keyHash P ⟨#[69, 76, 76, 73, 80, 83, 73, 83]⟩, (.str ⟨#[69, 76, 76, 73, 80, 83, 73, 83]⟩ 1879), (.int (52) 1878)⟩, ⟨PyData.keyHash P ⟨#[67, 79, 76, 79, 78, 69, 81, 85, 65, 76]⟩, (.str ⟨#[67, 79, 76, 79, 78, 69, 81, 85, 65, 76]⟩ 1881), (.int (53) 1880)⟩, ⟨PyData.keyHash P ⟨#[69, 88, 67, 76, 65, 77, 65, 84, 73, 79, 78]⟩, (.str ⟨#[69, 88, 67, 76, 65, 77, 65, 84, 73, 79, 78]⟩ 1883), (.int (54) 1882)⟩] : List DictEntry)
noncomputable def hD9 (P : Params) : List DictEntry := (hD8 P).take 72 ++ ([⟨PyData.keyHash P ⟨#[69, 88, 65, 67, 84, 95, 84, 79, 75, 69, 78, 95, 84, 89, 80, 69, 83]⟩, (.str ⟨#[69, 88, 65, 67, 84, 95, 84, 79, 75, 69, 78, 95, 84, 89, 80, 69, 83]⟩ 1980), (.ref 66)⟩] : List DictEntry)
noncomputable def hD10 (P : Params) : List DictEntry := (hD9 P).take 0 ++ ([⟨PyData.keyHash P ⟨#[95, 95, 110, 97, 109, 101, 95, 95]⟩, (.str ⟨#[95, 95, 110, 97, 109, 101, 95, 95]⟩ 165), (.str ⟨#[108, 97, 119, 95, 114, 115, 48, 49, 55, 56, 95, 48, 49]⟩ 1981)⟩, ⟨PyData.keyHash P ⟨#[95, 95, 100, 111, 99, 95, 95]⟩, (.str ⟨#[95, 95, 100, 111, 99, 95, 95]⟩ 166), .none⟩, ⟨PyData.keyHash P ⟨#[95, 95, 112, 97, 99, 107, 97, 103, 101, 95, 95]⟩, (.str ⟨#[95, 95, 112, 97, 99, 107, 97, 103, 101, 95, 95]⟩ 167), .none⟩, ⟨PyData.keyHash P ⟨#[95, 95, 108, 111, 97, 100, 101, 114, 95, 95]⟩, (.str ⟨#[95, 95, 108, 111, 97, 100, 101, 114, 95, 95]⟩ 168), (.builtin "__main__.__loader__#opaque")⟩, ⟨PyData.keyHash P ⟨#[95, 95, 115, 112, 101, 99, 95, 95]⟩, (.str ⟨#[95, 95, 115, 112, 101, 99, 95, 95]⟩ 169), .none⟩, ⟨PyData.keyHash P ⟨#[95, 95, 97, 110, 110, 111, 116, 97, 116, 105, 111, 110, 115, 95, 95]⟩, (.str ⟨#[95, 95, 97, 110, 110, 111, 116, 97, 116, 105, 111, 110, 115, 95, 95]⟩ 170), (.ref 6)⟩, ⟨PyData.keyHash P ⟨#[95, 95, 98, 117, 105, 108, 116, 105, 110, 115, 95, 95]⟩, (.str ⟨#[95, 95, 98, 117, 105, 108, 116, 105, 110, 115, 95, 95]⟩ 171), (.ref 4)⟩, ⟨PyData.keyHash P ⟨#[95, 95, 102, 105, 108, 101, 95, 95]⟩, (.str ⟨#[95, 95, 102, 105, 108, 101, 95, 95]⟩ 173), (.str ⟨#[47, 99, 108, 97, 105, 109, 47, 99, 117, 116, 46, 112, 121]⟩ 172)⟩, ⟨PyData.keyHash P ⟨#[95, 95, 99, 97, 99, 104, 101, 100, 95, 95]⟩, (.str ⟨#[95, 95, 99, 97, 99, 104, 101, 100, 95, 95]⟩ 174), .none⟩, ⟨PyData.keyHash P ⟨#[67, 82, 76, 70]⟩, (.str ⟨#[67, 82, 76, 70]⟩ 188), (.str ⟨#[13, 10]⟩ 187)⟩, ⟨PyData.keyHash P ⟨#[78, 76]⟩, (.str ⟨#[78, 76]⟩ 190), (.str ⟨#[10]⟩ 189)⟩, ⟨PyData.keyHash P ⟨#[95, 81, 85, 79, 80, 82, 73, 95, 77, 65, 80]⟩, (.str ⟨#[95, 81, 85, 79, 80, 82, 73, 95, 77, 65, 80]⟩ 1218), (.ref 17)⟩, ⟨PyData.keyHash P ⟨#[95, 81, 85, 79, 80, 82, 73, 95, 72, 69, 65, 68, 69, 82, 95, 77, 65, 80]⟩, (.str ⟨#[95, 81, 85, 79, 80, 82, 73, 95, 72, 69, 65, 68, 69, 82, 95, 77, 65, 80]⟩ 1219), (.ref 22)⟩, ⟨PyData.keyHash P ⟨#[95, 81, 85, 79, 80, 82, 73, 95, 66, 79, 68, 89, 95, 77, 65, 80]⟩, (.str ⟨#[95, 81, 85, 79, 80, 82, 73, 95, 66, 79, 68, 89, 95, 77, 65, 80]⟩ 1220), (.ref 24)⟩, ⟨PyData.keyHash P ⟨#[97, 115, 99, 105, 105, 95, 108, 111, 119, 101, 114, 99, 97, 115, 101]⟩, (.str ⟨#[97, 115, 99, 105, 105, 95, 108, 111, 119, 101, 114, 99, 97, 115, 101]⟩ 1222), (.str ⟨#[97, 98, 99, 100, 101, 102, 103, 104, 105, 106, 107, 108, 109, 110, 111, 112, 113, 114, 115, 116, 117, 118, 119, 120, 121, 122]⟩ 1221)⟩, ⟨PyData.keyHash P ⟨#[97, 115, 99, 105, 105, 95, 117, 112, 112, 101, 114, 99, 97, 115, 101]⟩, (.str ⟨#[97, 115, 99, 105, 105, 95, 117, 112, 112, 101, 114, 99, 97, 115, 101]⟩ 1224), (.str ⟨#[65, 66, 67, 68, 69, 70, 71, 72, 73, 74, 75, 76, 77, 78, 79, 80, 81, 82, 83, 84, 85, 86, 87, 88, 89, 90]⟩ 1223)⟩, ⟨PyData.keyHash P ⟨#[97, 115, 99, 105, 105, 95, 108, 101, 116, 116, 101, 114, 115]⟩, (.str ⟨#[97, 115, 99, 105, 105, 95, 108, 101, 116, 116, 101, 114, 115]⟩ 1226), (.str ⟨#[97, 98, 99, 100, 101, 102, 103, 104, 105, 106, 107, 108, 109, 110, 111, 112, 113, 114, 115, 116, 117, 118, 119, 120, 121, 122, 65, 66, 67, 68, 69, 70, 71, 72, 73, 74, 75, 76, 77, 78, 79, 80, 81, 82, 83, 84, 85, 86, 87, 88, 89, 90]⟩ 1225)⟩, ⟨PyData.keyHash P ⟨#[100, 105, 103, 105, 116, 115]⟩, (.str ⟨#[100, 105, 103, 105, 116, 115]⟩ 1228), (.str ⟨#[48, 49, 50, 51, 52, 53, 54, 55, 56, 57]⟩ 1227)⟩, ⟨PyData.keyHash P ⟨#[104, 101, 120, 100, 105, 103, 105, 116, 115]⟩, (.str ⟨#[104, 101, 120, 100, 105, 103, 105, 116, 115]⟩ 1233), (.str ⟨#[48, 49, 50, 51, 52, 53, 54, 55, 56, 57, 97, 98, 99, 100, 101, 102, 65, 66, 67, 68, 69, 70]⟩ 1232)⟩, ⟨PyData.keyHash P ⟨#[117, 110, 113, 117, 111, 116, 101]⟩, (.str ⟨#[117, 110, 113, 117, 111, 116, 101]⟩ 1739), (.ref 37)⟩, ⟨PyData.keyHash P ⟨#[113, 117, 111, 116, 101]⟩, (.str ⟨#[113, 117, 111, 116, 101]⟩ 1746), (.ref 44)⟩, ⟨PyData.keyHash P ⟨#[95, 81, 85, 79, 80, 82, 73, 95, 66, 79, 68, 89, 95, 69, 78, 67, 79, 68, 69, 95, 77, 65, 80]⟩, (.str ⟨#[95, 81, 85, 79, 80, 82, 73, 95, 66, 79, 68, 89, 95, 69, 78, 67, 79, 68, 69, 95, 77, 65, 80]⟩ 1747), (.ref 46)⟩, ⟨PyData.keyHash P ⟨#[98, 111, 100, 121, 95, 101, 110, 99, 111, 100, 101]⟩, (.str ⟨#[98, 111, 100, 121, 95, 101, 110, 99, 111, 100, 101]⟩ 1774), (.ref 57)⟩, ⟨PyData.keyHash P ⟨#[100, 101, 99, 111, 100, 101]⟩, (.str ⟨#[100, 101, 99, 111, 100, 101]⟩ 1787), (.ref 65)⟩, ⟨PyData.keyHash P ⟨#[76, 80, 65, 82]⟩, (.str ⟨#[76, 80, 65, 82]⟩ 1789), (.int (7) 1788)⟩, ⟨PyData.keyHash P ⟨#[82, 80, 65, 82]⟩, (.str ⟨#[82, 80, 65, 82]⟩ 1791), (.int (8) 1790)⟩, ⟨PyData.keyHash P ⟨#[76, 83, 81, 66]⟩, (.str ⟨#[76, 83, 81, 66]⟩ 1793), (.int (9) 1792)⟩, ⟨PyData.keyHash P ⟨#[82, 83, 81, 66]⟩, (.str ⟨#[82, 83, 81, 66]⟩ 1795), (.int (10) 1794)⟩, ⟨PyData.keyHash P ⟨#[67, 79, 76, 79, 78]⟩, (.str ⟨#[67, 79, 76, 79, 78]⟩ 1797), (.int (11) 1796)⟩, ⟨PyData.keyHash P ⟨#[67, 79, 77, 77, 65]⟩, (.str ⟨#[67, 79, 77, 77, 65]⟩ 1799), (.int (12) 1798)⟩, ⟨PyData.keyHash P ⟨#[83, 69, 77, 73]⟩, (.str ⟨#[83, 69, 77, 73]⟩ 1801), (.int (13) 1800)⟩, ⟨PyData.keyHash P ⟨#[80, 76, 85, 83]⟩, (.str ⟨#[80, 76, 85, 83]⟩ 1803), (.int (14) 1802)⟩, ⟨PyData.keyHash P ⟨#[77, 73, 78, 85, 83]⟩, (.str ⟨#[77, 73, 78, 85, 83]⟩ 1805), (.int (15) 1804)⟩, ⟨PyData.keyHash P ⟨#[83, 84, 65, 82]⟩, (.str ⟨#[83, 84, 65, 82]⟩ 1807), (.int (16) 1806)⟩, ⟨PyData.keyHash P ⟨#[83, 76, 65, 83, 72]⟩, (.str ⟨#[83, 76, 65, 83, 72]⟩ 1809), (.int (17) 1808)⟩, ⟨PyData.keyHash P ⟨#[86, 66, 65, 82]⟩, (.str ⟨#[86, 66, 65, 82]⟩ 1811), (.int (18) 1810)⟩, ⟨PyData.keyHash P ⟨#[65, 77, 80, 69, 82]⟩, (.str ⟨#[65, 77, 80, 69, 82]⟩ 1813), (.int (19) 1812)⟩, ⟨PyData.keyHash P ⟨#[76, 69, 83, 83]⟩, (.str ⟨#[76, 69, 83, 83]⟩ 1815), (.int (20) 1814)⟩, ⟨PyData.keyHash P ⟨#[71, 82, 69, 65, 84, 69, 82]⟩, (.str ⟨#[71, 82, 69, 65, 84, 69, 82]⟩ 1817), (.int (21) 1816)⟩, ⟨PyData.keyHash P ⟨#[69, 81, 85, 65, 76]⟩, (.str ⟨#[69, 81, 85, 65, 76]⟩ 1819), (.int (22) 1818)⟩, ⟨PyData.keyHash P ⟨#[68, 79, 84]⟩, (.str ⟨#[68, 79, 84]⟩ 1821), (.int (23) 1820)⟩, ⟨PyData.keyHash P ⟨#[80, 69, 82, 67, 69, 78, 84]⟩, (.str ⟨#[80, 69, 82, 67, 69, 78, 84]⟩ 1823), (.int (24) 1822)⟩, ⟨PyData.keyHash P ⟨#[76, 66, 82, 65, 67, 69]⟩, (.str ⟨#[76, 66, 82, 65, 67, 69]⟩ 1825), (.int (25) 1824)⟩, ⟨PyData.keyHash P ⟨#[82, 66, 82, 65, 67, 69]⟩, (.str ⟨#[82, 66, 82, 65, 67, 69]⟩ 1827), (.int (26) 1826)⟩, ⟨PyData.keyHash P ⟨#[69, 81, 69, 81, 85, 65, 76]⟩, (.str ⟨#[69, 81, 69, 81, 85, 65, 76]⟩ 1829), (.int (27) 1828)⟩, ⟨PyData.keyHash P ⟨#[78, 79, 84, 69, 81, 85, 65, 76]⟩, (.str ⟨#[78, 79, 84, 69, 81, 85, 65, 76]⟩ 1831), (.int (28) 1830)⟩, ⟨PyData.keyHash P ⟨#[76, 69, 83, 83, 69, 81, 85, 65, 76]⟩, (.str ⟨#[76, 69, 83, 83, 69, 81, 85, 65, 76]⟩ 1833), (.int (29) 1832)⟩, ⟨PyData.keyHash P ⟨#[71, 82, 69, 65, 84, 69, 82, 69, 81, 85, 65, 76]⟩, (.str ⟨#[71, 82, 69, 65, 84, 69, 82, 69, 81, 85, 65, 76]⟩ 1835), (.int (30) 1834)⟩, ⟨PyData.keyHash P ⟨#[84, 73, 76, 68, 69]⟩, (.str ⟨#[84, 73, 76, 68, 69]⟩ 1837), (.int (31) 1836)⟩, ⟨PyData.keyHash P ⟨#[67, 73, 82, 67, 85, 77, 70, 76, 69, 88]⟩, (.str ⟨#[67, 73, 82, 67, 85, 77, 70, 76, 69, 88]⟩ 1839), (.int (32) 1838)⟩, ⟨PyData.keyHash P ⟨#[76, 69, 70, 84, 83, 72, 73, 70, 84]⟩, (.str ⟨#[76, 69, 70, 84, 83, 72, 73, 70, 84]⟩ 1841), (.int (33) 1840)⟩, ⟨PyData.keyHash P ⟨#[82, 73, 71, 72, 84, 83, 72, 73, 70, 84]⟩, (.str ⟨#[82, 73, 71, 72, 84, 83, 72, 73, 70, 84]⟩ 1843), (.int (34) 1842)⟩, ⟨PyData.keyHash P ⟨#[68, 79, 85, 66, 76, 69, 83, 84, 65, 82]⟩, (.str ⟨#[68, 79, 85, 66, 76, 69, 83, 84, 65, 82]⟩ 1845), (.int (35) 1844)⟩, ⟨PyData.keyHash P ⟨#[80, 76, 85, 83, 69, 81, 85, 65, 76]⟩, (.str ⟨#[80, 76, 85, 83, 69, 81, 85, 65, 76]⟩ 1847), (.int (36) 1846)⟩, ⟨PyData.keyHash P ⟨#[77, 73, 78, 69, 81, 85, 65, 76]⟩, (.str ⟨#[77, 73, 78, 69, 81, 85, 65, 76]⟩ 1849), (.int (37) 1848)⟩, ⟨PyData.keyHash P ⟨#[83, 84, 65, 82, 69, 81, 85, 65, 76]⟩, (.str ⟨#[83, 84, 65, 82, 69, 81, 85, 65, 76]⟩ 1851), (.int (38) 1850)⟩, ⟨PyData.keyHash P ⟨#[83, 76, 65, 83, 72, 69, 81, 85, 65, 76]⟩, (.str ⟨#[83, 76, 65, 83, 72, 69, 81, 85, 65, 76]⟩ 1853), (.int (39) 1852)⟩, ⟨PyData.keyHash P ⟨#[80, 69, 82, 67, 69, 78, 84, 69, 81, 85, 65, 76]⟩, (.str ⟨#[80, 69, 82, 67, 69, 78, 84, 69, 81, 85, 65, 76]⟩ 1855), (.int (40) 1854)⟩, ⟨PyData.keyHash P ⟨#[65, 77, 80, 69, 82, 69, 81, 85, 65, 76]⟩, (.str ⟨#[65, 77, 80, 69, 82, 69, 81, 85, 65, 76]⟩ 1857), (.int (41) 1856)⟩, ⟨PyData.keyHash P ⟨#[86, 66, 65, 82, 69, 81, 85, 65, 76]⟩, (.str ⟨#[86, 66, 65, 82, 69, 81, 85, 65, 76]⟩ 1859), (.int (42) 1858)⟩, ⟨PyData.keyHash P ⟨#[67, 73, 82, 67, 85, 77, 70, 76, 69, 88, 69, 81, 85, 65, 76]⟩, (.str ⟨#[67, 73, 82, 67, 85, 77, 70, 76, 69, 88, 69, 81, 85, 65, 76]⟩ 1861), (.int (43) 1860)⟩, ⟨PyData.keyHash P ⟨#[76, 69, 70, 84, 83, 72, 73, 70, 84, 69, 81, 85, 65, 76]⟩, (.str ⟨#[76, 69, 70, 84, 83, 72, 73, 70, 84, 69, 81, 85, 65, 76]⟩ 1863), (.int (44) 1862)⟩, ⟨PyData.keyHash P ⟨#[82, 73, 71, 72, 84, 83, 72, 73, 70, 84, 69, 81, 85, 65, 76]⟩, (.str ⟨#[82, 73, 71, 72, 84, 83, 72, 73, 70, 84, 69, 81, 85, 65, 76]⟩ 1865), (.int (45) 1864)⟩, ⟨PyData.keyHash P ⟨#[68, 79, 85, 66, 76, 69, 83, 84, 65, 82, 69, 81, 85, 65, 76]⟩, (.str ⟨#[68, 79, 85, 66, 76, 69, 83, 84, 65, 82, 69, 81, 85, 65, 76]⟩ 1867), (.int (46) 1866)⟩, ⟨PyData.keyHash P ⟨#[68, 79, 85, 66, 76, 69, 83, 76, 65, 83, 72]⟩, (.str ⟨#[68, 79, 85, 66, 76, 69, 83, 76, 65, 83, 72]⟩ 1869), (.int (47) 1868)⟩, ⟨PyData.keyHash P ⟨#[68, 79, 85, 66, 76, 69, 83, 76, 65, 83, 72, 69, 81, 85, 65, 76]⟩, (.str ⟨#[68, 79, 85, 66, 76, 69, 83, 76, 65, 83, 72, 69, 81, 85, 65, 76]⟩ 1871), (.int (48) 1870)⟩, ⟨PyData.keyHash P ⟨#[65, 84]⟩, (.str ⟨#[65, 84]⟩ 1873), (.int (49) 1872)⟩, ⟨PyData.keyHash P ⟨#[65, 84, 69, 81, 85, 65, 76]⟩, (.str ⟨#[65, 84, 69, 81, 85, 65, 76]⟩ 1875), (.int (50) 1874)⟩, ⟨PyData.keyHash P ⟨#[82, 65, 82, 82, 79, 87]⟩, (.str ⟨#[82, 65, 82, 82, 79, 87]⟩ 1877), (.int (51) 1876)⟩, ⟨PyData.keyHash P ⟨#[69, 76, 76, 73, 80, 83, 73, 83]⟩, (.str ⟨#[69, 76, 76, 73, 80, 83, 73, 83]⟩ 1879), (.int (52) 1878)⟩, ⟨PyData.keyHash P ⟨#[67, 79, 76, 79, 78, 69, 81, 85, 65, 76]⟩, (.str ⟨#[67, 79, 76, 79, 78, 69, 81, 85, 65, 76]⟩ 1881), (.int (53) 1880)⟩, ⟨PyData.keyHash P ⟨#[69, 88, 67, 76, 65, 77, 65, 84, 73, 79, 78]⟩, (.str ⟨#[69, 88, 67, 76, 65, 77, 65, 84, 73, 79, 78]⟩ 1883), (.int (54) 1882)⟩, ⟨PyData.keyHash P ⟨#[69, 88, 65, 67, 84, 95, 84, 79, 75, 69, 78, 95, 84, 89, 80, 69, 83]⟩, (.str ⟨#[69, 88, 65, 67, 84, 95, 84, 79, 75, 69, 78, 95, 84, 89, 80, 69, 83]⟩ 1980), (.ref 66)⟩, ⟨PyData.keyHash P ⟨#[95, 108, 97, 119, 95, 111, 112, 101, 114, 97, 116, 111, 114, 115]⟩, (.str ⟨#[95, 108, 97, 119, 95, 111, 112, 101, 114, 97, 116, 111, 114, 115]⟩ 1988), (.ref 75)⟩, ⟨PyData.keyHash P ⟨#[95, 108, 97, 119, 95, 98, 101, 104, 105, 110, 100]⟩, (.str ⟨#[95, 108, 97, 119, 95, 98, 101, 104, 105, 110, 100]⟩ 1997), (.ref 82)⟩, ⟨PyData.keyHash P ⟨#[95, 108, 97, 119, 95, 114, 101, 97, 100]⟩, (.str ⟨#[95, 108, 97, 119, 95, 114, 101, 97, 100]⟩ 2007), (.ref 89)⟩, ⟨PyData.keyHash P ⟨#[95, 108, 97, 119, 95, 101, 115, 99, 97, 112, 101]⟩, (.str ⟨#[95, 108, 97, 119, 95, 101, 115, 99, 97, 112, 101]⟩ 2014), (.ref 96)⟩, ⟨PyData.keyHash P ⟨#[95, 108, 97, 119, 95, 114, 111, 119, 115]⟩, (.str ⟨#[95, 108, 97, 119, 95, 114, 111, 119, 115]⟩ 2027), (.ref 103)⟩, ⟨PyData.keyHash P ⟨#[95, 108, 97, 119, 95, 112, 97, 114, 116]⟩, (.str ⟨#[95, 108, 97, 119, 95, 112, 97, 114, 116]⟩ 2035), (.ref 110)⟩, ⟨PyData.keyHash P ⟨#[95, 108, 97, 119, 95, 110, 117, 109, 98, 101, 114, 115]⟩, (.str ⟨#[95, 108, 97, 119, 95, 110, 117, 109, 98, 101, 114, 115]⟩ 2041), (.ref 115)⟩, ⟨PyData.keyHash P ⟨#[95, 108, 97, 119, 95, 111, 110, 99, 101, 95, 109, 111, 114, 101]⟩, (.str ⟨#[95, 108, 97, 119, 95, 111, 110, 99, 101, 95, 109, 111, 114, 101]⟩ 2051), (.ref 122)⟩, ⟨PyData.keyHash P ⟨#[108, 97, 119]⟩, (.str ⟨#[108, 97, 119]⟩ 2057), (.ref 127)⟩] : List DictEntry)
noncomputable def ho0x11 (P : Params) : Obj := ⟨(.type "tuple"), none, .seq (List.toArray []) 0, #[]⟩
noncomputable def ho0x12 (P : Params) : Obj := ⟨.none, none, .fields (List.toArray []), #[]⟩
noncomputable def ho0x13 (P : Params) : Obj := ⟨(.type "code"), none, .fields (List.toArray [(.str ⟨#[60, 109, 111, 100, 117, 108, 101, 62]⟩ 182), (.str ⟨#[60, 109, 111, 100, 117, 108, 101, 62]⟩ 183), (.str ⟨#[47, 99, 108, 97, 105, 109, 47, 99, 117, 116, 46, 112, 121]⟩ 184), (.int (1) 0), (.int (0) 0), (.int (0) 0), (.int (0) 0), (.int (0) 0), (.ref 11), (.bool false), (.int (181) 0), (.ref 12), .none, .none, .none, .none, (.int (185) 0), (.int (1) 0), (.str ⟨#[47, 99, 108, 97, 105, 109, 47, 99, 117, 116, 46, 112, 121]⟩ 186)]), #[]⟩
noncomputable def ho0x14 (P : Params) : Obj := ⟨(.type "frame"), none, .plain, (List.toArray [(some (.ref 13)), (some (.ref 3)), (some (.ref 3)), none, (some (.str ⟨#[95, 95, 109, 97, 105, 110, 95, 95]⟩ 164)), none, (some (.ref 0))])⟩
noncomputable def ho1x3 (P : Params) : Obj := ⟨(.type "dict"), none, .dict (List.toArray [⟨PyData.keyHash P ⟨#[95, 95, 110, 97, 109, 101, 95, 95]⟩, (.str ⟨#[95, 95, 110, 97, 109, 101, 95, 95]⟩ 165), (.str ⟨#[95, 95, 109, 97, 105, 110, 95, 95]⟩ 164)⟩, ⟨PyData.keyHash P ⟨#[95, 95, 100, 111, 99, 95, 95]⟩, (.str ⟨#[95, 95, 100, 111, 99, 95, 95]⟩ 166), .none⟩, ⟨PyData.keyHash P ⟨#[95, 95, 112, 97, 99, 107, 97, 103, 101, 95, 95]⟩, (.str ⟨#[95, 95, 112, 97, 99, 107, 97, 103, 101, 95, 95]⟩ 167), .none⟩, ⟨PyData.keyHash P ⟨#[95, 95, 108, 111, 97, 100, 101, 114, 95, 95]⟩, (.str ⟨#[95, 95, 108, 111, 97, 100, 101, 114, 95, 95]⟩ 168), (.builtin "__main__.__loader__#opaque")⟩, ⟨PyData.keyHash P ⟨#[95, 95, 115, 112, 101, 99, 95, 95]⟩, (.str ⟨#[95, 95, 115, 112, 101, 99, 95, 95]⟩ 169), .none⟩, ⟨PyData.keyHash P ⟨#[95, 95, 97, 110, 110, 111, 116, 97, 116, 105, 111, 110, 115, 95, 95]⟩, (.str ⟨#[95, 95, 97, 110, 110, 111, 116, 97, 116, 105, 111, 110, 115, 95, 95]⟩ 170), (.ref 6)⟩, ⟨PyData.keyHash P ⟨#[95, 95, 98, 117, 105, 108, 116, 105, 110, 115, 95, 95]⟩, (.str ⟨#[95, 95, 98, 117, 105, 108, 116, 105, 110, 115, 95, 95]⟩ 171), (.ref 4)⟩, ⟨PyData.keyHash P ⟨#[95, 95, 102, 105, 108, 101, 95, 95]⟩, (.str ⟨#[95, 95, 102, 105, 108, 101, 95, 95]⟩ 173), (.str ⟨#[47, 99, 108, 97, 105, 109, 47, 99, 117, 116, 46, 112, 121]⟩ 172)⟩, ⟨PyData.keyHash P ⟨#[95, 95, 99, 97, 99, 104, 101, 100, 95, 95]⟩, (.str ⟨#[95, 95, 99, 97, 99, 104, 101, 100, 95, 95]⟩ 174), .none⟩, ⟨PyData.keyHash P ⟨#[67, 82, 76, 70]⟩, (.str ⟨#[67, 82, 76, 70]⟩ 188), (.str ⟨#[13, 10]⟩ 187)⟩, ⟨PyData.keyHash P ⟨#[78, 76]⟩, (.str ⟨#[78, 76]⟩ 190), (.str ⟨#[10]⟩ 189)⟩]) 11, #[]⟩
noncomputable def ho2x3 (P : Params) : Obj := ⟨(.type "dict"), none, .dict (List.toArray [⟨PyData.keyHash P ⟨#[95, 95, 110, 97, 109, 101, 95, 95]⟩, (.str ⟨#[95, 95, 110, 97, 109, 101, 95, 95]⟩ 165), (.str ⟨#[95, 95, 109, 97, 105, 110, 95, 95]⟩ 164)⟩, ⟨PyData.keyHash P ⟨#[95, 95, 100, 111, 99, 95, 95]⟩, (.str ⟨#[95, 95, 100, 111, 99, 95, 95]⟩ 166), .none⟩, ⟨PyData.keyHash P ⟨#[95, 95, 112, 97, 99, 107, 97, 103, 101, 95, 95]⟩, (.str ⟨#[95, 95, 112, 97, 99, 107, 97, 103, 101, 95, 95]⟩ 167), .none⟩, ⟨PyData.keyHash P ⟨#[95, 95, 108, 111, 97, 100, 101, 114, 95, 95]⟩, (.str ⟨#[95, 95, 108, 111, 97, 100, 101, 114, 95, 95]⟩ 168), (.builtin "__main__.__loader__#opaque")⟩, ⟨PyData.keyHash P ⟨#[95, 95, 115, 112, 101, 99, 95, 95]⟩, (.str ⟨#[95, 95, 115, 112, 101, 99, 95, 95]⟩ 169), .none⟩, ⟨PyData.keyHash P ⟨#[95, 95, 97, 110, 110, 111, 116, 97, 116, 105, 111, 110, 115, 95, 95]⟩, (.str ⟨#[95, 95, 97, 110, 110, 111, 116, 97, 116, 105, 111, 110, 115, 95, 95]⟩ 170), (.ref 6)⟩, ⟨PyData.keyHash P ⟨#[95, 95, 98, 117, 105, 108, 116, 105, 110, 115, 95, 95]⟩, (.str ⟨#[95, 95, 98, 117, 105, 108, 116, 105, 110, 115, 95, 95]⟩ 171), (.ref 4)⟩, ⟨PyData.keyHash P ⟨#[95, 95, 102, 105, 108, 101, 95, 95]⟩, (.str ⟨#[95, 95, 102, 105, 108, 101, 95, 95]⟩ 173), (.str ⟨#[47, 99, 108, 97, 105, 109, 47, 99, 117, 116, 46, 112, 121]⟩ 172)⟩, ⟨PyData.keyHash P ⟨#[95, 95, 99, 97, 99, 104, 101, 100, 95, 95]⟩, (.str ⟨#[95, 95, 99, 97, 99, 104, 101, 100, 95, 95]⟩ 174), .none⟩, ⟨PyData.keyHash P ⟨#[67, 82, 76, 70]⟩, (.str ⟨#[67, 82, 76, 70]⟩ 188), (.str ⟨#[13, 10]⟩ 187)⟩, ⟨PyData.keyHash P ⟨#[78, 76]⟩, (.str ⟨#[78, 76]⟩ 190), (.str ⟨#[10]⟩ 189)⟩, ⟨PyData.keyHash P ⟨#[95, 81, 85, 79, 80, 82, 73, 95, 77, 65, 80]⟩, (.str ⟨#[95, 81, 85, 79, 80, 82, 73, 95, 77, 65, 80]⟩ 1218), (.ref 17)⟩]) 12, #[]⟩
noncomputable def ho2x15 (P : Params) : Obj := ⟨(.type "range"), none, .fields (List.toArray [(.int (0) 192), (.int (256) 191), (.int (1) 193)]), #[]⟩
noncomputable def ho2x16 (P : Params) : Obj := ⟨(.type "range_iterator"), none, .fields (List.toArray [(.int (256) 0), (.int (0) 0), (.int (1) 0)]), #[]⟩
noncomputable def ho2x17 (P : Params) : Obj := ⟨.type "list", none, .seq hItems.toArray 256, #[]⟩
noncomputable def ho2x18 (P : Params) : Obj := ⟨(.type "dict"), none, .dict (List.toArray []) 2, #[]⟩
noncomputable def ho2x19 (P : Params) : Obj := ⟨(.type "tuple"), none, .seq (List.toArray []) 0, #[]⟩
noncomputable def ho2x20 (P : Params) : Obj := ⟨(.type "StopIteration"), none, .fields (List.toArray [(.ref 19), .none, .none, .none, (.bool false), .none]), #[]⟩
noncomputable def ho3x3 (P : Params) : Obj := ⟨.type "dict", none, .dict (hD3 P).toArray 19, #[]⟩
noncomputable def ho3x21 (P : Params) : Obj := ⟨(.type "slice"), none, .fields (List.toArray [.none, .none, .none]), #[]⟩
noncomputable def ho3x22 (P : Params) : Obj := ⟨.type "list", none, .seq hItems.toArray 0, #[]⟩
noncomputable def ho3x23 (P : Params) : Obj := ⟨(.type "slice"), none, .fields (List.toArray [.none, .none, .none]), #[]⟩
noncomputable def ho3x24 (P : Params) : Obj := ⟨.type "list", none, .seq hItems.toArray 0, #[]⟩
noncomputable def ho4x3 (P : Params) : Obj := ⟨.type "dict", none, .dict (hD4 P).toArray 20, #[]⟩
noncomputable def ho4x22 (P : Params) : Obj := ⟨.type "list", none, .seq (hset hN11 1245 hItems).toArray 0, #[]⟩
noncomputable def ho4x25 (P : Params) : Obj := ⟨(.type "bytes_iterator"), none, .fields (List.toArray [.none, (.int (67) 0)]), #[]⟩
noncomputable def ho4x26 (P : Params) : Obj := ⟨(.type "tuple"), none, .seq (List.toArray []) 0, #[]⟩
noncomputable def ho4x27 (P : Params) : Obj := ⟨(.type "StopIteration"), none, .fields (List.toArray [(.ref 26), .none, .none, .none, (.bool false), .none]), #[]⟩
noncomputable def ho5x22 (P : Params) : Obj := ⟨.type "list", none, .seq ((hset hN11 1245 hItems).set 32 (.str ⟨#[95]⟩ 1444)).toArray 0, #[]⟩
noncomputable def ho6x3 (P : Params) : Obj := ⟨.type "dict", none, .dict (hD6 P).toArray 20, #[]⟩
noncomputable def ho6x24 (P : Params) : Obj := ⟨.type "list", none, .seq (hset hN13 1450 hItems).toArray 0, #[]⟩
noncomputable def ho6x28 (P : Params) : Obj := ⟨(.type "bytes_iterator"), none, .fields (List.toArray [.none, (.int (95) 0)]), #[]⟩
noncomputable def ho6x29 (P : Params) : Obj := ⟨(.type "tuple"), none, .seq (List.toArray []) 0, #[]⟩
noncomputable def ho6x30 (P : Params) : Obj := ⟨(.type "StopIteration"), none, .fields (List.toArray [(.ref 29), .none, .none, .none, (.bool false), .none]), #[]⟩
noncomputable def ho7x3 (P : Params) : Obj := ⟨.type "dict", none, .dict (hD7 P).toArray 23, #[]⟩
noncomputable def ho7x12 (P : Params) : Obj := ⟨.none, none, .fields (List.toArray [(.int (17) 0), (.int (0) 0), (.ref 36), (.int (19) 0), (.int (0) 0), (.ref 43)]), #[]⟩
noncomputable def ho7x31 (P : Params) : Obj := ⟨(.type "tuple"), none, .seq (List.toArray []) 0, #[]⟩
noncomputable def ho7x32 (P : Params) : Obj := ⟨.none, none, .fields (List.toArray []), #[]⟩
noncomputable def ho7x33 (P : Params) : Obj := ⟨(.type "tuple"), none, .seq (List.toArray [(.str ⟨#[115]⟩ 1736)]) 0, #[]⟩
noncomputable def ho7x34 (P : Params) : Obj := ⟨(.type "tuple"), none, .seq (List.toArray []) 0, #[]⟩
noncomputable def ho7x35 (P : Params) : Obj := ⟨.none, none, .func ⟨⟨#[117, 110, 113, 117, 111, 116, 101]⟩, ⟨#[117, 110, 113, 117, 111, 116, 101]⟩, (fdOf (stmtNo 14)).params, .stmts (fdOf (stmtNo 14)).body, (fdOf (stmtNo 14)).scope, 0, [], .none, .none, .none, .none, none, .none, .none, 0⟩, #[]⟩
noncomputable def ho7x36 (P : Params) : Obj := ⟨(.type "code"), none, .fields (List.toArray [(.str ⟨#[117, 110, 113, 117, 111, 116, 101]⟩ 1733), (.str ⟨#[117, 110, 113, 117, 111, 116, 101]⟩ 1734), (.str ⟨#[47, 99, 108, 97, 105, 109, 47, 99, 117, 116, 46, 112, 121]⟩ 1735), (.int (17) 0), (.int (1) 0), (.int (0) 0), (.int (0) 0), (.int (3) 0), (.ref 31), (.bool true), (.int (181) 0), (.ref 32), .none, (.ref 33), (.ref 34), (.ref 35), (.int (1737) 0), (.int (17) 0), (.str ⟨#[47, 99, 108, 97, 105, 109, 47, 99, 117, 116, 46, 112, 121]⟩ 1738)]), #[]⟩
noncomputable def ho7x37 (P : Params) : Obj := ⟨(.type "function"), none, .func ⟨⟨#[117, 110, 113, 117, 111, 116, 101]⟩, ⟨#[117, 110, 113, 117, 111, 116, 101]⟩, (fdOf (stmtNo 14)).params, .stmts (fdOf (stmtNo 14)).body, (fdOf (stmtNo 14)).scope, 3, [], .none, .none, .none, (.str ⟨#[99, 112, 121, 51, 49, 51, 46, 101, 109, 97, 105, 108, 46, 113, 117, 111, 112, 114, 105, 109, 105, 109, 101]⟩ 1234), none, (.ref 36), .none, 0⟩, #[]⟩
noncomputable def ho7x38 (P : Params) : Obj := ⟨(.type "tuple"), none, .seq (List.toArray []) 0, #[]⟩
noncomputable def ho7x39 (P : Params) : Obj := ⟨.none, none, .fields (List.toArray []), #[]⟩
noncomputable def ho7x40 (P : Params) : Obj := ⟨(.type "tuple"), none, .seq (List.toArray [(.str ⟨#[99]⟩ 1743)]) 0, #[]⟩
noncomputable def ho7x41 (P : Params) : Obj := ⟨(.type "tuple"), none, .seq (List.toArray []) 0, #[]⟩
noncomputable def ho7x42 (P : Params) : Obj := ⟨.none, none, .func ⟨⟨#[113, 117, 111, 116, 101]⟩, ⟨#[113, 117, 111, 116, 101]⟩, (fdOf (stmtNo 15)).params, .stmts (fdOf (stmtNo 15)).body, (fdOf (stmtNo 15)).scope, 0, [], .none, .none, .none, .none, none, .none, .none, 0⟩, #[]⟩
noncomputable def ho7x43 (P : Params) : Obj := ⟨(.type "code"), none, .fields (List.toArray [(.str ⟨#[113, 117, 111, 116, 101]⟩ 1740), (.str ⟨#[113, 117, 111, 116, 101]⟩ 1741), (.str ⟨#[47, 99, 108, 97, 105, 109, 47, 99, 117, 116, 46, 112, 121]⟩ 1742), (.int (19) 0), (.int (1) 0), (.int (0) 0), (.int (0) 0), (.int (3) 0), (.ref 38), (.bool true), (.int (181) 0), (.ref 39), .none, (.ref 40), (.ref 41), (.ref 42), (.int (1744) 0), (.int (19) 0), (.str ⟨#[47, 99, 108, 97, 105, 109, 47, 99, 117, 116, 46, 112, 121]⟩ 1745)]), #[]⟩
noncomputable def ho7x44 (P : Params) : Obj := ⟨(.type "function"), none, .func ⟨⟨#[113, 117, 111, 116, 101]⟩, ⟨#[113, 117, 111, 116, 101]⟩, (fdOf (stmtNo 15)).params, .stmts (fdOf (stmtNo 15)).body, (fdOf (stmtNo 15)).scope, 3, [], .none, .none, .none, (.str ⟨#[99, 112, 121, 51, 49, 51, 46, 101, 109, 97, 105, 108, 46, 113, 117, 111, 112, 114, 105, 109, 105, 109, 101]⟩ 1234), none, (.ref 43), .none, 0⟩, #[]⟩
noncomputable def ho7x45 (P : Params) : Obj := ⟨(.type "slice"), none, .fields (List.toArray [.none, .none, .none]), #[]⟩
noncomputable def ho7x46 (P : Params) : Obj := ⟨.type "list", none, .seq (((hset hN13 1450 hItems).set 13 (.str ⟨#[13]⟩ 1751)).set 10 (.str ⟨#[10]⟩ 1754)).toArray 0, #[]⟩
noncomputable def ho7x47 (P : Params) : Obj := ⟨(.type "bytes_iterator"), none, .fields (List.toArray [.none, (.int (2) 0)]), #[]⟩
noncomputable def ho7x48 (P : Params) : Obj := ⟨(.type "tuple"), none, .seq (List.toArray []) 0, #[]⟩
noncomputable def ho7x49 (P : Params) : Obj := ⟨(.type "StopIteration"), none, .fields (List.toArray [(.ref 48), .none, .none, .none, (.bool false), .none]), #[]⟩
noncomputable def ho8x3 (P : Params) : Obj := ⟨.type "dict", none, .dict (hD8 P).toArray 74, #[]⟩
noncomputable def ho8x12 (P : Params) : Obj := ⟨.none, none, .fields (List.toArray [(.int (17) 0), (.int (0) 0), (.ref 36), (.int (19) 0), (.int (0) 0), (.ref 43), (.int (25) 0), (.int (0) 0), (.ref 56), (.int (63) 0), (.int (0) 0), (.ref 64)]), #[]⟩
noncomputable def ho8x50 (P : Params) : Obj := ⟨(.type "tuple"), none, .seq (List.toArray [(.int (76) 1755), (.str ⟨#[10]⟩ 189)]) 0, #[]⟩
noncomputable def ho8x51 (P : Params) : Obj := ⟨(.type "tuple"), none, .seq (List.toArray []) 0, #[]⟩
noncomputable def ho8x52 (P : Params) : Obj := ⟨.none, none, .fields (List.toArray []), #[]⟩
noncomputable def ho8x53 (P : Params) : Obj := ⟨(.type "tuple"), none, .seq (List.toArray [(.str ⟨#[98, 111, 100, 121]⟩ 1759), (.str ⟨#[109, 97, 120, 108, 105, 110, 101, 108, 101, 110]⟩ 1760), (.str ⟨#[101, 111, 108]⟩ 1761), (.str ⟨#[115, 111, 102, 116, 95, 98, 114, 101, 97, 107]⟩ 1762), (.str ⟨#[109, 97, 120, 108, 105, 110, 101, 108, 101, 110, 49]⟩ 1763), (.str ⟨#[101, 110, 99, 111, 100, 101, 100, 95, 98, 111, 100, 121]⟩ 1764), (.str ⟨#[97, 112, 112, 101, 110, 100]⟩ 1765), (.str ⟨#[108, 105, 110, 101]⟩ 1766), (.str ⟨#[115, 116, 97, 114, 116]⟩ 1767), (.str ⟨#[108, 97, 115, 116, 115, 116, 97, 114, 116]⟩ 1768), (.str ⟨#[115, 116, 111, 112]⟩ 1769), (.str ⟨#[114, 111, 111, 109]⟩ 1770), (.str ⟨#[113]⟩ 1771)]) 0, #[]⟩
noncomputable def ho8x54 (P : Params) : Obj := ⟨(.type "tuple"), none, .seq (List.toArray []) 0, #[]⟩
noncomputable def ho8x55 (P : Params) : Obj := ⟨.none, none, .func ⟨⟨#[98, 111, 100, 121, 95, 101, 110, 99, 111, 100, 101]⟩, ⟨#[98, 111, 100, 121, 95, 101, 110, 99, 111, 100, 101]⟩, (fdOf (stmtNo 19)).params, .stmts (fdOf (stmtNo 19)).body, (fdOf (stmtNo 19)).scope, 0, [], .none, .none, .none, .none, none, .none, .none, 0⟩, #[]⟩
noncomputable def ho8x56 (P : Params) : Obj := ⟨(.type "code"), none, .fields (List.toArray [(.str ⟨#[98, 111, 100, 121, 95, 101, 110, 99, 111, 100, 101]⟩ 1756), (.str ⟨#[98, 111, 100, 121, 95, 101, 110, 99, 111, 100, 101]⟩ 1757), (.str ⟨#[47, 99, 108, 97, 105, 109, 47, 99, 117, 116, 46, 112, 121]⟩ 1758), (.int (25) 0), (.int (3) 0), (.int (0) 0), (.int (0) 0), (.int (3) 0), (.ref 51), (.bool true), (.int (181) 0), (.ref 52), .none, (.ref 53), (.ref 54), (.ref 55), (.int (1772) 0), (.int (25) 0), (.str ⟨#[47, 99, 108, 97, 105, 109, 47, 99, 117, 116, 46, 112, 121]⟩ 1773)]), #[]⟩
noncomputable def ho8x57 (P : Params) : Obj := ⟨(.type "function"), none, .func ⟨⟨#[98, 111, 100, 121, 95, 101, 110, 99, 111, 100, 101]⟩, ⟨#[98, 111, 100, 121, 95, 101, 110, 99, 111, 100, 101]⟩, (fdOf (stmtNo 19)).params, .stmts (fdOf (stmtNo 19)).body, (fdOf (stmtNo 19)).scope, 3, [], (.ref 50), .none, .none, (.str ⟨#[99, 112, 121, 51, 49, 51, 46, 101, 109, 97, 105, 108, 46, 113, 117, 111, 112, 114, 105, 109, 105, 109, 101]⟩ 1234), none, (.ref 56), .none, 0⟩, #[]⟩
noncomputable def ho8x58 (P : Params) : Obj := ⟨(.type "tuple"), none, .seq (List.toArray [(.str ⟨#[10]⟩ 189)]) 0, #[]⟩
noncomputable def ho8x59 (P : Params) : Obj := ⟨(.type "tuple"), none, .seq (List.toArray []) 0, #[]⟩
noncomputable def ho8x60 (P : Params) : Obj := ⟨.none, none, .fields (List.toArray []), #[]⟩
noncomputable def ho8x61 (P : Params) : Obj := ⟨(.type "tuple"), none, .seq (List.toArray [(.str ⟨#[101, 110, 99, 111, 100, 101, 100]⟩ 1778), (.str ⟨#[101, 111, 108]⟩ 1779), (.str ⟨#[100, 101, 99, 111, 100, 101, 100]⟩ 1780), (.str ⟨#[108, 105, 110, 101]⟩ 1781), (.str ⟨#[105]⟩ 1782), (.str ⟨#[110]⟩ 1783), (.str ⟨#[99]⟩ 1784)]) 0, #[]⟩
noncomputable def ho8x62 (P : Params) : Obj := ⟨(.type "tuple"), none, .seq (List.toArray []) 0, #[]⟩
noncomputable def ho8x63 (P : Params) : Obj := ⟨.none, none, .func ⟨⟨#[100, 101, 99, 111, 100, 101]⟩, ⟨#[100, 101, 99, 111, 100, 101]⟩, (fdOf (stmtNo 20)).params, .stmts (fdOf (stmtNo 20)).body, (fdOf (stmtNo 20)).scope, 0, [], .none, .none, .none, .none, none, .none, .none, 0⟩, #[]⟩
noncomputable def ho8x64 (P : Params) : Obj := ⟨(.type "code"), none, .fields (List.toArray [(.str ⟨#[100, 101, 99, 111, 100, 101]⟩ 1775), (.str ⟨#[100, 101, 99, 111, 100, 101]⟩ 1776), (.str ⟨#[47, 99, 108, 97, 105, 109, 47, 99, 117, 116, 46, 112, 121]⟩ 1777), (.int (63) 0), (.int (2) 0), (.int (0) 0), (.int (0) 0), (.int (3) 0), (.ref 59), (.bool true), (.int (181) 0), (.ref 60), .none, (.ref 61), (.ref 62), (.ref 63), (.int (1785) 0), (.int (63) 0), (.str ⟨#[47, 99, 108, 97, 105, 109, 47, 99, 117, 116, 46, 112, 121]⟩ 1786)]), #[]⟩
noncomputable def ho8x65 (P : Params) : Obj := ⟨(.type "function"), none, .func ⟨⟨#[100, 101, 99, 111, 100, 101]⟩, ⟨#[100, 101, 99, 111, 100, 101]⟩, (fdOf (stmtNo 20)).params, .stmts (fdOf (stmtNo 20)).body, (fdOf (stmtNo 20)).scope, 3, [], (.ref 58), .none, .none, (.str ⟨#[99, 112, 121, 51, 49, 51, 46, 101, 109, 97, 105, 108, 46, 113, 117, 111, 112, 114, 105, 109, 105, 109, 101]⟩ 1234), none, (.ref 64), .none, 0⟩, #[]⟩
noncomputable def ho9x3 (P : Params) : Obj := ⟨.type "dict", none, .dict (hD9 P).toArray 75, #[]⟩
noncomputable def ho9x66 (P : Params) : Obj := ⟨(.type "dict"), none, .dict (List.toArray [⟨PyData.keyHash P ⟨#[33]⟩, (.str ⟨#[33]⟩ 1884), (.int (54) 1882)⟩, ⟨PyData.keyHash P ⟨#[33, 61]⟩, (.str ⟨#[33, 61]⟩ 1886), (.int (28) 1830)⟩, ⟨PyData.keyHash P ⟨#[37]⟩, (.str ⟨#[37]⟩ 1888), (.int (24) 1822)⟩, ⟨PyData.keyHash P ⟨#[37, 61]⟩, (.str ⟨#[37, 61]⟩ 1890), (.int (40) 1854)⟩, ⟨PyData.keyHash P ⟨#[38]⟩, (.str ⟨#[38]⟩ 1892), (.int (19) 1812)⟩, ⟨PyData.keyHash P ⟨#[38, 61]⟩, (.str ⟨#[38, 61]⟩ 1894), (.int (41) 1856)⟩, ⟨PyData.keyHash P ⟨#[40]⟩, (.str ⟨#[40]⟩ 1896), (.int (7) 1788)⟩, ⟨PyData.keyHash P ⟨#[41]⟩, (.str ⟨#[41]⟩ 1898), (.int (8) 1790)⟩, ⟨PyData.keyHash P ⟨#[42]⟩, (.str ⟨#[42]⟩ 1900), (.int (16) 1806)⟩, ⟨PyData.keyHash P ⟨#[42, 42]⟩, (.str ⟨#[42, 42]⟩ 1902), (.int (35) 1844)⟩, ⟨PyData.keyHash P ⟨#[42, 42, 61]⟩, (.str ⟨#[42, 42, 61]⟩ 1904), (.int (46) 1866)⟩, ⟨PyData.keyHash P ⟨#[42, 61]⟩, (.str ⟨#[42, 61]⟩ 1906), (.int (38) 1850)⟩, ⟨PyData.keyHash P ⟨#[43]⟩, (.str ⟨#[43]⟩ 1908), (.int (14) 1802)⟩, ⟨PyData.keyHash P ⟨#[43, 61]⟩, (.str ⟨#[43, 61]⟩ 1910), (.int (36) 1846)⟩, ⟨PyData.keyHash P ⟨#[44]⟩, (.str ⟨#[44]⟩ 1912), (.int (12) 1798)⟩, ⟨PyData.keyHash P ⟨#[45]⟩, (.str ⟨#[45]⟩ 1914), (.int (15) 1804)⟩, ⟨PyData.keyHash P ⟨#[45, 61]⟩, (.str ⟨#[45, 61]⟩ 1916), (.int (37) 1848)⟩, ⟨PyData.keyHash P ⟨#[45, 62]⟩, (.str ⟨#[45, 62]⟩ 1918), (.int (51) 1876)⟩, ⟨PyData.keyHash P ⟨#[46]⟩, (.str ⟨#[46]⟩ 1920), (.int (23) 1820)⟩, ⟨PyData.keyHash P ⟨#[46, 46, 46]⟩, (.str ⟨#[46, 46, 46]⟩ 1922), (.int (52) 1878)⟩, ⟨PyData.keyHash P ⟨#[47]⟩, (.str ⟨#[47]⟩ 1924), (.int (17) 1808)⟩, ⟨PyData.keyHash P ⟨#[47, 47]⟩, (.str ⟨#[47, 47]⟩ 1926), (.int (47) 1868)⟩, ⟨PyData.keyHash P ⟨#[47, 47, 61]⟩, (.str ⟨#[47, 47, 61]⟩ 1928), (.int (48) 1870)⟩, ⟨PyData.keyHash P ⟨#[47, 61]⟩, (.str ⟨#[47, 61]⟩ 1930), (.int (39) 1852)⟩, ⟨PyData.keyHash P ⟨#[58]⟩, (.str ⟨#[58]⟩ 1932), (.int (11) 1796)⟩, ⟨PyData.keyHash P ⟨#[58, 61]⟩, (.str ⟨#[58, 61]⟩ 1934), (.int (53) 1880)⟩, ⟨PyData.keyHash P ⟨#[59]⟩, (.str ⟨#[59]⟩ 1936), (.int (13) 1800)⟩, ⟨PyData.keyHash P ⟨#[60]⟩, (.str ⟨#[60]⟩ 1938), (.int (20) 1814)⟩, ⟨PyData.keyHash P ⟨#[60, 60]⟩, (.str ⟨#[60, 60]⟩ 1940), (.int (33) 1840)⟩, ⟨PyData.keyHash P ⟨#[60, 60, 61]⟩, (.str ⟨#[60, 60, 61]⟩ 1942), (.int (44) 1862)⟩, ⟨PyData.keyHash P ⟨#[60, 61]⟩, (.str ⟨#[60, 61]⟩ 1944), (.int (29) 1832)⟩, ⟨PyData.keyHash P ⟨#[61]⟩, (.str ⟨#[61]⟩ 1946), (.int (22) 1818)⟩, ⟨PyData.keyHash P ⟨#[61, 61]⟩, (.str ⟨#[61, 61]⟩ 1948), (.int (27) 1828)⟩, ⟨PyData.keyHash P ⟨#[62]⟩, (.str ⟨#[62]⟩ 1950), (.int (21) 1816)⟩, ⟨PyData.keyHash P ⟨#[62, 61]⟩, (.str ⟨#[62, 61]⟩ 1952), (.int (30) 1834)⟩, ⟨PyData.keyHash P ⟨#[62, 62]⟩, (.str ⟨#[62, 62]⟩ 1953), (.int (34) 1842)⟩, ⟨PyData.keyHash P ⟨#[62, 62, 61]⟩, (.str ⟨#[62, 62, 61]⟩ 1954), (.int (45) 1864)⟩, ⟨PyData.keyHash P ⟨#[64]⟩, (.str ⟨#[64]⟩ 1955), (.int (49) 1872)⟩, ⟨PyData.keyHash P ⟨#[64, 61]⟩, (.str ⟨#[64, 61]⟩ 1956), (.int (50) 1874)⟩, ⟨PyData.keyHash P ⟨#[91]⟩, (.str ⟨#[91]⟩ 1957), (.int (9) 1792)⟩, ⟨PyData.keyHash P ⟨#[93]⟩, (.str ⟨#[93]⟩ 1958), (.int (10) 1794)⟩, ⟨PyData.keyHash P ⟨#[94]⟩, (.str ⟨#[94]⟩ 1959), (.int (32) 1838)⟩, ⟨PyData.keyHash P ⟨#[94, 61]⟩, (.str ⟨#[94, 61]⟩ 1960), (.int (43) 1860)⟩, ⟨PyData.keyHash P ⟨#[123]⟩, (.str ⟨#[123]⟩ 1961), (.int (25) 1824)⟩, ⟨PyData.keyHash P ⟨#[124]⟩, (.str ⟨#[124]⟩ 1962), (.int (18) 1810)⟩, ⟨PyData.keyHash P ⟨#[124, 61]⟩, (.str ⟨#[124, 61]⟩ 1963), (.int (42) 1858)⟩, ⟨PyData.keyHash P ⟨#[125]⟩, (.str ⟨#[125]⟩ 1964), (.int (26) 1826)⟩, ⟨PyData.keyHash P ⟨#[126]⟩, (.str ⟨#[126]⟩ 1965), (.int (31) 1836)⟩]) 48, #[]⟩
noncomputable def ho9x67 (P : Params) : Obj := ⟨(.type "dict"), none, .dict (List.toArray [⟨PyData.keyHash P ⟨#[45, 62]⟩, (.str ⟨#[45, 62]⟩ 1918), (.int (51) 1876)⟩, ⟨PyData.keyHash P ⟨#[46]⟩, (.str ⟨#[46]⟩ 1920), (.int (23) 1820)⟩, ⟨PyData.keyHash P ⟨#[46, 46, 46]⟩, (.str ⟨#[46, 46, 46]⟩ 1922), (.int (52) 1878)⟩, ⟨PyData.keyHash P ⟨#[47]⟩, (.str ⟨#[47]⟩ 1924), (.int (17) 1808)⟩, ⟨PyData.keyHash P ⟨#[47, 47]⟩, (.str ⟨#[47, 47]⟩ 1926), (.int (47) 1868)⟩, ⟨PyData.keyHash P ⟨#[47, 47, 61]⟩, (.str ⟨#[47, 47, 61]⟩ 1928), (.int (48) 1870)⟩, ⟨PyData.keyHash P ⟨#[47, 61]⟩, (.str ⟨#[47, 61]⟩ 1930), (.int (39) 1852)⟩, ⟨PyData.keyHash P ⟨#[58]⟩, (.str ⟨#[58]⟩ 1932), (.int (11) 1796)⟩, ⟨PyData.keyHash P ⟨#[58, 61]⟩, (.str ⟨#[58, 61]⟩ 1934), (.int (53) 1880)⟩, ⟨PyData.keyHash P ⟨#[59]⟩, (.str ⟨#[59]⟩ 1936), (.int (13) 1800)⟩, ⟨PyData.keyHash P ⟨#[60]⟩, (.str ⟨#[60]⟩ 1938), (.int (20) 1814)⟩, ⟨PyData.keyHash P ⟨#[60, 60]⟩, (.str ⟨#[60, 60]⟩ 1940), (.int (33) 1840)⟩, ⟨PyData.keyHash P ⟨#[60, 60, 61]⟩, (.str ⟨#[60, 60, 61]⟩ 1942), (.int (44) 1862)⟩, ⟨PyData.keyHash P ⟨#[60, 61]⟩, (.str ⟨#[60, 61]⟩ 1944), (.int (29) 1832)⟩, ⟨PyData.keyHash P ⟨#[61]⟩, (.str ⟨#[61]⟩ 1946), (.int (22) 1818)⟩, ⟨PyData.keyHash P ⟨#[61, 61]⟩, (.str ⟨#[61, 61]⟩ 1948), (.int (27) 1828)⟩, ⟨PyData.keyHash P ⟨#[62]⟩, (.str ⟨#[62]⟩ 1950), (.int (21) 1816)⟩]) 17, #[]⟩
noncomputable def ho9x68 (P : Params) : Obj := ⟨(.type "dict"), none, .dict (List.toArray [⟨PyData.keyHash P ⟨#[62, 61]⟩, (.str ⟨#[62, 61]⟩ 1952), (.int (30) 1834)⟩, ⟨PyData.keyHash P ⟨#[62, 62]⟩, (.str ⟨#[62, 62]⟩ 1953), (.int (34) 1842)⟩, ⟨PyData.keyHash P ⟨#[62, 62, 61]⟩, (.str ⟨#[62, 62, 61]⟩ 1954), (.int (45) 1864)⟩, ⟨PyData.keyHash P ⟨#[64]⟩, (.str ⟨#[64]⟩ 1955), (.int (49) 1872)⟩, ⟨PyData.keyHash P ⟨#[64, 61]⟩, (.str ⟨#[64, 61]⟩ 1956), (.int (50) 1874)⟩, ⟨PyData.keyHash P ⟨#[91]⟩, (.str ⟨#[91]⟩ 1957), (.int (9) 1792)⟩, ⟨PyData.keyHash P ⟨#[93]⟩, (.str ⟨#[93]⟩ 1958), (.int (10) 1794)⟩, ⟨PyData.keyHash P ⟨#[94]⟩, (.str ⟨#[94]⟩ 1959), (.int (32) 1838)⟩, ⟨PyData.keyHash P ⟨#[94, 61]⟩, (.str ⟨#[94, 61]⟩ 1960), (.int (43) 1860)⟩, ⟨PyData.keyHash P ⟨#[123]⟩, (.str ⟨#[123]⟩ 1961), (.int (25) 1824)⟩, ⟨PyData.keyHash P ⟨#[124]⟩, (.str ⟨#[124]⟩ 1962), (.int (18) 1810)⟩, ⟨PyData.keyHash P ⟨#[124, 61]⟩, (.str ⟨#[124, 61]⟩ 1963), (.int (42) 1858)⟩, ⟨PyData.keyHash P ⟨#[125]⟩, (.str ⟨#[125]⟩ 1964), (.int (26) 1826)⟩, ⟨PyData.keyHash P ⟨#[126]⟩, (.str ⟨#[126]⟩ 1965), (.int (31) 1836)⟩]) 14, #[]⟩
noncomputable def ho10x3 (P : Params) : Obj := ⟨.type "dict", none, .dict (hD10 P).toArray 84, #[]⟩
noncomputable def ho10x12 (P : Params) : Obj := ⟨.none, none, .fields (List.toArray [(.int (17) 0), (.int (0) 0), (.ref 36), (.int (19) 0), (.int (0) 0), (.ref 43), (.int (25) 0), (.int (0) 0), (.ref 56), (.int (63) 0), (.int (0) 0), (.ref 64), (.int (143) 0), (.int (0) 0), (.ref 74), (.int (145) 0), (.int (0) 0), (.ref 81), (.int (153) 0), (.int (0) 0), (.ref 88), (.int (163) 0), (.int (0) 0), (.ref 95), (.int (165) 0), (.int (0) 0), (.ref 102), (.int (186) 0), (.int (0) 0), (.ref 109), (.int (192) 0), (.int (0) 0), (.ref 114), (.int (205) 0), (.int (0) 0), (.ref 121), (.int (212) 0), (.int (0) 0), (.ref 126)]), #[]⟩
noncomputable def ho10x69 (P : Params) : Obj := ⟨(.type "tuple"), none, .seq (List.toArray []) 0, #[]⟩
noncomputable def ho10x70 (P : Params) : Obj := ⟨.none, none, .fields (List.toArray []), #[]⟩
noncomputable def ho10x71 (P : Params) : Obj := ⟨(.type "tuple"), none, .seq (List.toArray []) 0, #[]⟩
noncomputable def ho10x72 (P : Params) : Obj := ⟨(.type "tuple"), none, .seq (List.toArray []) 0, #[]⟩
noncomputable def ho10x73 (P : Params) : Obj := ⟨.none, none, .func ⟨⟨#[95, 108, 97, 119, 95, 111, 112, 101, 114, 97, 116, 111, 114, 115]⟩, ⟨#[95, 108, 97, 119, 95, 111, 112, 101, 114, 97, 116, 111, 114, 115]⟩, (fdOf (stmtNo 71)).params, .stmts (fdOf (stmtNo 71)).body, (fdOf (stmtNo 71)).scope, 0, [], .none, .none, .none, .none, none, .none, .none, 0⟩, #[]⟩
noncomputable def ho10x74 (P : Params) : Obj := ⟨(.type "code"), none, .fields (List.toArray [(.str ⟨#[95, 108, 97, 119, 95, 111, 112, 101, 114, 97, 116, 111, 114, 115]⟩ 1983), (.str ⟨#[95, 108, 97, 119, 95, 111, 112, 101, 114, 97, 116, 111, 114, 115]⟩ 1984), (.str ⟨#[47, 99, 108, 97, 105, 109, 47, 99, 117, 116, 46, 112, 121]⟩ 1985), (.int (143) 0), (.int (0) 0), (.int (0) 0), (.int (0) 0), (.int (3) 0), (.ref 69), (.bool true), (.int (181) 0), (.ref 70), .none, (.ref 71), (.ref 72), (.ref 73), (.int (1986) 0), (.int (143) 0), (.str ⟨#[47, 99, 108, 97, 105, 109, 47, 99, 117, 116, 46, 112, 121]⟩ 1987)]), #[]⟩
noncomputable def ho10x75 (P : Params) : Obj := ⟨(.type "function"), none, .func ⟨⟨#[95, 108, 97, 119, 95, 111, 112, 101, 114, 97, 116, 111, 114, 115]⟩, ⟨#[95, 108, 97, 119, 95, 111, 112, 101, 114, 97, 116, 111, 114, 115]⟩, (fdOf (stmtNo 71)).params, .stmts (fdOf (stmtNo 71)).body, (fdOf (stmtNo 71)).scope, 3, [], .none, .none, .none, (.str ⟨#[108, 97, 119, 95, 114, 115, 48, 49, 55, 56, 95, 48, 49]⟩ 1981), none, (.ref 74), .none, 0⟩, #[]⟩
noncomputable def ho10x76 (P : Params) : Obj := ⟨(.type "tuple"), none, .seq (List.toArray []) 0, #[]⟩
noncomputable def ho10x77 (P : Params) : Obj := ⟨.none, none, .fields (List.toArray []), #[]⟩
noncomputable def ho10x78 (P : Params) : Obj := ⟨(.type "tuple"), none, .seq (List.toArray [(.str ⟨#[120]⟩ 1992), (.str ⟨#[107, 105, 110, 100]⟩ 1993), (.str ⟨#[115, 105, 103, 110]⟩ 1994)]) 0, #[]⟩
noncomputable def ho10x79 (P : Params) : Obj := ⟨(.type "tuple"), none, .seq (List.toArray []) 0, #[]⟩
noncomputable def ho10x80 (P : Params) : Obj := ⟨.none, none, .func ⟨⟨#[95, 108, 97, 119, 95, 98, 101, 104, 105, 110, 100]⟩, ⟨#[95, 108, 97, 119, 95, 98, 101, 104, 105, 110, 100]⟩, (fdOf (stmtNo 72)).params, .stmts (fdOf (stmtNo 72)).body, (fdOf (stmtNo 72)).scope, 0, [], .none, .none, .none, .none, none, .none, .none, 0⟩, #[]⟩
noncomputable def ho10x81 (P : Params) : Obj := ⟨(.type "code"), none, .fields (List.toArray [(.str ⟨#[95, 108, 97, 119, 95, 98, 101, 104, 105, 110, 100]⟩ 1989), (.str ⟨#[95, 108, 97, 119, 95, 98, 101, 104, 105, 110, 100]⟩ 1990), (.str ⟨#[47, 99, 108, 97, 105, 109, 47, 99, 117, 116, 46, 112, 121]⟩ 1991), (.int (145) 0), (.int (1) 0), (.int (0) 0), (.int (0) 0), (.int (3) 0), (.ref 76), (.bool true), (.int (181) 0), (.ref 77), .none, (.ref 78), (.ref 79), (.ref 80), (.int (1995) 0), (.int (145) 0), (.str ⟨#[47, 99, 108, 97, 105, 109, 47, 99, 117, 116, 46, 112, 121]⟩ 1996)]), #[]⟩
noncomputable def ho10x82 (P : Params) : Obj := ⟨(.type "function"), none, .func ⟨⟨#[95, 108, 97, 119, 95, 98, 101, 104, 105, 110, 100]⟩, ⟨#[95, 108, 97, 119, 95, 98, 101, 104, 105, 110, 100]⟩, (fdOf (stmtNo 72)).params, .stmts (fdOf (stmtNo 72)).body, (fdOf (stmtNo 72)).scope, 3, [], .none, .none, .none, (.str ⟨#[108, 97, 119, 95, 114, 115, 48, 49, 55, 56, 95, 48, 49]⟩ 1981), none, (.ref 81), .none, 0⟩, #[]⟩
noncomputable def ho10x83 (P : Params) : Obj := ⟨(.type "tuple"), none, .seq (List.toArray []) 0, #[]⟩
noncomputable def ho10x84 (P : Params) : Obj := ⟨.none, none, .fields (List.toArray []), #[]⟩
noncomputable def ho10x85 (P : Params) : Obj := ⟨(.type "tuple"), none, .seq (List.toArray [(.str ⟨#[116, 101, 120, 116]⟩ 2001), (.str ⟨#[110, 117, 109, 98, 101, 114, 115]⟩ 2002), (.str ⟨#[97, 116]⟩ 2003), (.str ⟨#[115, 105, 122, 101]⟩ 2004)]) 0, #[]⟩
noncomputable def ho10x86 (P : Params) : Obj := ⟨(.type "tuple"), none, .seq (List.toArray []) 0, #[]⟩
noncomputable def ho10x87 (P : Params) : Obj := ⟨.none, none, .func ⟨⟨#[95, 108, 97, 119, 95, 114, 101, 97, 100]⟩, ⟨#[95, 108, 97, 119, 95, 114, 101, 97, 100]⟩, (fdOf (stmtNo 73)).params, .stmts (fdOf (stmtNo 73)).body, (fdOf (stmtNo 73)).scope, 0, [], .none, .none, .none, .none, none, .none, .none, 0⟩, #[]⟩
noncomputable def ho10x88 (P : Params) : Obj := ⟨(.type "code"), none, .fields (List.toArray [(.str ⟨#[95, 108, 97, 119, 95, 114, 101, 97, 100]⟩ 1998), (.str ⟨#[95, 108, 97, 119, 95, 114, 101, 97, 100]⟩ 1999), (.str ⟨#[47, 99, 108, 97, 105, 109, 47, 99, 117, 116, 46, 112, 121]⟩ 2000), (.int (153) 0), (.int (1) 0), (.int (0) 0), (.int (0) 0), (.int (3) 0), (.ref 83), (.bool true), (.int (181) 0), (.ref 84), .none, (.ref 85), (.ref 86), (.ref 87), (.int (2005) 0), (.int (153) 0), (.str ⟨#[47, 99, 108, 97, 105, 109, 47, 99, 117, 116, 46, 112, 121]⟩ 2006)]), #[]⟩
noncomputable def ho10x89 (P : Params) : Obj := ⟨(.type "function"), none, .func ⟨⟨#[95, 108, 97, 119, 95, 114, 101, 97, 100]⟩, ⟨#[95, 108, 97, 119, 95, 114, 101, 97, 100]⟩, (fdOf (stmtNo 73)).params, .stmts (fdOf (stmtNo 73)).body, (fdOf (stmtNo 73)).scope, 3, [], .none, .none, .none, (.str ⟨#[108, 97, 119, 95, 114, 115, 48, 49, 55, 56, 95, 48, 49]⟩ 1981), none, (.ref 88), .none, 0⟩, #[]⟩
noncomputable def ho10x90 (P : Params) : Obj := ⟨(.type "tuple"), none, .seq (List.toArray []) 0, #[]⟩
noncomputable def ho10x91 (P : Params) : Obj := ⟨.none, none, .fields (List.toArray []), #[]⟩
noncomputable def ho10x92 (P : Params) : Obj := ⟨(.type "tuple"), none, .seq (List.toArray [(.str ⟨#[115, 105, 103, 110]⟩ 2011)]) 0, #[]⟩
noncomputable def ho10x93 (P : Params) : Obj := ⟨(.type "tuple"), none, .seq (List.toArray []) 0, #[]⟩
noncomputable def ho10x94 (P : Params) : Obj := ⟨.none, none, .func ⟨⟨#[95, 108, 97, 119, 95, 101, 115, 99, 97, 112, 101]⟩, ⟨#[95, 108, 97, 119, 95, 101, 115, 99, 97, 112, 101]⟩, (fdOf (stmtNo 74)).params, .stmts (fdOf (stmtNo 74)).body, (fdOf (stmtNo 74)).scope, 0, [], .none, .none, .none, .none, none, .none, .none, 0⟩, #[]⟩
noncomputable def ho10x95 (P : Params) : Obj := ⟨(.type "code"), none, .fields (List.toArray [(.str ⟨#[95, 108, 97, 119, 95, 101, 115, 99, 97, 112, 101]⟩ 2008), (.str ⟨#[95, 108, 97, 119, 95, 101, 115, 99, 97, 112, 101]⟩ 2009), (.str ⟨#[47, 99, 108, 97, 105, 109, 47, 99, 117, 116, 46, 112, 121]⟩ 2010), (.int (163) 0), (.int (1) 0), (.int (0) 0), (.int (0) 0), (.int (3) 0), (.ref 90), (.bool true), (.int (181) 0), (.ref 91), .none, (.ref 92), (.ref 93), (.ref 94), (.int (2012) 0), (.int (163) 0), (.str ⟨#[47, 99, 108, 97, 105, 109, 47, 99, 117, 116, 46, 112, 121]⟩ 2013)]), #[]⟩
noncomputable def ho10x96 (P : Params) : Obj := ⟨(.type "function"), none, .func ⟨⟨#[95, 108, 97, 119, 95, 101, 115, 99, 97, 112, 101]⟩, ⟨#[95, 108, 97, 119, 95, 101, 115, 99, 97, 112, 101]⟩, (fdOf (stmtNo 74)).params, .stmts (fdOf (stmtNo 74)).body, (fdOf (stmtNo 74)).scope, 3, [], .none, .none, .none, (.str ⟨#[108, 97, 119, 95, 114, 115, 48, 49, 55, 56, 95, 48, 49]⟩ 1981), none, (.ref 95), .none, 0⟩, #[]⟩
noncomputable def ho10x97 (P : Params) : Obj := ⟨(.type "tuple"), none, .seq (List.toArray []) 0, #[]⟩
noncomputable def ho10x98 (P : Params) : Obj := ⟨.none, none, .fields (List.toArray []), #[]⟩
noncomputable def ho10x99 (P : Params) : Obj := ⟨(.type "tuple"), none, .seq (List.toArray [(.str ⟨#[108, 105, 110, 101]⟩ 2018), (.str ⟨#[119, 105, 100, 116, 104]⟩ 2019), (.str ⟨#[112, 105, 101, 99, 101, 115]⟩ 2020), (.str ⟨#[115, 105, 103, 110]⟩ 2021), (.str ⟨#[114, 111, 119, 115]⟩ 2022), (.str ⟨#[114, 111, 119]⟩ 2023), (.str ⟨#[102, 114, 101, 101]⟩ 2024)]) 0, #[]⟩
noncomputable def ho10x100 (P : Params) : Obj := ⟨(.type "tuple"), none, .seq (List.toArray []) 0, #[]⟩
noncomputable def ho10x101 (P : Params) : Obj := ⟨.none, none, .func ⟨⟨#[95, 108, 97, 119, 95, 114, 111, 119, 115]⟩, ⟨#[95, 108, 97, 119, 95, 114, 111, 119, 115]⟩, (fdOf (stmtNo 75)).params, .stmts (fdOf (stmtNo 75)).body, (fdOf (stmtNo 75)).scope, 0, [], .none, .none, .none, .none, none, .none, .none, 0⟩, #[]⟩
noncomputable def ho10x102 (P : Params) : Obj := ⟨(.type "code"), none, .fields (List.toArray [(.str ⟨#[95, 108, 97, 119, 95, 114, 111, 119, 115]⟩ 2015), (.str ⟨#[95, 108, 97, 119, 95, 114, 111, 119, 115]⟩ 2016), (.str ⟨#[47, 99, 108, 97, 105, 109, 47, 99, 117, 116, 46, 112, 121]⟩ 2017), (.int (165) 0), (.int (2) 0), (.int (0) 0), (.int (0) 0), (.int (3) 0), (.ref 97), (.bool true), (.int (181) 0), (.ref 98), .none, (.ref 99), (.ref 100), (.ref 101), (.int (2025) 0), (.int (165) 0), (.str ⟨#[47, 99, 108, 97, 105, 109, 47, 99, 117, 116, 46, 112, 121]⟩ 2026)]), #[]⟩
noncomputable def ho10x103 (P : Params) : Obj := ⟨(.type "function"), none, .func ⟨⟨#[95, 108, 97, 119, 95, 114, 111, 119, 115]⟩, ⟨#[95, 108, 97, 119, 95, 114, 111, 119, 115]⟩, (fdOf (stmtNo 75)).params, .stmts (fdOf (stmtNo 75)).body, (fdOf (stmtNo 75)).scope, 3, [], .none, .none, .none, (.str ⟨#[108, 97, 119, 95, 114, 115, 48, 49, 55, 56, 95, 48, 49]⟩ 1981), none, (.ref 102), .none, 0⟩, #[]⟩
noncomputable def ho10x104 (P : Params) : Obj := ⟨(.type "tuple"), none, .seq (List.toArray []) 0, #[]⟩
noncomputable def ho10x105 (P : Params) : Obj := ⟨.none, none, .fields (List.toArray []), #[]⟩
noncomputable def ho10x106 (P : Params) : Obj := ⟨(.type "tuple"), none, .seq (List.toArray [(.str ⟨#[112, 97, 114, 116]⟩ 2031), (.str ⟨#[111, 112, 101, 114, 97, 116, 111, 114, 115]⟩ 2032)]) 0, #[]⟩
noncomputable def ho10x107 (P : Params) : Obj := ⟨(.type "tuple"), none, .seq (List.toArray []) 0, #[]⟩
noncomputable def ho10x108 (P : Params) : Obj := ⟨.none, none, .func ⟨⟨#[95, 108, 97, 119, 95, 112, 97, 114, 116]⟩, ⟨#[95, 108, 97, 119, 95, 112, 97, 114, 116]⟩, (fdOf (stmtNo 76)).params, .stmts (fdOf (stmtNo 76)).body, (fdOf (stmtNo 76)).scope, 0, [], .none, .none, .none, .none, none, .none, .none, 0⟩, #[]⟩
noncomputable def ho10x109 (P : Params) : Obj := ⟨(.type "code"), none, .fields (List.toArray [(.str ⟨#[95, 108, 97, 119, 95, 112, 97, 114, 116]⟩ 2028), (.str ⟨#[95, 108, 97, 119, 95, 112, 97, 114, 116]⟩ 2029), (.str ⟨#[47, 99, 108, 97, 105, 109, 47, 99, 117, 116, 46, 112, 121]⟩ 2030), (.int (186) 0), (.int (2) 0), (.int (0) 0), (.int (0) 0), (.int (3) 0), (.ref 104), (.bool true), (.int (181) 0), (.ref 105), .none, (.ref 106), (.ref 107), (.ref 108), (.int (2033) 0), (.int (186) 0), (.str ⟨#[47, 99, 108, 97, 105, 109, 47, 99, 117, 116, 46, 112, 121]⟩ 2034)]), #[]⟩
noncomputable def ho10x110 (P : Params) : Obj := ⟨(.type "function"), none, .func ⟨⟨#[95, 108, 97, 119, 95, 112, 97, 114, 116]⟩, ⟨#[95, 108, 97, 119, 95, 112, 97, 114, 116]⟩, (fdOf (stmtNo 76)).params, .stmts (fdOf (stmtNo 76)).body, (fdOf (stmtNo 76)).scope, 3, [], .none, .none, .none, (.str ⟨#[108, 97, 119, 95, 114, 115, 48, 49, 55, 56, 95, 48, 49]⟩ 1981), none, (.ref 109), .none, 0⟩, #[]⟩
noncomputable def ho10x111 (P : Params) : Obj := ⟨(.type "tuple"), none, .seq (List.toArray []) 0, #[]⟩
noncomputable def ho10x112 (P : Params) : Obj := ⟨.none, none, .fields (List.toArray []), #[]⟩
noncomputable def ho10x113 (P : Params) : Obj := ⟨.none, none, .func ⟨⟨#[95, 108, 97, 119, 95, 110, 117, 109, 98, 101, 114, 115]⟩, ⟨#[95, 108, 97, 119, 95, 110, 117, 109, 98, 101, 114, 115]⟩, (fdOf (stmtNo 77)).params, .stmts (fdOf (stmtNo 77)).body, (fdOf (stmtNo 77)).scope, 0, [], .none, .none, .none, .none, none, .none, .none, 0⟩, #[]⟩
noncomputable def ho10x114 (P : Params) : Obj := ⟨(.type "code"), none, .fields (List.toArray [(.str ⟨#[95, 108, 97, 119, 95, 110, 117, 109, 98, 101, 114, 115]⟩ 2036), (.str ⟨#[95, 108, 97, 119, 95, 110, 117, 109, 98, 101, 114, 115]⟩ 2037), (.str ⟨#[47, 99, 108, 97, 105, 109, 47, 99, 117, 116, 46, 112, 121]⟩ 2038), (.int (192) 0), (.int (2) 0), (.int (0) 0), (.int (0) 0), (.int (3) 0), (.ref 111), (.bool true), (.int (181) 0), (.ref 112), .none, .none, .none, (.ref 113), (.int (2039) 0), (.int (192) 0), (.str ⟨#[47, 99, 108, 97, 105, 109, 47, 99, 117, 116, 46, 112, 121]⟩ 2040)]), #[]⟩
noncomputable def ho10x115 (P : Params) : Obj := ⟨(.type "function"), none, .func ⟨⟨#[95, 108, 97, 119, 95, 110, 117, 109, 98, 101, 114, 115]⟩, ⟨#[95, 108, 97, 119, 95, 110, 117, 109, 98, 101, 114, 115]⟩, (fdOf (stmtNo 77)).params, .stmts (fdOf (stmtNo 77)).body, (fdOf (stmtNo 77)).scope, 3, [], .none, .none, .none, (.str ⟨#[108, 97, 119, 95, 114, 115, 48, 49, 55, 56, 95, 48, 49]⟩ 1981), none, (.ref 114), .none, 0⟩, #[]⟩
noncomputable def ho10x116 (P : Params) : Obj := ⟨(.type "tuple"), none, .seq (List.toArray []) 0, #[]⟩
noncomputable def ho10x117 (P : Params) : Obj := ⟨.none, none, .fields (List.toArray []), #[]⟩
noncomputable def ho10x118 (P : Params) : Obj := ⟨(.type "tuple"), none, .seq (List.toArray [(.str ⟨#[114, 111, 119]⟩ 2045), (.str ⟨#[111, 112, 101, 114, 97, 116, 111, 114, 115]⟩ 2046), (.str ⟨#[110, 117, 109, 98, 101, 114, 115]⟩ 2047), (.str ⟨#[110, 117, 109, 98, 101, 114]⟩ 2048)]) 0, #[]⟩
noncomputable def ho10x119 (P : Params) : Obj := ⟨(.type "tuple"), none, .seq (List.toArray []) 0, #[]⟩
noncomputable def ho10x120 (P : Params) : Obj := ⟨.none, none, .func ⟨⟨#[95, 108, 97, 119, 95, 111, 110, 99, 101, 95, 109, 111, 114, 101]⟩, ⟨#[95, 108, 97, 119, 95, 111, 110, 99, 101, 95, 109, 111, 114, 101]⟩, (fdOf (stmtNo 78)).params, .stmts (fdOf (stmtNo 78)).body, (fdOf (stmtNo 78)).scope, 0, [], .none, .none, .none, .none, none, .none, .none, 0⟩, #[]⟩
noncomputable def ho10x121 (P : Params) : Obj := ⟨(.type "code"), none, .fields (List.toArray [(.str ⟨#[95, 108, 97, 119, 95, 111, 110, 99, 101, 95, 109, 111, 114, 101]⟩ 2042), (.str ⟨#[95, 108, 97, 119, 95, 111, 110, 99, 101, 95, 109, 111, 114, 101]⟩ 2043), (.str ⟨#[47, 99, 108, 97, 105, 109, 47, 99, 117, 116, 46, 112, 121]⟩ 2044), (.int (205) 0), (.int (2) 0), (.int (0) 0), (.int (0) 0), (.int (3) 0), (.ref 116), (.bool true), (.int (181) 0), (.ref 117), .none, (.ref 118), (.ref 119), (.ref 120), (.int (2049) 0), (.int (205) 0), (.str ⟨#[47, 99, 108, 97, 105, 109, 47, 99, 117, 116, 46, 112, 121]⟩ 2050)]), #[]⟩
noncomputable def ho10x122 (P : Params) : Obj := ⟨(.type "function"), none, .func ⟨⟨#[95, 108, 97, 119, 95, 111, 110, 99, 101, 95, 109, 111, 114, 101]⟩, ⟨#[95, 108, 97, 119, 95, 111, 110, 99, 101, 95, 109, 111, 114, 101]⟩, (fdOf (stmtNo 78)).params, .stmts (fdOf (stmtNo 78)).body, (fdOf (stmtNo 78)).scope, 3, [], .none, .none, .none, (.str ⟨#[108, 97, 119, 95, 114, 115, 48, 49, 55, 56, 95, 48, 49]⟩ 1981), none, (.ref 121), .none, 0⟩, #[]⟩
noncomputable def ho10x123 (P : Params) : Obj := ⟨(.type "tuple"), none, .seq (List.toArray []) 0, #[]⟩
noncomputable def ho10x124 (P : Params) : Obj := ⟨.none, none, .fields (List.toArray []), #[]⟩
noncomputable def ho10x125 (P : Params) : Obj := ⟨.none, none, .func ⟨⟨#[108, 97, 119]⟩, ⟨#[108, 97, 119]⟩, (fdOf (stmtNo 79)).params, .stmts (fdOf (stmtNo 79)).body, (fdOf (stmtNo 79)).scope, 0, [], .none, .none, .none, .none, none, .none, .none, 0⟩, #[]⟩
noncomputable def ho10x126 (P : Params) : Obj := ⟨(.type "code"), none, .fields (List.toArray [(.str ⟨#[108, 97, 119]⟩ 2052), (.str ⟨#[108, 97, 119]⟩ 2053), (.str ⟨#[47, 99, 108, 97, 105, 109, 47, 99, 117, 116, 46, 112, 121]⟩ 2054), (.int (212) 0), (.int (1) 0), (.int (0) 0), (.int (0) 0), (.int (3) 0), (.ref 123), (.bool true), (.int (181) 0), (.ref 124), .none, .none, .none, (.ref 125), (.int (2055) 0), (.int (212) 0), (.str ⟨#[47, 99, 108, 97, 105, 109, 47, 99, 117, 116, 46, 112, 121]⟩ 2056)]), #[]⟩
noncomputable def ho10x127 (P : Params) : Obj := ⟨(.type "function"), none, .func ⟨⟨#[108, 97, 119]⟩, ⟨#[108, 97, 119]⟩, (fdOf (stmtNo 79)).params, .stmts (fdOf (stmtNo 79)).body, (fdOf (stmtNo 79)).scope, 3, [], .none, .none, .none, (.str ⟨#[108, 97, 119, 95, 114, 115, 48, 49, 55, 56, 95, 48, 49]⟩ 1981), none, (.ref 126), .none, 0⟩, #[]⟩
noncomputable def ht0 (P : Params) : BT := (.node (PySem.W.boot_o_0 P) (.node (PySem.W.boot_o_1 P) (.node (PySem.W.boot_o_3 P) (.node (PySem.W.boot_o_7 P) .nil .nil) (.node (ho0x11 P) .nil .nil)) (.node (PySem.W.boot_o_5 P) (.node (PySem.W.boot_o_9 P) .nil .nil) (.node (ho0x13 P) .nil .nil))) (.node (PySem.W.boot_o_2 P) (.node (PySem.W.boot_o_4 P) (.node (PySem.W.boot_o_8 P) .nil .nil) (.node (ho0x12 P) .nil .nil)) (.node (PySem.W.boot_o_6 P) (.node (PySem.W.boot_o_10 P) .nil .nil) (.node (ho0x14 P) .nil .nil))))
noncomputable def hs0 (w : World) (os : OsState) : SharedT := ⟨ht0 w.params, 15, hlife, #[], ⟨0, 0, 0, 0⟩, 187, os⟩
noncomputable def ht1 (P : Params) : BT := (.node (PySem.W.boot_o_0 P) (.node (PySem.W.boot_o_1 P) (.node (ho1x3 P) (.node (PySem.W.boot_o_7 P) .nil .nil) (.node (ho0x11 P) .nil .nil)) (.node (PySem.W.boot_o_5 P) (.node (PySem.W.boot_o_9 P) .nil .nil) (.node (ho0x13 P) .nil .nil))) (.node (PySem.W.boot_o_2 P) (.node (PySem.W.boot_o_4 P) (.node (PySem.W.boot_o_8 P) .nil .nil) (.node (ho0x12 P) .nil .nil)) (.node (PySem.W.boot_o_6 P) (.node (PySem.W.boot_o_10 P) .nil .nil) (.node (ho0x14 P) .nil .nil))))
noncomputable def hs1 (w : World) (os : OsState) : SharedT := ⟨ht1 w.params, 15, hlife, #[], ⟨0, 0, 0, 0⟩, 191, os⟩
noncomputable def ht2 (P : Params) : BT := (.node (PySem.W.boot_o_0 P) (.node (PySem.W.boot_o_1 P) (.node (ho2x3 P) (.node (PySem.W.boot_o_7 P) (.node (ho2x15 P) .nil .nil) .nil) (.node (ho0x11 P) (.node (ho2x19 P) .nil .nil) .nil)) (.node (PySem.W.boot_o_5 P) (.node (PySem.W.boot_o_9 P) (.node (ho2x17 P) .nil .nil) .nil) (.node (ho0x13 P) .nil .nil))) (.node (PySem.W.boot_o_2 P) (.node (PySem.W.boot_o_4 P) (.node (PySem.W.boot_o_8 P) (.node (ho2x16 P) .nil .nil) .nil) (.node (ho0x12 P) (.node (ho2x20 P) .nil .nil) .nil)) (.node (PySem.W.boot_o_6 P) (.node (PySem.W.boot_o_10 P) (.node (ho2x18 P) .nil .nil) .nil) (.node (ho0x14 P) .nil .nil))))
noncomputable def hs2 (w : World) (os : OsState) : SharedT := ⟨ht2 w.params, 21, hlife, #[], ⟨0, 0, 0, 0⟩, 1219, os⟩
noncomputable def ht3 (P : Params) : BT := (.node (PySem.W.boot_o_0 P) (.node (PySem.W.boot_o_1 P) (.node (ho3x3 P) (.node (PySem.W.boot_o_7 P) (.node (ho2x15 P) .nil .nil) (.node (ho3x23 P) .nil .nil)) (.node (ho0x11 P) (.node (ho2x19 P) .nil .nil) .nil)) (.node (PySem.W.boot_o_5 P) (.node (PySem.W.boot_o_9 P) (.node (ho2x17 P) .nil .nil) .nil) (.node (ho0x13 P) (.node (ho3x21 P) .nil .nil) .nil))) (.node (PySem.W.boot_o_2 P) (.node (PySem.W.boot_o_4 P) (.node (PySem.W.boot_o_8 P) (.node (ho2x16 P) .nil .nil) (.node (ho3x24 P) .nil .nil)) (.node (ho0x12 P) (.node (ho2x20 P) .nil .nil) .nil)) (.node (PySem.W.boot_o_6 P) (.node (PySem.W.boot_o_10 P) (.node (ho2x18 P) .nil .nil) .nil) (.node (ho0x14 P) (.node (ho3x22 P) .nil .nil) .nil))))
noncomputable def hs3 (w : World) (os : OsState) : SharedT := ⟨ht3 w.params, 25, hlife, #[], ⟨0, 0, 0, 0⟩, 1236, os⟩
noncomputable def ht4 (P : Params) : BT := (.node (PySem.W.boot_o_0 P) (.node (PySem.W.boot_o_1 P) (.node (ho4x3 P) (.node (PySem.W.boot_o_7 P) (.node (ho2x15 P) .nil .nil) (.node (ho3x23 P) .nil .nil)) (.node (ho0x11 P) (.node (ho2x19 P) .nil .nil) (.node (ho4x27 P) .nil .nil))) (.node (PySem.W.boot_o_5 P) (.node (PySem.W.boot_o_9 P) (.node (ho2x17 P) .nil .nil) (.node (ho4x25 P) .nil .nil)) (.node (ho0x13 P) (.node (ho3x21 P) .nil .nil) .nil))) (.node (PySem.W.boot_o_2 P) (.node (PySem.W.boot_o_4 P) (.node (PySem.W.boot_o_8 P) (.node (ho2x16 P) .nil .nil) (.node (ho3x24 P) .nil .nil)) (.node (ho0x12 P) (.node (ho2x20 P) .nil .nil) .nil)) (.node (PySem.W.boot_o_6 P) (.node (PySem.W.boot_o_10 P) (.node (ho2x18 P) .nil .nil) (.node (ho4x26 P) .nil .nil)) (.node (ho0x14 P) (.node (ho4x22 P) .nil .nil) .nil))))
noncomputable def hs4 (w : World) (os : OsState) : SharedT := ⟨ht4 w.params, 28, hlife, #[], ⟨0, 0, 0, 0⟩, 1444, os⟩
noncomputable def ht5 (P : Params) : BT := (.node (PySem.W.boot_o_0 P) (.node (PySem.W.boot_o_1 P) (.node (ho4x3 P) (.node (PySem.W.boot_o_7 P) (.node (ho2x15 P) .nil .nil) (.node (ho3x23 P) .nil .nil)) (.node (ho0x11 P) (.node (ho2x19 P) .nil .nil) (.node (ho4x27 P) .nil .nil))) (.node (PySem.W.boot_o_5 P) (.node (PySem.W.boot_o_9 P) (.node (ho2x17 P) .nil .nil) (.node (ho4x25 P) .nil .nil)) (.node (ho0x13 P) (.node (ho3x21 P) .nil .nil) .nil))) (.node (PySem.W.boot_o_2 P) (.node (PySem.W.boot_o_4 P) (.node (PySem.W.boot_o_8 P) (.node (ho2x16 P) .nil .nil) (.node (ho3x24 P) .nil .nil)) (.node (ho0x12 P) (.node (ho2x20 P) .nil .nil) .nil)) (.node (PySem.W.boot_o_6 P) (.node (PySem.W.boot_o_10 P) (.node (ho2x18 P) .nil .nil) (.node (ho4x26 P) .nil .nil)) (.node (ho0x14 P) (.node (ho5x22 P) .nil .nil) .nil))))
noncomputable def hs5 (w : World) (os : OsState) : SharedT := ⟨ht5 w.params, 28, hlife, #[], ⟨0, 0, 0, 0⟩, 1447, os⟩
noncomputable def ht6 (P : Params) : BT := (.node (PySem.W.boot_o_0 P) (.node (PySem.W.boot_o_1 P) (.node (ho6x3 P) (.node (PySem.W.boot_o_7 P) (.node (ho2x15 P) .nil .nil) (.node (ho3x23 P) .nil .nil)) (.node (ho0x11 P) (.node (ho2x19 P) .nil .nil) (.node (ho4x27 P) .nil .nil))) (.node (PySem.W.boot_o_5 P) (.node (PySem.W.boot_o_9 P) (.node (ho2x17 P) .nil .nil) (.node (ho4x25 P) .nil .nil)) (.node (ho0x13 P) (.node (ho3x21 P) .nil .nil) (.node (ho6x29 P) .nil .nil)))) (.node (PySem.W.boot_o_2 P) (.node (PySem.W.boot_o_4 P) (.node (PySem.W.boot_o_8 P) (.node (ho2x16 P) .nil .nil) (.node (ho6x24 P) .nil .nil)) (.node (ho0x12 P) (.node (ho2x20 P) .nil .nil) (.node (ho6x28 P) .nil .nil))) (.node (PySem.W.boot_o_6 P) (.node (PySem.W.boot_o_10 P) (.node (ho2x18 P) .nil .nil) (.node (ho4x26 P) .nil .nil)) (.node (ho0x14 P) (.node (ho5x22 P) .nil .nil) (.node (ho6x30 P) .nil .nil)))))
noncomputable def hs6 (w : World) (os : OsState) : SharedT := ⟨ht6 w.params, 31, hlife, #[], ⟨0, 0, 0, 0⟩, 1733, os⟩
noncomputable def ht7 (P : Params) : BT := (.node (PySem.W.boot_o_0 P) (.node (PySem.W.boot_o_1 P) (.node (ho7x3 P) (.node (PySem.W.boot_o_7 P) (.node (ho2x15 P) (.node (ho7x31 P) .nil .nil) (.node (ho7x47 P) .nil .nil)) (.node (ho3x23 P) (.node (ho7x39 P) .nil .nil) .nil)) (.node (ho0x11 P) (.node (ho2x19 P) (.node (ho7x35 P) .nil .nil) .nil) (.node (ho4x27 P) (.node (ho7x43 P) .nil .nil) .nil))) (.node (PySem.W.boot_o_5 P) (.node (PySem.W.boot_o_9 P) (.node (ho2x17 P) (.node (ho7x33 P) .nil .nil) (.node (ho7x49 P) .nil .nil)) (.node (ho4x25 P) (.node (ho7x41 P) .nil .nil) .nil)) (.node (ho0x13 P) (.node (ho3x21 P) (.node (ho7x37 P) .nil .nil) .nil) (.node (ho6x29 P) (.node (ho7x45 P) .nil .nil) .nil)))) (.node (PySem.W.boot_o_2 P) (.node (PySem.W.boot_o_4 P) (.node (PySem.W.boot_o_8 P) (.node (ho2x16 P) (.node (ho7x32 P) .nil .nil) (.node (ho7x48 P) .nil .nil)) (.node (ho6x24 P) (.node (ho7x40 P) .nil .nil) .nil)) (.node (ho7x12 P) (.node (ho2x20 P) (.node (ho7x36 P) .nil .nil) .nil) (.node (ho6x28 P) (.node (ho7x44 P) .nil .nil) .nil))) (.node (PySem.W.boot_o_6 P) (.node (PySem.W.boot_o_10 P) (.node (ho2x18 P) (.node (ho7x34 P) .nil .nil) .nil) (.node (ho4x26 P) (.node (ho7x42 P) .nil .nil) .nil)) (.node (ho0x14 P) (.node (ho5x22 P) (.node (ho7x38 P) .nil .nil) .nil) (.node (ho6x30 P) (.node (ho7x46 P) .nil .nil) .nil)))))
noncomputable def hs7 (w : World) (os : OsState) : SharedT := ⟨ht7 w.params, 50, hlife, #[], ⟨0, 0, 0, 0⟩, 1755, os⟩
noncomputable def ht8 (P : Params) : BT := (.node (PySem.W.boot_o_0 P) (.node (PySem.W.boot_o_1 P) (.node (ho8x3 P) (.node (PySem.W.boot_o_7 P) (.node (ho2x15 P) (.node (ho7x31 P) (.node (ho8x63 P) .nil .nil) .nil) (.node (ho7x47 P) .nil .nil)) (.node (ho3x23 P) (.node (ho7x39 P) .nil .nil) (.node (ho8x55 P) .nil .nil))) (.node (ho0x11 P) (.node (ho2x19 P) (.node (ho7x35 P) .nil .nil) (.node (ho8x51 P) .nil .nil)) (.node (ho4x27 P) (.node (ho7x43 P) .nil .nil) (.node (ho8x59 P) .nil .nil)))) (.node (PySem.W.boot_o_5 P) (.node (PySem.W.boot_o_9 P) (.node (ho2x17 P) (.node (ho7x33 P) (.node (ho8x65 P) .nil .nil) .nil) (.node (ho7x49 P) .nil .nil)) (.node (ho4x25 P) (.node (ho7x41 P) .nil .nil) (.node (ho8x57 P) .nil .nil))) (.node (ho0x13 P) (.node (ho3x21 P) (.node (ho7x37 P) .nil .nil) (.node (ho8x53 P) .nil .nil)) (.node (ho6x29 P) (.node (ho7x45 P) .nil .nil) (.node (ho8x61 P) .nil .nil))))) (.node (PySem.W.boot_o_2 P) (.node (PySem.W.boot_o_4 P) (.node (PySem.W.boot_o_8 P) (.node (ho2x16 P) (.node (ho7x32 P) (.node (ho8x64 P) .nil .nil) .nil) (.node (ho7x48 P) .nil .nil)) (.node (ho6x24 P) (.node (ho7x40 P) .nil .nil) (.node (ho8x56 P) .nil .nil))) (.node (ho8x12 P) (.node (ho2x20 P) (.node (ho7x36 P) .nil .nil) (.node (ho8x52 P) .nil .nil)) (.node (ho6x28 P) (.node (ho7x44 P) .nil .nil) (.node (ho8x60 P) .nil .nil)))) (.node (PySem.W.boot_o_6 P) (.node (PySem.W.boot_o_10 P) (.node (ho2x18 P) (.node (ho7x34 P) .nil .nil) (.node (ho8x50 P) .nil .nil)) (.node (ho4x26 P) (.node (ho7x42 P) .nil .nil) (.node (ho8x58 P) .nil .nil))) (.node (ho0x14 P) (.node (ho5x22 P) (.node (ho7x38 P) .nil .nil) (.node (ho8x54 P) .nil .nil)) (.node (ho6x30 P) (.node (ho7x46 P) .nil .nil) (.node (ho8x62 P) .nil .nil))))))
noncomputable def hs8 (w : World) (os : OsState) : SharedT := ⟨ht8 w.params, 66, hlife, #[], ⟨0, 0, 0, 0⟩, 1884, os⟩
noncomputable def ht9 (P : Params) : BT := (.node (PySem.W.boot_o_0 P) (.node (PySem.W.boot_o_1 P) (.node (ho9x3 P) (.node (PySem.W.boot_o_7 P) (.node (ho2x15 P) (.node (ho7x31 P) (.node (ho8x63 P) .nil .nil) .nil) (.node (ho7x47 P) .nil .nil)) (.node (ho3x23 P) (.node (ho7x39 P) .nil .nil) (.node (ho8x55 P) .nil .nil))) (.node (ho0x11 P) (.node (ho2x19 P) (.node (ho7x35 P) (.node (ho9x67 P) .nil .nil) .nil) (.node (ho8x51 P) .nil .nil)) (.node (ho4x27 P) (.node (ho7x43 P) .nil .nil) (.node (ho8x59 P) .nil .nil)))) (.node (PySem.W.boot_o_5 P) (.node (PySem.W.boot_o_9 P) (.node (ho2x17 P) (.node (ho7x33 P) (.node (ho8x65 P) .nil .nil) .nil) (.node (ho7x49 P) .nil .nil)) (.node (ho4x25 P) (.node (ho7x41 P) .nil .nil) (.node (ho8x57 P) .nil .nil))) (.node (ho0x13 P) (.node (ho3x21 P) (.node (ho7x37 P) .nil .nil) (.node (ho8x53 P) .nil .nil)) (.node (ho6x29 P) (.node (ho7x45 P) .nil .nil) (.node (ho8x61 P) .nil .nil))))) (.node (PySem.W.boot_o_2 P) (.node (PySem.W.boot_o_4 P) (.node (PySem.W.boot_o_8 P) (.node (ho2x16 P) (.node (ho7x32 P) (.node (ho8x64 P) .nil .nil) .nil) (.node (ho7x48 P) .nil .nil)) (.node (ho6x24 P) (.node (ho7x40 P) .nil .nil) (.node (ho8x56 P) .nil .nil))) (.node (ho8x12 P) (.node (ho2x20 P) (.node (ho7x36 P) (.node (ho9x68 P) .nil .nil) .nil) (.node (ho8x52 P) .nil .nil)) (.node (ho6x28 P) (.node (ho7x44 P) .nil .nil) (.node (ho8x60 P) .nil .nil)))) (.node (PySem.W.boot_o_6 P) (.node (PySem.W.boot_o_10 P) (.node (ho2x18 P) (.node (ho7x34 P) (.node (ho9x66 P) .nil .nil) .nil) (.node (ho8x50 P) .nil .nil)) (.node (ho4x26 P) (.node (ho7x42 P) .nil .nil) (.node (ho8x58 P) .nil .nil))) (.node (ho0x14 P) (.node (ho5x22 P) (.node (ho7x38 P) .nil .nil) (.node (ho8x54 P) .nil .nil)) (.node (ho6x30 P) (.node (ho7x46 P) .nil .nil) (.node (ho8x62 P) .nil .nil))))))
noncomputable def hs9 (w : World) (os : OsState) : SharedT := ⟨ht9 w.params, 69, hlife, #[], ⟨0, 0, 0, 0⟩, 1981, os⟩
noncomputable def ht10 (P : Params) : BT := (.node (PySem.W.boot_o_0 P) (.node (PySem.W.boot_o_1 P) (.node (ho10x3 P) (.node (PySem.W.boot_o_7 P) (.node (ho2x15 P) (.node (ho7x31 P) (.node (ho8x63 P) (.node (ho10x127 P) .nil .nil) .nil) (.node (ho10x95 P) .nil .nil)) (.node (ho7x47 P) (.node (ho10x79 P) .nil .nil) (.node (ho10x111 P) .nil .nil))) (.node (ho3x23 P) (.node (ho7x39 P) (.node (ho10x71 P) .nil .nil) (.node (ho10x103 P) .nil .nil)) (.node (ho8x55 P) (.node (ho10x87 P) .nil .nil) (.node (ho10x119 P) .nil .nil)))) (.node (ho0x11 P) (.node (ho2x19 P) (.node (ho7x35 P) (.node (ho9x67 P) .nil .nil) (.node (ho10x99 P) .nil .nil)) (.node (ho8x51 P) (.node (ho10x83 P) .nil .nil) (.node (ho10x115 P) .nil .nil))) (.node (ho4x27 P) (.node (ho7x43 P) (.node (ho10x75 P) .nil .nil) (.node (ho10x107 P) .nil .nil)) (.node (ho8x59 P) (.node (ho10x91 P) .nil .nil) (.node (ho10x123 P) .nil .nil))))) (.node (PySem.W.boot_o_5 P) (.node (PySem.W.boot_o_9 P) (.node (ho2x17 P) (.node (ho7x33 P) (.node (ho8x65 P) .nil .nil) (.node (ho10x97 P) .nil .nil)) (.node (ho7x49 P) (.node (ho10x81 P) .nil .nil) (.node (ho10x113 P) .nil .nil))) (.node (ho4x25 P) (.node (ho7x41 P) (.node (ho10x73 P) .nil .nil) (.node (ho10x105 P) .nil .nil)) (.node (ho8x57 P) (.node (ho10x89 P) .nil .nil) (.node (ho10x121 P) .nil .nil)))) (.node (ho0x13 P) (.node (ho3x21 P) (.node (ho7x37 P) (.node (ho10x69 P) .nil .nil) (.node (ho10x101 P) .nil .nil)) (.node (ho8x53 P) (.node (ho10x85 P) .nil .nil) (.node (ho10x117 P) .nil .nil))) (.node (ho6x29 P) (.node (ho7x45 P) (.node (ho10x77 P) .nil .nil) (.node (ho10x109 P) .nil .nil)) (.node (ho8x61 P) (.node (ho10x93 P) .nil .nil) (.node (ho10x125 P) .nil .nil)))))) (.node (PySem.W.boot_o_2 P) (.node (PySem.W.boot_o_4 P) (.node (PySem.W.boot_o_8 P) (.node (ho2x16 P) (.node (ho7x32 P) (.node (ho8x64 P) .nil .nil) (.node (ho10x96 P) .nil .nil)) (.node (ho7x48 P) (.node (ho10x80 P) .nil .nil) (.node (ho10x112 P) .nil .nil))) (.node (ho6x24 P) (.node (ho7x40 P) (.node (ho10x72 P) .nil .nil) (.node (ho10x104 P) .nil .nil)) (.node (ho8x56 P) (.node (ho10x88 P) .nil .nil) (.node (ho10x120 P) .nil .nil)))) (.node (ho10x12 P) (.node (ho2x20 P) (.node (ho7x36 P) (.node (ho9x68 P) .nil .nil) (.node (ho10x100 P) .nil .nil)) (.node (ho8x52 P) (.node (ho10x84 P) .nil .nil) (.node (ho10x116 P) .nil .nil))) (.node (ho6x28 P) (.node (ho7x44 P) (.node (ho10x76 P) .nil .nil) (.node (ho10x108 P) .nil .nil)) (.node (ho8x60 P) (.node (ho10x92 P) .nil .nil) (.node (ho10x124 P) .nil .nil))))) (.node (PySem.W.boot_o_6 P) (.node (PySem.W.boot_o_10 P) (.node (ho2x18 P) (.node (ho7x34 P) (.node (ho9x66 P) .nil .nil) (.node (ho10x98 P) .nil .nil)) (.node (ho8x50 P) (.node (ho10x82 P) .nil .nil) (.node (ho10x114 P) .nil .nil))) (.node (ho4x26 P) (.node (ho7x42 P) (.node (ho10x74 P) .nil .nil) (.node (ho10x106 P) .nil .nil)) (.node (ho8x58 P) (.node (ho10x90 P) .nil .nil) (.node (ho10x122 P) .nil .nil)))) (.node (ho0x14 P) (.node (ho5x22 P) (.node (ho7x38 P) (.node (ho10x70 P) .nil .nil) (.node (ho10x102 P) .nil .nil)) (.node (ho8x54 P) (.node (ho10x86 P) .nil .nil) (.node (ho10x118 P) .nil .nil))) (.node (ho6x30 P) (.node (ho7x46 P) (.node (ho10x78 P) .nil .nil) (.node (ho10x110 P) .nil .nil)) (.node (ho8x62 P) (.node (ho10x94 P) .nil .nil) (.node (ho10x126 P) .nil .nil)))))))
noncomputable def hs10 (w : World) (os : OsState) : SharedT := ⟨ht10 w.params, 128, hlife, #[], ⟨0, 0, 0, 0⟩, 2058, os⟩
noncomputable def hst1 : List Stmt := [stmtNo 0, stmtNo 1]
noncomputable def hst2 : List Stmt := [stmtNo 2]
noncomputable def hst3 : List Stmt := [stmtNo 3, stmtNo 4, stmtNo 5, stmtNo 6, stmtNo 7, stmtNo 8, stmtNo 9, stmtNo 10]
noncomputable def hst4 : List Stmt := [stmtNo 11]
noncomputable def hst5 : List Stmt := [stmtNo 12]
noncomputable def hst6 : List Stmt := [stmtNo 13]
noncomputable def hst7 : List Stmt := [stmtNo 14, stmtNo 15, stmtNo 16, stmtNo 17]
noncomputable def hst8 : List Stmt := [stmtNo 18, stmtNo 19, stmtNo 20, stmtNo 21, stmtNo 22, stmtNo 23, stmtNo 24, stmtNo 25, stmtNo 26, stmtNo 27, stmtNo 28, stmtNo 29, stmtNo 30, stmtNo 31, stmtNo 32, stmtNo 33, stmtNo 34, stmtNo 35, stmtNo 36, stmtNo 37, stmtNo 38, stmtNo 39, stmtNo 40, stmtNo 41, stmtNo 42, stmtNo 43, stmtNo 44, stmtNo 45, stmtNo 46, stmtNo 47, stmtNo 48, stmtNo 49, stmtNo 50, stmtNo 51, stmtNo 52, stmtNo 53, stmtNo 54, stmtNo 55, stmtNo 56, stmtNo 57, stmtNo 58, stmtNo 59, stmtNo 60, stmtNo 61, stmtNo 62, stmtNo 63, stmtNo 64, stmtNo 65, stmtNo 66, stmtNo 67, stmtNo 68]
noncomputable def hst9 : List Stmt := [stmtNo 69]
noncomputable def hst10 : List Stmt := [stmtNo 70, stmtNo 71, stmtNo 72, stmtNo 73, stmtNo 74, stmtNo 75, stmtNo 76, stmtNo 77, stmtNo 78, stmtNo 79]
noncomputable def ho2t16 (i : Nat) : Obj := ⟨.type "range_iterator", none, .fields #[.int (i : Int) 0, .int ((256 - i : Nat) : Int) 0, .int 1 0], #[]⟩
noncomputable def ho2t17 (i : Nat) : Obj := ⟨.type "list", none, .seq (hItems.take i).toArray i, #[]⟩
noncomputable def ho2t18 (P : Params) : Nat → Obj
  | 0 => ⟨.type "dict", none, .dict #[] 0, #[]⟩
  | i + 1 => ⟨.type "dict", none, .dict #[⟨PyData.keyHash P ⟨#[99]⟩, .str ⟨#[99]⟩ 195, .int (i : Int) (194 + 4 * i)⟩] 1, #[]⟩
noncomputable def ht2t (P : Params) (i : Nat) : BT := (.node (PySem.W.boot_o_0 P) (.node (PySem.W.boot_o_1 P) (.node (ho1x3 P) (.node (PySem.W.boot_o_7 P) (.node (ho2x15 P) .nil .nil) .nil) (.node (ho0x11 P) .nil .nil)) (.node (PySem.W.boot_o_5 P) (.node (PySem.W.boot_o_9 P) (.node (ho2t17 i) .nil .nil) .nil) (.node (ho0x13 P) .nil .nil))) (.node (PySem.W.boot_o_2 P) (.node (PySem.W.boot_o_4 P) (.node (PySem.W.boot_o_8 P) (.node (ho2t16 i) .nil .nil) .nil) (.node (ho0x12 P) .nil .nil)) (.node (PySem.W.boot_o_6 P) (.node (PySem.W.boot_o_10 P) (.node (ho2t18 P i) .nil .nil) .nil) (.node (ho0x14 P) .nil .nil))))
noncomputable def hs2t (i : Nat) (w : World) (os : OsState) : SharedT := ⟨ht2t w.params i, 19, hlife, #[], ⟨0, 0, 0, 0⟩, 194 + 4 * i, os⟩
noncomputable def hth2 (w : World) (os : OsState) : Thread := thOf (qGo qTab hpE (noRows w) 11 hAnn 1 52 (hs1 w os) (hTh hst2 ⟨2, 0, 2, 2⟩))
theorem h2a (w : World) : ∀ os, qGo qTab hpE (w.withFollow "comprehension-iter-twice" true) 11 hAnn 1 42 (hs1 (w.withFollow "comprehension-iter-twice" true) os) (hTh hst2 ⟨2, 0, 2, 2⟩) = some (hs2t 0 (w.withFollow "comprehension-iter-twice" true) os, turn (hth2 (w.withFollow "comprehension-iter-twice" true) os) ⟨3, 36, 3, 46⟩) :=
  rows2 (fun w => ∀ os, qGo qTab hpE (w.withFollow "comprehension-iter-twice" true) 11 hAnn 1 42 (hs1 (w.withFollow "comprehension-iter-twice" true) os) (hTh hst2 ⟨2, 0, 2, 2⟩) = some (hs2t 0 (w.withFollow "comprehension-iter-twice" true) os, turn (hth2 (w.withFollow "comprehension-iter-twice" true) os) ⟨3, 36, 3, 46⟩)) (fun w => ⟨fun os => by kernel_rfl, fun os => by kernel_rfl⟩) w
theorem h2b (w : World) : ∀ os, qGo qTab hpE (w.withFollow "comprehension-iter-twice" false) 11 hAnn 1 52 (hs1 (w.withFollow "comprehension-iter-twice" false) os) (hTh hst2 ⟨2, 0, 2, 2⟩) = some (hs2t 0 (w.withFollow "comprehension-iter-twice" false) os, turn (hth2 (w.withFollow "comprehension-iter-twice" false) os) ⟨3, 36, 3, 46⟩) :=
  rows2 (fun w => ∀ os, qGo qTab hpE (w.withFollow "comprehension-iter-twice" false) 11 hAnn 1 52 (hs1 (w.withFollow "comprehension-iter-twice" false) os) (hTh hst2 ⟨2, 0, 2, 2⟩) = some (hs2t 0 (w.withFollow "comprehension-iter-twice" false) os, turn (hth2 (w.withFollow "comprehension-iter-twice" false) os) ⟨3, 36, 3, 46⟩)) (fun w => ⟨fun os => by kernel_rfl, fun os => by kernel_rfl⟩) w
theorem h2t0 (w : World) (os : OsState) : qGo qTab hpE w 11 hAnn 1 37 (hs2t 0 w os) (turn (hth2 w os) ⟨3, 36, 3, 46⟩) = some (hs2t 1 w os, turn (hth2 w os) ⟨3, 15, 3, 26⟩) := by kernel_rfl
theorem h2t1 (w : World) (os : OsState) : qGo qTab hpE w 11 hAnn 1 1184 (hs2t 1 w os) (turn (hth2 w os) ⟨3, 15, 3, 26⟩) = some (hs2t 33 w os, turn (hth2 w os) ⟨3, 15, 3, 26⟩) := by kernel_rfl
theorem h2t33 (w : World) (os : OsState) : qGo qTab hpE w 11 hAnn 1 1184 (hs2t 33 w os) (turn (hth2 w os) ⟨3, 15, 3, 26⟩) = some (hs2t 65 w os, turn (hth2 w os) ⟨3, 15, 3, 26⟩) := by kernel_rfl
theorem h2t65 (w : World) (os : OsState) : qGo qTab hpE w 11 hAnn 1 1184 (hs2t 65 w os) (turn (hth2 w os) ⟨3, 15, 3, 26⟩) = some (hs2t 97 w os, turn (hth2 w os) ⟨3, 15, 3, 26⟩) := by kernel_rfl
theorem h2t97 (w : World) (os : OsState) : qGo qTab hpE w 11 hAnn 1 1184 (hs2t 97 w os) (turn (hth2 w os) ⟨3, 15, 3, 26⟩) = some (hs2t 129 w os, turn (hth2 w os) ⟨3, 15, 3, 26⟩) := by kernel_rfl
theorem h2t129 (w : World) (os : OsState) : qGo qTab hpE w 11 hAnn 1 1184 (hs2t 129 w os) (turn (hth2 w os) ⟨3, 15, 3, 26⟩) = some (hs2t 161 w os, turn (hth2 w os) ⟨3, 15, 3, 26⟩) := by kernel_rfl
theorem h2t161 (w : World) (os : OsState) : qGo qTab hpE w 11 hAnn 1 1184 (hs2t 161 w os) (turn (hth2 w os) ⟨3, 15, 3, 26⟩) = some (hs2t 193 w os, turn (hth2 w os) ⟨3, 15, 3, 26⟩) := by kernel_rfl
theorem h2t193 (w : World) (os : OsState) : qGo qTab hpE w 11 hAnn 1 1184 (hs2t 193 w os) (turn (hth2 w os) ⟨3, 15, 3, 26⟩) = some (hs2t 225 w os, turn (hth2 w os) ⟨3, 15, 3, 26⟩) := by kernel_rfl
theorem h2t225 (w : World) (os : OsState) : qGo qTab hpE w 11 hAnn 1 1147 (hs2t 225 w os) (turn (hth2 w os) ⟨3, 15, 3, 26⟩) = some (hs2t 256 w os, turn (hth2 w os) ⟨3, 15, 3, 26⟩) := by kernel_rfl
theorem h2e (w : World) : ∀ os, qRun qTab hpE w 11 hAnn 1 60 (hs2t 256 w os) (turn (hth2 w os) ⟨3, 15, 3, 26⟩) = some (.next, hs2 w os, hCode, ⟨3, 0, 3, 11⟩) :=
  rows2 (fun w => ∀ os, qRun qTab hpE w 11 hAnn 1 60 (hs2t 256 w os) (turn (hth2 w os) ⟨3, 15, 3, 26⟩) = some (.next, hs2 w os, hCode, ⟨3, 0, 3, 11⟩)) (fun w => ⟨fun os => by kernel_rfl, fun os => by kernel_rfl⟩) w
theorem h2f (w : World) : ∀ os, qRun qTab hpE w 11 hAnn 1 70 (hs2t 256 w os) (turn (hth2 w os) ⟨3, 15, 3, 26⟩) = some (.next, hs2 w os, hCode, ⟨3, 0, 3, 11⟩) :=
  rows2 (fun w => ∀ os, qRun qTab hpE w 11 hAnn 1 70 (hs2t 256 w os) (turn (hth2 w os) ⟨3, 15, 3, 26⟩) = some (.next, hs2 w os, hCode, ⟨3, 0, 3, 11⟩)) (fun w => ⟨fun os => by kernel_rfl, fun os => by kernel_rfl⟩) w
theorem hg2 (w : World) : ∀ os, segRun treeTable hpE w 11 hAnn 1 9584 (hs1 w os).abs (piecesOf hst2 hEnv hCode ⟨2, 0, 2, 2⟩ hB) = some (.next, (hs2 w os).abs, hCode, ⟨3, 0, 3, 11⟩) :=
  byRow2 "comprehension-iter-twice" (P := fun w => ∀ os, segRun treeTable hpE w 11 hAnn 1 9584 (hs1 w os).abs (piecesOf hst2 hEnv hCode ⟨2, 0, 2, 2⟩ hB) = some (.next, (hs2 w os).abs, hCode, ⟨3, 0, 3, 11⟩)) (fun w os => by rw [hTh_eq]; have w1 := h2b w os; generalize w.withFollow "comprehension-iter-twice" false = w at *; exact seg_go (n := 52) (hGo w1) (seg_go (n := 37) (hGo (h2t0 w os)) (seg_go (n := 1184) (hGo (h2t1 w os)) (seg_go (n := 1184) (hGo (h2t33 w os)) (seg_go (n := 1184) (hGo (h2t65 w os)) (seg_go (n := 1184) (hGo (h2t97 w os)) (seg_go (n := 1184) (hGo (h2t129 w os)) (seg_go (n := 1184) (hGo (h2t161 w os)) (seg_go (n := 1184) (hGo (h2t193 w os)) (seg_go (n := 1147) (hGo (h2t225 w os)) (hRun (h2e w os))))))))))))
    (fun w os => by rw [hTh_eq]; have w1 := h2a w os; generalize w.withFollow "comprehension-iter-twice" true = w at *; exact seg_go (n := 42) (hGo w1) (seg_go (n := 37) (hGo (h2t0 w os)) (seg_go (n := 1184) (hGo (h2t1 w os)) (seg_go (n := 1184) (hGo (h2t33 w os)) (seg_go (n := 1184) (hGo (h2t65 w os)) (seg_go (n := 1184) (hGo (h2t97 w os)) (seg_go (n := 1184) (hGo (h2t129 w os)) (seg_go (n := 1184) (hGo (h2t161 w os)) (seg_go (n := 1184) (hGo (h2t193 w os)) (seg_go (n := 1147) (hGo (h2t225 w os)) (hRun (h2f w os)))))))))))) w
noncomputable def ho4t3 (P : Params) (i : Nat) : Obj := ⟨.type "dict", none, .dict (hD3 P ++ ([⟨PyData.keyHash P ⟨#[99]⟩, .str ⟨#[99]⟩ 1244, .int ((hN11.getD (i - 1) 0 : Nat) : Int) (1243 + 3 * (i - 1))⟩] : List DictEntry)).toArray 20, #[]⟩
noncomputable def ho4tl (i : Nat) : Obj := ⟨.type "list", none, .seq (hset (hN11.take i) 1245 hItems).toArray 0, #[]⟩
noncomputable def ho4ti (i : Nat) : Obj := ⟨.type "bytes_iterator", none, .fields #[.bytes hY11 1242, .int (i : Int) 0], #[]⟩
noncomputable def ht4t (P : Params) (i : Nat) : BT := (.node (PySem.W.boot_o_0 P) (.node (PySem.W.boot_o_1 P) (.node (ho4t3 P i) (.node (PySem.W.boot_o_7 P) (.node (ho2x15 P) .nil .nil) (.node (ho3x23 P) .nil .nil)) (.node (ho0x11 P) (.node (ho2x19 P) .nil .nil) .nil)) (.node (PySem.W.boot_o_5 P) (.node (PySem.W.boot_o_9 P) (.node (ho2x17 P) .nil .nil) (.node (ho4ti i) .nil .nil)) (.node (ho0x13 P) (.node (ho3x21 P) .nil .nil) .nil))) (.node (PySem.W.boot_o_2 P) (.node (PySem.W.boot_o_4 P) (.node (PySem.W.boot_o_8 P) (.node (ho2x16 P) .nil .nil) (.node (ho3x24 P) .nil .nil)) (.node (ho0x12 P) (.node (ho2x20 P) .nil .nil) .nil)) (.node (PySem.W.boot_o_6 P) (.node (PySem.W.boot_o_10 P) (.node (ho2x18 P) .nil .nil) .nil) (.node (ho0x14 P) (.node (ho4tl i) .nil .nil) .nil))))
noncomputable def hs4t (i : Nat) (w : World) (os : OsState) : SharedT := ⟨ht4t w.params i, 26, hlife, #[], ⟨0, 0, 0, 0⟩, 1243 + 3 * i, os⟩
noncomputable def hth4 (w : World) (os : OsState) : Thread := thOf (qGo qTab hpE (noRows w) 11 hAnn 1 89 (hs3 w os) (hTh hst4 ⟨11, 0, 11, 8⟩))
theorem h4a (w : World) : ∀ os, qGo qTab hpE w 11 hAnn 1 89 (hs3 w os) (hTh hst4 ⟨11, 0, 11, 8⟩) = some (hs4t 1 w os, turn (hth4 w os) ⟨13, 4, 13, 25⟩) :=
  rows2 (fun w => ∀ os, qGo qTab hpE w 11 hAnn 1 89 (hs3 w os) (hTh hst4 ⟨11, 0, 11, 8⟩) = some (hs4t 1 w os, turn (hth4 w os) ⟨13, 4, 13, 25⟩)) (fun w => ⟨fun os => by kernel_rfl, fun os => by kernel_rfl⟩) w
theorem h4t1 (w : World) (os : OsState) : qGo qTab hpE w 11 hAnn 1 1485 (hs4t 1 w os) (turn (hth4 w os) ⟨13, 4, 13, 25⟩) = some (hs4t 34 w os, turn (hth4 w os) ⟨13, 4, 13, 25⟩) := by kernel_rfl
theorem h4t34 (w : World) (os : OsState) : qGo qTab hpE w 11 hAnn 1 1485 (hs4t 34 w os) (turn (hth4 w os) ⟨13, 4, 13, 25⟩) = some (hs4t 67 w os, turn (hth4 w os) ⟨13, 4, 13, 25⟩) := by kernel_rfl
theorem h4e (w : World) : ∀ os, qRun qTab hpE w 11 hAnn 1 30 (hs4t 67 w os) (turn (hth4 w os) ⟨13, 4, 13, 25⟩) = some (.next, hs4 w os, hCode, ⟨12, 9, 12, 74⟩) :=
  rows2 (fun w => ∀ os, qRun qTab hpE w 11 hAnn 1 30 (hs4t 67 w os) (turn (hth4 w os) ⟨13, 4, 13, 25⟩) = some (.next, hs4 w os, hCode, ⟨12, 9, 12, 74⟩)) (fun w => ⟨fun os => by kernel_rfl, fun os => by kernel_rfl⟩) w
theorem hg4 (w : World) (os : OsState) : segRun treeTable hpE w 11 hAnn 1 3089 (hs3 w os).abs (piecesOf hst4 hEnv hCode ⟨11, 0, 11, 8⟩ hB) = some (.next, (hs4 w os).abs, hCode, ⟨12, 9, 12, 74⟩) := by
  rw [hTh_eq]; exact seg_go (n := 89) (hGo (h4a w os)) (seg_go (n := 1485) (hGo (h4t1 w os)) (seg_go (n := 1485) (hGo (h4t34 w os)) (hRun (h4e w os))))
noncomputable def ho6t3 (P : Params) (i : Nat) : Obj := ⟨.type "dict", none, .dict (hD3 P ++ ([⟨PyData.keyHash P ⟨#[99]⟩, .str ⟨#[99]⟩ 1244, .int ((hN13.getD (i - 1) 0 : Nat) : Int) (1448 + 3 * (i - 1))⟩] : List DictEntry)).toArray 20, #[]⟩
noncomputable def ho6tl (i : Nat) : Obj := ⟨.type "list", none, .seq (hset (hN13.take i) 1450 hItems).toArray 0, #[]⟩
noncomputable def ho6ti (i : Nat) : Obj := ⟨.type "bytes_iterator", none, .fields #[.bytes hY13 1447, .int (i : Int) 0], #[]⟩
noncomputable def ht6t (P : Params) (i : Nat) : BT := (.node (PySem.W.boot_o_0 P) (.node (PySem.W.boot_o_1 P) (.node (ho6t3 P i) (.node (PySem.W.boot_o_7 P) (.node (ho2x15 P) .nil .nil) (.node (ho3x23 P) .nil .nil)) (.node (ho0x11 P) (.node (ho2x19 P) .nil .nil) (.node (ho4x27 P) .nil .nil))) (.node (PySem.W.boot_o_5 P) (.node (PySem.W.boot_o_9 P) (.node (ho2x17 P) .nil .nil) (.node (ho4x25 P) .nil .nil)) (.node (ho0x13 P) (.node (ho3x21 P) .nil .nil) .nil))) (.node (PySem.W.boot_o_2 P) (.node (PySem.W.boot_o_4 P) (.node (PySem.W.boot_o_8 P) (.node (ho2x16 P) .nil .nil) (.node (ho6tl i) .nil .nil)) (.node (ho0x12 P) (.node (ho2x20 P) .nil .nil) (.node (ho6ti i) .nil .nil))) (.node (PySem.W.boot_o_6 P) (.node (PySem.W.boot_o_10 P) (.node (ho2x18 P) .nil .nil) (.node (ho4x26 P) .nil .nil)) (.node (ho0x14 P) (.node (ho5x22 P) .nil .nil) .nil))))
noncomputable def hs6t (i : Nat) (w : World) (os : OsState) : SharedT := ⟨ht6t w.params i, 29, hlife, #[], ⟨0, 0, 0, 0⟩, 1448 + 3 * i, os⟩
noncomputable def hth6 (w : World) (os : OsState) : Thread := thOf (qGo qTab hpE (noRows w) 11 hAnn 1 55 (hs5 w os) (hTh hst6 ⟨14, 0, 14, 28⟩))
theorem h6a (w : World) : ∀ os, qGo qTab hpE w 11 hAnn 1 55 (hs5 w os) (hTh hst6 ⟨14, 0, 14, 28⟩) = some (hs6t 1 w os, turn (hth6 w os) ⟨16, 4, 16, 23⟩) :=
  rows2 (fun w => ∀ os, qGo qTab hpE w 11 hAnn 1 55 (hs5 w os) (hTh hst6 ⟨14, 0, 14, 28⟩) = some (hs6t 1 w os, turn (hth6 w os) ⟨16, 4, 16, 23⟩)) (fun w => ⟨fun os => by kernel_rfl, fun os => by kernel_rfl⟩) w
theorem h6t1 (w : World) (os : OsState) : qGo qTab hpE w 11 hAnn 1 1440 (hs6t 1 w os) (turn (hth6 w os) ⟨16, 4, 16, 23⟩) = some (hs6t 33 w os, turn (hth6 w os) ⟨16, 4, 16, 23⟩) := by kernel_rfl
theorem h6t33 (w : World) (os : OsState) : qGo qTab hpE w 11 hAnn 1 1440 (hs6t 33 w os) (turn (hth6 w os) ⟨16, 4, 16, 23⟩) = some (hs6t 65 w os, turn (hth6 w os) ⟨16, 4, 16, 23⟩) := by kernel_rfl
theorem h6t65 (w : World) (os : OsState) : qGo qTab hpE w 11 hAnn 1 1350 (hs6t 65 w os) (turn (hth6 w os) ⟨16, 4, 16, 23⟩) = some (hs6t 95 w os, turn (hth6 w os) ⟨16, 4, 16, 23⟩) := by kernel_rfl
theorem h6e (w : World) : ∀ os, qRun qTab hpE w 11 hAnn 1 30 (hs6t 95 w os) (turn (hth6 w os) ⟨16, 4, 16, 23⟩) = some (.next, hs6 w os, hCode, ⟨15, 9, 15, 110⟩) :=
  rows2 (fun w => ∀ os, qRun qTab hpE w 11 hAnn 1 30 (hs6t 95 w os) (turn (hth6 w os) ⟨16, 4, 16, 23⟩) = some (.next, hs6 w os, hCode, ⟨15, 9, 15, 110⟩)) (fun w => ⟨fun os => by kernel_rfl, fun os => by kernel_rfl⟩) w
theorem hg6 (w : World) (os : OsState) : segRun treeTable hpE w 11 hAnn 1 4315 (hs5 w os).abs (piecesOf hst6 hEnv hCode ⟨14, 0, 14, 28⟩ hB) = some (.next, (hs6 w os).abs, hCode, ⟨15, 9, 15, 110⟩) := by
  rw [hTh_eq]; exact seg_go (n := 55) (hGo (h6a w os)) (seg_go (n := 1440) (hGo (h6t1 w os)) (seg_go (n := 1440) (hGo (h6t33 w os)) (seg_go (n := 1350) (hGo (h6t65 w os)) (hRun (h6e w os)))))
theorem hq1 (w : World) (os : OsState) : qRun qTab hpE w 11 hAnn 1 19 (hs0 w os) (hTh hst1 ⟨0, 0, 0, 0⟩) = some (.next, hs1 w os, hCode, ⟨2, 0, 2, 2⟩) := by kernel_rfl
theorem hg1 (w : World) (os : OsState) : segRun treeTable hpE w 11 hAnn 1 19 (hs0 w os).abs (piecesOf hst1 hEnv hCode ⟨0, 0, 0, 0⟩ hB) = some (.next, (hs1 w os).abs, hCode, ⟨2, 0, 2, 2⟩) := by
  rw [hTh_eq]; exact hRun (hq1 w os)
theorem hq3 (w : World) (os : OsState) : qRun qTab hpE w 11 hAnn 1 133 (hs2 w os) (hTh hst3 ⟨3, 0, 3, 11⟩) = some (.next, hs3 w os, hCode, ⟨11, 0, 11, 8⟩) := by kernel_rfl
theorem hg3 (w : World) (os : OsState) : segRun treeTable hpE w 11 hAnn 1 133 (hs2 w os).abs (piecesOf hst3 hEnv hCode ⟨3, 0, 3, 11⟩ hB) = some (.next, (hs3 w os).abs, hCode, ⟨11, 0, 11, 8⟩) := by
  rw [hTh_eq]; exact hRun (hq3 w os)
theorem hq5 (w : World) (os : OsState) : qRun qTab hpE w 11 hAnn 1 25 (hs4 w os) (hTh hst5 ⟨12, 9, 12, 74⟩) = some (.next, hs5 w os, hCode, ⟨14, 0, 14, 28⟩) := by kernel_rfl
theorem hg5 (w : World) (os : OsState) : segRun treeTable hpE w 11 hAnn 1 25 (hs4 w os).abs (piecesOf hst5 hEnv hCode ⟨12, 9, 12, 74⟩ hB) = some (.next, (hs5 w os).abs, hCode, ⟨14, 0, 14, 28⟩) := by
  rw [hTh_eq]; exact hRun (hq5 w os)
theorem hq7 (w : World) : ∀ os, qRun qTab hpE w 11 hAnn 1 203 (hs6 w os) (hTh hst7 ⟨15, 9, 15, 110⟩) = some (.next, hs7 w os, hCode, ⟨22, 9, 22, 16⟩) :=
  rows2 (fun w => ∀ os, qRun qTab hpE w 11 hAnn 1 203 (hs6 w os) (hTh hst7 ⟨15, 9, 15, 110⟩) = some (.next, hs7 w os, hCode, ⟨22, 9, 22, 16⟩)) (fun w => ⟨fun os => by kernel_rfl, fun os => by kernel_rfl⟩) w
theorem hg7 (w : World) (os : OsState) : segRun treeTable hpE w 11 hAnn 1 203 (hs6 w os).abs (piecesOf hst7 hEnv hCode ⟨15, 9, 15, 110⟩ hB) = some (.next, (hs7 w os).abs, hCode, ⟨22, 9, 22, 16⟩) := by
  rw [hTh_eq]; exact hRun (hq7 w os)
theorem hq8 (w : World) (os : OsState) : qRun qTab hpE w 11 hAnn 1 522 (hs7 w os) (hTh hst8 ⟨22, 9, 22, 16⟩) = some (.next, hs8 w os, hCode, ⟨140, 0, 140, 11⟩) := by kernel_rfl
theorem hg8 (w : World) (os : OsState) : segRun treeTable hpE w 11 hAnn 1 522 (hs7 w os).abs (piecesOf hst8 hEnv hCode ⟨22, 9, 22, 16⟩ hB) = some (.next, (hs8 w os).abs, hCode, ⟨140, 0, 140, 11⟩) := by
  rw [hTh_eq]; exact hRun (hq8 w os)
theorem hq9 (w : World) : ∀ os, qRun qTab hpE w 11 hAnn 1 979 (hs8 w os) (hTh hst9 ⟨140, 0, 140, 11⟩) = some (.next, hs9 w os, hCode, ⟨141, 0, 141, 17⟩) :=
  rows2 (fun w => ∀ os, qRun qTab hpE w 11 hAnn 1 979 (hs8 w os) (hTh hst9 ⟨140, 0, 140, 11⟩) = some (.next, hs9 w os, hCode, ⟨141, 0, 141, 17⟩)) (fun w => ⟨fun os => by kernel_rfl, fun os => by kernel_rfl⟩) w
theorem hg9 (w : World) (os : OsState) : segRun treeTable hpE w 11 hAnn 1 979 (hs8 w os).abs (piecesOf hst9 hEnv hCode ⟨140, 0, 140, 11⟩ hB) = some (.next, (hs9 w os).abs, hCode, ⟨141, 0, 141, 17⟩) := by
  rw [hTh_eq]; exact hRun (hq9 w os)
theorem hq10 (w : World) (os : OsState) : qRun qTab hpE w 11 hAnn 1 279 (hs9 w os) (hTh hst10 ⟨141, 0, 141, 17⟩) = some (.next, hs10 w os, hCode, ⟨212, 0, 230, 297⟩) := by kernel_rfl
theorem hg10 (w : World) (os : OsState) : segRun treeTable hpE w 11 hAnn 1 279 (hs9 w os).abs (piecesOf hst10 hEnv hCode ⟨141, 0, 141, 17⟩ hB) = some (.next, (hs10 w os).abs, hCode, ⟨212, 0, 230, 297⟩) := by
  rw [hTh_eq]; exact hRun (hq10 w os)
end
end Mine
end
section
open PySem PySem.W PySem.Calls PyProof.Rows PySem.Spec
namespace Mine
noncomputable section
set_option linter.unusedVariables false
set_option maxRecDepth 100000
set_option maxHeartbeats 4000000
theorem hfin (w : World) (os : OsState) : topRun treeTable hpE w 11 hAnn 2 (hs10 w os).abs (restOf [] hEnv hCode ⟨212, 0, 230, 297⟩ hB) = some (hs10 w os).abs := piece_nil (by kernel_rfl)
theorem hbody : hBody = hst1 ++ (hst2 ++ (hst3 ++ (hst4 ++ (hst5 ++ (hst6 ++ (hst7 ++ (hst8 ++ (hst9 ++ (hst10 ++ []))))))))) := by kernel_rfl
theorem hpre (w : World) (os : OsState) : topGo treeTable hpE w 11 hAnn 12 ⟨boot_heap w.params, Array.mk [], boot_drawn, boot_toks, os⟩ (topStub hpE) = some ((hs0 w os).abs, ⟨denote treeTable hCode, hCode, ⟨0, 0, 0, 0⟩, hB⟩) := by
  rw [PySem.W.Fast.te15667345088766844465, PySem.W.Fast.te14364793385576792824, PySem.W.Fast.te11892475500146522536]
  kernel_rfl
theorem hblock (w : World) (os : OsState) : segRun treeTable hpE w 11 hAnn 1 1 (hs0 w os).abs (blockOf hBody hEnv hCode ⟨0, 0, 0, 0⟩ hB) = some (.next, (hs0 w os).abs, hCode, ⟨0, 0, 0, 0⟩) := by
  rw [PySem.W.Fast.te14374325043358763698, PySem.W.Fast.te14364793385576792824]
  kernel_rfl
theorem hstmts (w : World) (os : OsState) : topRun treeTable hpE w 11 hAnn (19 + (9584 + (133 + (3089 + (25 + (4315 + (203 + (522 + (979 + (279 + (2))))))))))) (hs0 w os).abs (restOf hBody hEnv hCode ⟨0, 0, 0, 0⟩ hB) = some (hs10 w os).abs := by
  rw [hbody]
  exact piece_app (n := 19) (hg1 w os) (piece_app (n := 9584) (hg2 w os) (piece_app (n := 133) (hg3 w os) (piece_app (n := 3089) (hg4 w os) (piece_app (n := 25) (hg5 w os) (piece_app (n := 4315) (hg6 w os) (piece_app (n := 203) (hg7 w os) (piece_app (n := 522) (hg8 w os) (piece_app (n := 979) (hg9 w os) (piece_app (n := 279) (hg10 w os) (hfin w os))))))))))
theorem hrun (w : World) (os : OsState) : topRun treeTable hpE w 11 hAnn (12 + (1 + (19 + (9584 + (133 + (3089 + (25 + (4315 + (203 + (522 + (979 + (279 + (2))))))))))))) ⟨boot_heap w.params, Array.mk [], boot_drawn, boot_toks, os⟩ (topStub hpE) = some ⟨absHeap (ht10 w.params) 128 hlife, #[], ⟨0, 0, 0, 0⟩, 2058, os⟩ :=
  go_top (hpre w os) (piece_block (n := 1) (hblock w os) (hstmts w os))
noncomputable def hView : Program := { hpE with main := { hpE.main with body := [stmtNo 0, stmtNo 1, stmtNo 2, stmtNo 3, stmtNo 4, stmtNo 5, stmtNo 6, stmtNo 7, stmtNo 8, stmtNo 9, stmtNo 14, stmtNo 15, stmtNo 16, stmtNo 21, stmtNo 22, stmtNo 23, stmtNo 24, stmtNo 25, stmtNo 26, stmtNo 27, stmtNo 28, stmtNo 29, stmtNo 30, stmtNo 31, stmtNo 32, stmtNo 33, stmtNo 34, stmtNo 35, stmtNo 36, stmtNo 37, stmtNo 38, stmtNo 39, stmtNo 40, stmtNo 41, stmtNo 42, stmtNo 43, stmtNo 44, stmtNo 45, stmtNo 46, stmtNo 47, stmtNo 48, stmtNo 49, stmtNo 50, stmtNo 51, stmtNo 52, stmtNo 53, stmtNo 54, stmtNo 55, stmtNo 56, stmtNo 57, stmtNo 58, stmtNo 59, stmtNo 60, stmtNo 61, stmtNo 62, stmtNo 63, stmtNo 64, stmtNo 65, stmtNo 66, stmtNo 67, stmtNo 68, stmtNo 69, stmtNo 71, stmtNo 72, stmtNo 73, stmtNo 74, stmtNo 75, stmtNo 76, stmtNo 77, stmtNo 78, stmtNo 79] } }
noncomputable def hLoose : List Str := ["_QUOPRI_MAP", "_QUOPRI_HEADER_MAP", "_QUOPRI_BODY_MAP", "ascii_letters", "hexdigits", "_QUOPRI_BODY_ENCODE_MAP", "body_encode", "decode", "EXACT_TOKEN_TYPES"]
noncomputable def hLv : List (Str × WData) := [("ascii_letters", .str ⟨#[97, 98, 99, 100, 101, 102, 103, 104, 105, 106, 107, 108, 109, 110, 111, 112, 113, 114, 115, 116, 117, 118, 119, 120, 121, 122, 65, 66, 67, 68, 69, 70, 71, 72, 73, 74, 75, 76, 77, 78, 79, 80, 81, 82, 83, 84, 85, 86, 87, 88, 89, 90]⟩), ("hexdigits", .str ⟨#[48, 49, 50, 51, 52, 53, 54, 55, 56, 57, 97, 98, 99, 100, 101, 102, 65, 66, 67, 68, 69, 70]⟩)]
noncomputable def hAs : List Addr := [2, 3, 6, 17, 22, 24, 31, 33, 34, 36, 37, 38, 40, 41, 43, 44, 46, 50, 51, 53, 54, 56, 57, 58, 59, 61, 62, 64, 65, 66, 69, 71, 72, 74, 75, 76, 78, 79, 81, 82, 83, 85, 86, 88, 89, 90, 92, 93, 95, 96, 97, 99, 100, 102, 103, 104, 106, 107, 109, 110, 111, 114, 115, 116, 118, 119, 121, 122, 123, 126, 127]
noncomputable def hK : Params → Frag := fun P => hAs.map fun a => (a, ((ht10 P).get a).getD default)
noncomputable abbrev hHook : Hook := kHook hK hAs (fun _ => by kernel_rfl)
noncomputable abbrev hRow : RowW := OpenRow.toRowW (OpenLaw.row PySem.Challenge.rw_rs0178_01)
noncomputable abbrev hXt : Shared → Bool := fun s => xlAt hView hLv s && recOk (RowW.records hRow) s
theorem hsize (w : World) : ((boot_heap w.params).isNs mainGlobals && (Array.mk [] : Array GenState).size == 0, (boot_heap w.params).objs.size, (boot_heap w.params).nsMap mainGlobals "__annotations__") = (true, 11, hAnn) := by kernel_rfl
theorem hlook1 (w : World) (os : OsState) : (staticsOk (importedModules hpE.main.body) (boot_heap w.params) (absHeap (ht10 w.params) 128 hlife) && namesBound hpE (absHeap (ht10 w.params) 128 hlife) && gensDone ⟨absHeap (ht10 w.params) 128 hlife, #[], ⟨0, 0, 0, 0⟩, 2058, os⟩ && laidKept (boot_heap w.params) (absHeap (ht10 w.params) 128 hlife)) = true := by
  rw [PySem.W.Fast.te5923862056798008813]
  kernel_rfl
theorem hlook2 (w : World) (os : OsState) : openSeen hView hLoose (importedModules hpE.main.body) hXt true ⟨absHeap (ht10 w.params) 128 hlife, #[], ⟨0, 0, 0, 0⟩, 2058, os⟩ = openGood hView hLoose := by
  rw [PySem.W.Fast.te4187177175401517315, PySem.W.Fast.te5923862056798008813]
  kernel_rfl
theorem hlook3 (w : World) (os : OsState) : hHook.obs ⟨absHeap (ht10 w.params) 128 hlife, #[], ⟨0, 0, 0, 0⟩, 2058, os⟩ = hHook.val w := by kernel_rfl
theorem hboot (w : World) : importEnds treeTable (opening hpE) w 600 (start (opening hpE)).1 (start (opening hpE)).2 = some ⟨boot_heap w.params, Array.mk [], boot_drawn, boot_toks, (start (opening hpE)).1.os⟩ := by kernel_rfl
theorem hfence (w : World) : (fun os => (fenceModules? hpE ⟨boot_heap w.params, Array.mk [], boot_drawn, boot_toks, os⟩).map (fun s => (s.heap, s.gens, s.drawn, s.toks))) = fun _ => some (boot_heap w.params, Array.mk [], boot_drawn, boot_toks) := funext fun os => by kernel_rfl
theorem hopen : ∀ w : World, (fencedOpening treeTable hpE w 38290).map (fun s => (s.heap, s.gens, s.drawn, s.toks)) = some (boot_heap w.params, Array.mk [], boot_drawn, boot_toks) :=
  open_cut hboot (by decide) hfence
theorem hsaid : OpenLaw.wellSaid PySem.Challenge.rw_rs0178_01 = true := by kernel_rfl
theorem hLeft : LeftO hpE hView hLoose hXt hHook.obs hHook.val 38290 :=
  LeftO.of_pieces (H₀ := boot_heap) (H₁ := fun P => absHeap (ht10 P) 128 hlife) (gs₁ := #[]) (d₁ := ⟨0, 0, 0, 0⟩) (k₁ := 2058) hopen hsize hrun (by decide) (fun w => funext fun os => looks_pair (hlook1 w os) (looks_pair (hlook2 w os) (hlook3 w os)))
end
end Mine
end
section
open PySem PySem.W PySem.Calls PyProof.Rows PySem.Spec
namespace Mine
set_option maxRecDepth 100000
set_option maxHeartbeats 4000000
noncomputable abbrev KP (P : Params) : Frag := hK P
theorem k_hex (P : Params) : ∃ t, nsIn (KP P) mainGlobals "hexdigits" = some (some (.str (S hexAll) t)) := ⟨1232, by kernel_rfl⟩
theorem k_crlf (P : Params) : ∃ t, nsIn (KP P) mainGlobals "CRLF" = some (some (.str (S [13, 10]) t)) := ⟨_, by rfl⟩
theorem binds_peek {K : Frag} {s : Shared} {fd : FuncData} {args : Args} {binds : List (Str × Value)} (X : K.In s.heap) (e : ∀ S, peek K S (bindArgs fd args) = some binds) : BindsTo s fd args binds :=
  fun M _ _ _ q => (Looks.of_peek (M := M) X (e _)).here q
theorem k_unquote (P : Params) : FnAt (KP P) "unquote" fd_unquote 1 ["s"] [] := by
  refine ⟨37, _, _, _, _, _, _, _, _, _, _, [], ?_, ?_, (by rfl : (KP P).lookup 37 = some _), ?_, .nil, ?_, ?_, ?_, ?_, ?_, ?_⟩
  iterate 3 kernel_rfl
  · intro s vs _ hl
    match vs, hl with
    | [v], _ => exact BindsTo.of_eq rfl
  all_goals kernel_rfl
theorem k_quote (P : Params) : FnAt (KP P) "quote" fd_quote 1 ["c"] [] := by
  refine ⟨44, _, _, _, _, _, _, _, _, _, _, [], ?_, ?_, (by rfl : (KP P).lookup 44 = some _), ?_, .nil, ?_, ?_, ?_, ?_, ?_, ?_⟩
  iterate 3 kernel_rfl
  · intro s vs _ hl
    match vs, hl with
    | [v], _ => exact BindsTo.of_eq rfl
  all_goals kernel_rfl
theorem k_operators (P : Params) : FnAt (KP P) "_law_operators" fd_operators 0 [] [] := by
  refine ⟨75, _, _, _, _, _, _, _, _, _, _, [], ?_, ?_, (by rfl : (KP P).lookup 75 = some _), ?_, .nil, ?_, ?_, ?_, ?_, ?_, ?_⟩
  iterate 3 kernel_rfl
  · intro s vs _ hl
    match vs, hl with
    | [], _ => exact BindsTo.of_eq rfl
  all_goals kernel_rfl
theorem k_behind (P : Params) : FnAt (KP P) "_law_behind" fd_behind 1 ["x"] [] := by
  refine ⟨82, _, _, _, _, _, _, _, _, _, _, [], ?_, ?_, (by rfl : (KP P).lookup 82 = some _), ?_, .nil, ?_, ?_, ?_, ?_, ?_, ?_⟩
  iterate 3 kernel_rfl
  · intro s vs _ hl
    match vs, hl with
    | [v], _ => exact BindsTo.of_eq rfl
  all_goals kernel_rfl
theorem k_read (P : Params) : FnAt (KP P) "_law_read" fd_read 1 ["text"] [] := by
  refine ⟨89, _, _, _, _, _, _, _, _, _, _, [], ?_, ?_, (by rfl : (KP P).lookup 89 = some _), ?_, .nil, ?_, ?_, ?_, ?_, ?_, ?_⟩
  iterate 3 kernel_rfl
  · intro s vs _ hl
    match vs, hl with
    | [v], _ => exact BindsTo.of_eq rfl
  all_goals kernel_rfl
theorem k_escape (P : Params) : FnAt (KP P) "_law_escape" fd_escape 1 ["sign"] [] := by
  refine ⟨96, _, _, _, _, _, _, _, _, _, _, [], ?_, ?_, (by rfl : (KP P).lookup 96 = some _), ?_, .nil, ?_, ?_, ?_, ?_, ?_, ?_⟩
  iterate 3 kernel_rfl
  · intro s vs _ hl
    match vs, hl with
    | [v], _ => exact BindsTo.of_eq rfl
  all_goals kernel_rfl
theorem k_rows (P : Params) : FnAt (KP P) "_law_rows" fd_rows 2 ["line", "width"] [] := by
  refine ⟨103, _, _, _, _, _, _, _, _, _, _, [], ?_, ?_, (by rfl : (KP P).lookup 103 = some _), ?_, .nil, ?_, ?_, ?_, ?_, ?_, ?_⟩
  iterate 3 kernel_rfl
  · intro s vs _ hl
    match vs, hl with
    | [v, u], _ => exact BindsTo.of_eq rfl
  all_goals kernel_rfl
theorem k_part (P : Params) : FnAt (KP P) "_law_part" fd_part 2 ["part", "operators"] [] := by
  refine ⟨110, _, _, _, _, _, _, _, _, _, _, [], ?_, ?_, (by rfl : (KP P).lookup 110 = some _), ?_, .nil, ?_, ?_, ?_, ?_, ?_, ?_⟩
  iterate 3 kernel_rfl
  · intro s vs _ hl
    match vs, hl with
    | [v, u], _ => exact BindsTo.of_eq rfl
  all_goals kernel_rfl
theorem k_numbers (P : Params) : FnAt (KP P) "_law_numbers" fd_numbers 2 ["row", "operators"] [] := by
  refine ⟨115, _, _, _, _, _, _, _, _, _, _, [], ?_, ?_, (by rfl : (KP P).lookup 115 = some _), ?_, .nil, ?_, ?_, ?_, ?_, ?_, ?_⟩
  iterate 3 kernel_rfl
  · intro s vs _ hl
    match vs, hl with
    | [v, u], _ => exact BindsTo.of_eq rfl
  all_goals kernel_rfl
theorem k_once (P : Params) : FnAt (KP P) "_law_once_more" fd_once 2 ["row", "operators"] [] := by
  refine ⟨122, _, _, _, _, _, _, _, _, _, _, [], ?_, ?_, (by rfl : (KP P).lookup 122 = some _), ?_, .nil, ?_, ?_, ?_, ?_, ?_, ?_⟩
  iterate 3 kernel_rfl
  · intro s vs _ hl
    match vs, hl with
    | [v, u], _ => exact BindsTo.of_eq rfl
  all_goals kernel_rfl
end Mine
end
section
open PySem PySem.W PySem.Calls PyProof.Rows PySem.Spec
namespace Mine
set_option maxRecDepth 100000
set_option maxHeartbeats 4000000
theorem k_encode (P : Params) : FnAt (KP P) "body_encode" fd_encode 2 ["body", "maxlinelen", "eol"] [.str (S [10])] := by
  refine ⟨57, _, _, _, _, _, _, _, _, _, _, [.str (S [10]) 189], ?_, ?_, (by rfl : (KP P).lookup 57 = some _), ?_, .cons .str .nil, ?_, ?_, ?_, ?_, ?_, ?_⟩
  iterate 3 kernel_rfl
  · intro s vs X hl
    match vs, hl with
    | [v, u], _ => exact binds_peek X (fun S => by kernel_rfl)
  all_goals kernel_rfl
theorem k_decode (P : Params) : FnAt (KP P) "decode" fd_decode 1 ["encoded", "eol"] [.str (S [10])] := by
  refine ⟨65, _, _, _, _, _, _, _, _, _, _, [.str (S [10]) 189], ?_, ?_, (by rfl : (KP P).lookup 65 = some _), ?_, .cons .str .nil, ?_, ?_, ?_, ?_, ?_, ?_⟩
  iterate 3 kernel_rfl
  · intro s vs X hl
    match vs, hl with
    | [v], _ => exact binds_peek X (fun S => by kernel_rfl)
  all_goals kernel_rfl
-- the tables
noncomputable def itemsOf (o : Option Obj) : List Value := match o with
  | some ⟨_, _, .seq vs _, _⟩ => vs.toList
  | _ => []
noncomputable def strIs (v : Value) (l : List Nat) : Bool := match v with
  | .str x _ => x.cps.toList == l
  | _ => false
theorem strIs_of {v : Value} {l : List Nat} (h : strIs v l = true) : ∃ t, v = .str (S l) t := by
  unfold strIs at h
  split at h
  · rename_i x t
    refine ⟨t, ?_⟩
    have := eq_of_beq h
    rw [← this, ← S_of]
  · cases h
noncomputable def chkF (f : Nat → List Nat) : Nat → List Value → Bool
  | _, [] => true
  | k, v :: vs => strIs v (f k) && chkF f (k + 1) vs
theorem chkF_of {f : Nat → List Nat} : ∀ {vs : List Value} {j : Nat}, chkF f j vs = true → ∀ i, i < vs.length → ∃ t, vs[i]? = some (.str (S (f (j + i))) t)
  | [], _, _, i, h => by simp at h
  | v :: vs, j, hc, i, hi => by
    rw [chkF, Bool.and_eq_true] at hc
    cases i with
    | zero => obtain ⟨t, rfl⟩ := strIs_of hc.1; exact ⟨t, rfl⟩
    | succ i =>
      obtain ⟨t, ht⟩ := chkF_of hc.2 i (by simpa using hi)
      exact ⟨t, by rw [List.getElem?_cons_succ, ht]; congr 4; lia⟩
theorem k_qmap (P : Params) : ∃ a vs m, nsIn (KP P) mainGlobals "_QUOPRI_MAP" = some (some (.ref a)) ∧ (KP P).lookup a = some (listOf (List.toArray vs) m) ∧ ∀ k, k = 9 ∨ k = 32 → ∃ t, vs[k]? = some (.str (S (esc k)) t) := by
  refine ⟨17, itemsOf ((KP P).lookup 17), 256, by kernel_rfl, by kernel_rfl, ?_⟩
  have h : chkF esc 0 (itemsOf ((KP P).lookup 17)) = true := by kernel_rfl
  have hl : (itemsOf ((KP P).lookup 17)).length = 256 := by kernel_rfl
  intro k hk
  obtain ⟨t, ht⟩ := chkF_of h k (by lia)
  exact ⟨t, by rw [ht, Nat.zero_add]⟩
theorem k_bmap (P : Params) : ∃ a vs m, nsIn (KP P) mainGlobals "_QUOPRI_BODY_ENCODE_MAP" = some (some (.ref a)) ∧ (KP P).lookup a = some (listOf (List.toArray vs) m) ∧ ∀ k, k < 256 → ∃ t, vs[k]? = some (.str (S (if k = 10 ∨ k = 13 then [k] else piece k)) t) := by
  refine ⟨46, itemsOf ((KP P).lookup 46), 0, by kernel_rfl, by kernel_rfl, ?_⟩
  have h : chkF (fun k => if k = 10 ∨ k = 13 then [k] else piece k) 0 (itemsOf ((KP P).lookup 46)) = true := by kernel_rfl
  have hl : (itemsOf ((KP P).lookup 46)).length = 256 := by kernel_rfl
  intro k hk
  obtain ⟨t, ht⟩ := chkF_of h k (by lia)
  exact ⟨t, by rw [ht, Nat.zero_add]⟩
-- the operators' dict
noncomputable def entsOf (o : Option Obj) : List DictEntry := match o with
  | some ⟨_, _, .dict es _, _⟩ => es.toList
  | _ => []
noncomputable def entIs (e : DictEntry) (p : List Nat × Nat) : Bool := strIs e.key p.1 && (match e.val with
  | .int i _ => i == (p.2 : Int)
  | _ => false)
noncomputable def entsAre : List DictEntry → List (List Nat × Nat) → Bool
  | [], [] => true
  | e :: es, p :: ps => entIs e p && entsAre es ps
  | _, _ => false
theorem ents_find {l : List Nat} : ∀ {es : List DictEntry} {ps : List (List Nat × Nat)}, entsAre es ps = true →
    ∃ t, (es.find? fun e => Value.isStrOf (S l) e.key).map (·.val) = (ps.lookup l).map fun (v : Nat) => Value.int (v : Int) t
  | [], [], _ => ⟨0, rfl⟩
  | [], _ :: _, h => by cases h
  | _ :: _, [], h => by cases h
  | e :: es, p :: ps, h => by
    rw [entsAre, Bool.and_eq_true] at h
    obtain ⟨h1, h2⟩ := h
    unfold entIs at h1
    rw [Bool.and_eq_true] at h1
    obtain ⟨t, ht⟩ := strIs_of h1.1
    obtain ⟨q, v⟩ := p
    rw [List.find?_cons, List.lookup_cons, ht]
    have hb : Value.isStrOf (S l) (.str (S q) t) = (l == q) := by
      show (S q == S l) = _
      rw [S_beq, Bool.eq_iff_iff, beq_iff_eq, beq_iff_eq]
      exact eq_comm
    rw [hb]
    cases hq : l == q with
    | true =>
      have h3 := h1.2
      split at h3
      · rename_i i u hv
        refine ⟨u, ?_⟩
        rw [Option.map_some, Option.map_some, hv, eq_of_beq h3]
      · cases h3
    | false => exact ents_find h2
noncomputable def tokTab : List (List Nat × Nat) := [([33], 54), ([33, 61], 28), ([37], 24), ([37, 61], 40), ([38], 19), ([38, 61], 41), ([40], 7), ([41], 8), ([42], 16), ([42, 42], 35), ([42, 42, 61], 46), ([42, 61], 38), ([43], 14), ([43, 61], 36), ([44], 12), ([45], 15), ([45, 61], 37), ([45, 62], 51), ([46], 23), ([46, 46, 46], 52), ([47], 17), ([47, 47], 47), ([47, 47, 61], 48), ([47, 61], 39), ([58], 11), ([58, 61], 53), ([59], 13), ([60], 20), ([60, 60], 33), ([60, 60, 61], 44), ([60, 61], 29), ([61], 22), ([61, 61], 27), ([62], 21), ([62, 61], 30), ([62, 62], 34), ([62, 62, 61], 45), ([64], 49), ([64, 61], 50), ([91], 9), ([93], 10), ([94], 32), ([94, 61], 43), ([123], 25), ([124], 18), ([124, 61], 42), ([125], 26), ([126], 31)]
theorem tok_in : ∀ o ∈ OPS, tokTab.lookup o = some (7 + OPS.idxOf o) := by decide +kernel
theorem tok_out : ∀ p ∈ tokTab, OPS.contains p.1 = true := by decide +kernel
theorem lookup_none {l : List Nat} : ∀ {ps : List (List Nat × Nat)}, (∀ p ∈ ps, OPS.contains p.1 = true) → OPS.contains l = false → ps.lookup l = none
  | [], _, _ => rfl
  | (q, v) :: ps, h, hl => by
    rw [List.lookup_cons]
    have : (l == q) = false := by
      rw [Bool.eq_false_iff]
      intro e
      have h1 := h (q, v) (.head _)
      rw [← eq_of_beq e, hl] at h1
      cases h1
    rw [this]
    exact lookup_none (fun p hp => h p (.tail _ hp)) hl
theorem tok_look (l : List Nat) : tokTab.lookup l = if OPS.contains l = true then some (7 + OPS.idxOf l) else none := by
  split
  · rename_i h; exact tok_in l (List.contains_iff_mem.mp h)
  · rename_i h; exact lookup_none tok_out (by simpa using h)
noncomputable def strOfV (v : Value) : Str := match v with
  | .str x _ => x
  | _ => S []
noncomputable def tokOfV (v : Value) : Tok := match v with
  | .str _ t => t
  | _ => 0
noncomputable def relit (P : Params) (e : DictEntry) : DictEntry := ⟨PyData.keyHash P (strOfV e.key), .str (strOfV e.key) (tokOfV e.key), e.val⟩
theorem keysLit_of (P : Params) : ∀ (es : List DictEntry), KeysLit P (es.map (relit P))
  | [] => trivial
  | _ :: es => ⟨⟨_, _, rfl, rfl⟩, keysLit_of P es⟩
theorem k_tok {g : Gl} (hK : g.K = KP g.w.params) : TokAt g "EXACT_TOKEN_TYPES" := by
  refine ⟨66, (entsOf ((KP g.w.params).lookup 66)).toArray, 48, ?_, ?_, ?_, by decide, ?_⟩
  · rw [hK]; kernel_rfl
  · rw [hK]; kernel_rfl
  · have h : entsOf ((KP g.w.params).lookup 66) = (entsOf ((KP g.w.params).lookup 66)).map (relit g.w.params) := by kernel_rfl
    show KeysLit g.w.params (entsOf ((KP g.w.params).lookup 66))
    rw [h]
    exact keysLit_of _ _
  · intro l
    have h : entsAre (entsOf ((KP g.w.params).lookup 66)) tokTab = true := by kernel_rfl
    obtain ⟨t, ht⟩ := ents_find (l := l) h
    refine ⟨t, ?_⟩
    unfold findBy
    rw [List.find?_toArray, ht, tok_look]
    split <;> rfl
theorem gf_of {g : Gl} (hK : g.K = KP g.w.params) : GF g := by
  refine ⟨?_, ?_, ?_, ?_, ?_, ?_, ?_, k_tok hK⟩
  · rw [hK]; kernel_rfl
  · rw [hK]; kernel_rfl
  · rw [hK]; kernel_rfl
  · rw [hK]; kernel_rfl
  · rw [hK]; kernel_rfl
  · rw [hK]; exact k_escape _
  · rw [hK]; exact k_part _
theorem gd_of {g : Gl} (hK : g.K = KP g.w.params) : GD g := by
  refine ⟨?_, ?_, ?_, ?_, ?_, ?_⟩ <;> rw [hK]
  · exact k_hex _
  · exact k_crlf _
  · exact k_unquote _
  · exact k_quote _
  · exact k_qmap _
  · exact k_bmap _
theorem gl_of {g : Gl} (hK : g.K = KP g.w.params) : GL g := by
  refine ⟨?_, ?_, ?_, ?_, ?_, ?_, ?_, ?_⟩ <;> rw [hK]
  · exact k_operators _
  · exact k_behind _
  · exact k_read _
  · exact k_rows _
  · exact k_numbers _
  · exact k_once _
  · exact k_encode _
  · exact k_decode _
end Mine
end
section
open PySem PySem.W PySem.Calls PyProof.Rows PySem.Spec
namespace Mine
set_option maxRecDepth 100000 in
set_option maxHeartbeats 8000000 in
theorem law_wp {g : Gl} (hK : g.K = KP g.w.params) (ns : List Int) {A : Around} {h₀ h₁ : Heap} {L f : Addr} {cdv : Value} {s₀ s : Shared} {tk : Nat} {a : Addr} {vs : List Value} {m : Str → Option Value} {o1 o2 : Obj} {a1 a2 : Addr}
    (ok : (cxL g A h₀ L f cdv s₀).Ok 60) (hL : h₀.IsList a vs.toArray) (hI : IntsAre vs ns) (hns : ns.length ≤ 63)
    (hs : s = { s₀ with heap := h₁, toks := tk }) (F : Fr h₀ L h₁ m) (N : News h₀ L h₁ [(a2, o2), (a1, o1)]) (h1 : o1.data = .cell none) (h2 : o2.data = .cell none) (hne : a1 ≠ a2)
    (hm : m "script" = some (.ref a)) (c1 : (cxL g A h₀ L f cdv s₀).env.cells.lookup ("operators" : Str) = some a1) (c2 : (cxL g A h₀ L f cdv s₀).env.cells.lookup ("width" : Str) = some a2)
    {Q : Flow → Shared → Prop} {E : Value → Shared → Prop} (hQ : ∀ h' tk' m', Fr h₀ L h' m' → Q (.ret (.bool true)) { s₀ with heap := h', toks := tk' }) :
    wpAny (model g.prog g.w) A (execs fd_law.body (cxL g A h₀ L f cdv s₀).env) Q E s := by
  have hw := law_walk (gf_of hK) (gd_of hK) (gl_of hK) ns (law_ok ns) ok hL hI hns
  subst hs
  have r : Rel (cxL g A h₀ L f cdv s₀) [(a1, o1), (a2, o2)] [] [] ⟨fun y => if y = "script" then some (.raw (.ref a)) else none, [.cell none, .cell none], fun y => if y = "operators" then some 0 else if y = "width" then some 1 else none⟩ { s₀ with heap := h₁, toks := tk } := by
    refine ⟨⟨h₁, tk, rfl⟩, ?_, m, ?_, F⟩
    · intro p hp
      refine N p ?_
      simp only [List.append_nil, List.mem_cons, List.not_mem_nil, or_false] at hp ⊢
      exact hp.symm
    · refine ⟨?_, by simpa using hne, (fun p _ q hq => by cases hq), (fun p hp => by cases hp), rfl, ?_, ?_, (fun C h => by cases h)⟩
      · intro x pv e
        dsimp only at e
        split at e
        · rename_i hx
          subst hx
          cases e
          exact ⟨_, .raw, hm⟩
        · cases e
      · intro i p po e1 e2
        match i, e1, e2 with
        | 0, e1, e2 => cases e1; cases e2; exact .cell0 h1
        | 1, e1, e2 => cases e1; cases e2; exact .cell0 h2
        | i + 2, e1, _ => simp at e1
      · intro x i e
        dsimp only at e
        split at e
        · rename_i hx; subst hx; cases e; exact ⟨a1, c1, rfl⟩
        · split at e
          · rename_i hx; subst hx; cases e; exact ⟨a2, c2, rfl⟩
          · cases e
  refine wpAny_mono (hw.run _ _ _ _ r) (fun fl s' p => ?_) fun _ _ e => e.elim
  obtain ⟨pf, σ', T', Z', rfl, _, hfr, r'⟩ := p
  cases hfr with
  | ret hv =>
    cases hv
    obtain ⟨h', tk', rfl⟩ := r'.sh
    obtain ⟨m', _, F'⟩ := r'.fr
    exact hQ h' tk' m' F'
theorem law_fin {w : World} {prog : Program} {p : Program} {loose : List Str} {mean : ExcName → Option Value} {mg mb : Str → Option Value} {ns : List Int} {base h₀ h₁ : Heap} {L f : Addr} {cdv : Value} {s₀ : Shared} {tk : Nat} {a : Addr} {vs : List Value} {m : Str → Option Value} {o1 o2 : Obj} {a1 a2 : Addr} {v1 v2 : Option Value}
    {name : Str} {body : List Stmt} {scope : Scope} (hname : name = "law") (hbody : body = fd_law.body) (hscope : scope = fd_law.scope)
    (KX : (KP w.params).In h₀) (T : Top p loose mean mg mb h₀) (B : Below callerA base [] h₀) (hL : h₀.IsList a vs.toArray) (hI : IntsAre vs ns) (hns : ¬ ((63 : Nat) : Int) < (ns.length : Int))
    (F : Fr h₀ L h₁ m) (N : News h₀ L h₁ [(a2, o2), (a1, o1)]) (h1 : o1.data = .cell v1) (h2 : o2.data = .cell v2) (h1' : v1 = none) (h2' : v2 = none) (hne : a1 ≠ a2)
    (hm : m "script" = some (.ref a)) (c1 : (envOfC "law" fd_law.scope L f cdv).cells.lookup ("operators" : Str) = some a1) (c2 : (envOfC "law" fd_law.scope L f cdv).cells.lookup ("width" : Str) = some a2)
    {Q : Flow → Shared → Prop} {E : Value → Shared → Prop} (hQ : ∀ h' tk' m', Fr h₀ L h' m' → Q (.ret (.bool true)) { s₀ with heap := h', toks := tk' }) :
    wpAny (model prog w) (callerA.deeper (envOfC name scope L f cdv)) (execs body (envOfC name scope L f cdv)) Q E { s₀ with heap := h₁, toks := tk } := by
  subst hname hbody hscope h1' h2'
  refine law_wp (g := ⟨prog, w, KP w.params, p, loose, mean, mg, mb⟩) rfl ns ?_ hL hI (by lia) rfl F N h1 h2 hne hm c1 c2 hQ
  refine ⟨rfl, KX, T, ⟨callerA, base, [], envOfC "law" fd_law.scope L f cdv, B, rfl, rfl, by kernel_rfl⟩, by kernel_rfl, rfl, rfl, rfl, Nat.le_of_ble_eq_true rfl, Nat.le_of_ble_eq_true rfl⟩
set_option maxRecDepth 100000 in
set_option maxHeartbeats 8000000 in
theorem t0 : PySem.Challenge.rw_rs0178_01.Holds := by
  w_on
  refine holds_law hsaid fun said => ?_
  refine holds_open (q := hView) (loose := hLoose) (Xt := hXt) (XP := XL hView hLv) (Yf := hHook.obs) (Ya := hHook.val) (YP := hHook.says) (N := 38290) hLeft (Hook.of hHook) (Hook.keeps hHook) (fun s e => xl_of s (Bool.and_eq_true_iff.mp e).1) XL.keeps (by rfl) (by rfl) (by rfl) (fun s e => recFacts_of (Bool.and_eq_true_iff.mp e).2) (by rfl) (by first | assumption | decide +kernel) (by decide +kernel) ⟨rfl, rfl, rfl, rfl, rfl, by decide +kernel⟩ ?hw ?hc
  case hw => w_witness2
  intro w s₀ s₁ mg mb G Y fa o pm cd doc dV kV ho hd hcd hD hmg hg args vals as hpre hlay hrd hwl hlo
  have KX := kIn_of Y
  refine Ground.open G ?_
  intro T B D TE TW
  try (refine guard_noD D (by decide +kernel) ?_; clear D)
  obtain ⟨_, _, M⟩ := bmod_of_top T
  have TA := at_of_top T
  try (obtain ⟨_, _, he, B0⟩ := based_of_top T rfl hmg ho hd; have he' : cd = _ := he; subst he'; clear he)
  clear hmg
  wrow_args hpre hlay hrd hwl hlo
  all_goals (
    first | refine callC_kw (enter_call ?_) | refine enter_call ?_ | refine callC_kw (enter_callW ?_) | refine enter_callW ?_
    w_top on
    try refine codeAny_mono ?_ (fun _ _ g => GoodW.toG g)
    have K0 := below_caller (Top.heap T)
    w_call any ho hd hcd hD T F
    clear hd TA
    k_drop
    skip)
  refine' law_fin ?e1 ?e2 ?e3 ?K ?T ?B ?L ?I ?hns ?F ?N ?o1 ?o2 ?v1 ?v2 ?hne ?hm ?c1 ?c2 ?hQ
  case e1 => kernel_rfl
  case e2 => kernel_rfl
  case e3 => kernel_rfl
  case K => assumption
  case T => assumption
  case B => assumption
  case N => assumption
  case F => assumption
  case L => assumption
  case I => assumption
  case hns => assumption
  case o1 => assumption
  case o2 => assumption
  case v1 => kernel_rfl
  case v2 => kernel_rfl
  case hne => exact Nat.ne_of_lt (Nat.lt_succ_self _)
  case hm => kernel_rfl
  case c1 => kernel_rfl
  case c2 => kernel_rfl
  case hQ =>
    intro h' tk' m' F'
    refine goodW_bool F' (by assumption) ?_ ?_ ?_
    · intro cls; rfl
    · refine' postW_of (r := OpenRow.toRowW (OpenLaw.row PySem.Challenge.rw_rs0178_01)) ?zs ?zv ?ze
      case zs => o_shape
      case zv => wtm_val
      case ze => w_fin
    · rfl
end Mine
end
theorem PySem.Challenge.cw_rs0178_01_holds : PySem.Challenge.rw_rs0178_01.Holds :=
  Mine.t0
