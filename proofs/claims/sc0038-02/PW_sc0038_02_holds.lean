import PyProof.Rows.All
import Wide.All
import OpenK.AllK
import Wide.FinOn
import PySem.Challenge.RW_sc0038_02
open PySem PySem.W PyProof.Rows
set_option Elab.async false
set_option maxRecDepth 100000
set_option genInjectivity false
set_option genSizeOf false
set_option genSizeOfSpec false
-- part M0
namespace Mine
theorem cps {G : Prop} (h : ∀ P : Prop, (G → P) → P) : G := h G id

inductive AV where
  | none | bool (b : Bool) | int (i : Int) | str (s : Str) | ref (i : Nat) | adr (a : Addr)
deriving DecidableEq

inductive AO where
  | flat (xs : List AV)
  | refs (xs : List Nat)
  | dict (kvs : List (Int × AV))
  | cell (v : Option AV)
deriving DecidableEq
set_option bootstrap.genMatcherCode false

structure AS where
  loc : List (Option AV)
  cv : Option AV
  objs : List AO

inductive AF where
  | next | brk | cont | ret (v : AV)

noncomputable def All2 {α β : Type} (R : α → β → Prop) : List α → List β → Prop
  | [], [] => True
  | x :: xs, y :: ys => R x y ∧ All2 R xs ys
  | _, _ => False

namespace All2
variable {α β : Type} {R S : α → β → Prop}
theorem length : ∀ {xs : List α} {ys : List β}, All2 R xs ys → xs.length = ys.length
  | [], [], _ => rfl
  | _ :: _, _ :: _, h => by simp [length h.2]
  | [], _ :: _, h => h.elim
  | _ :: _, [], h => h.elim
theorem mono (hRS : ∀ x y, R x y → S x y) : ∀ {xs : List α} {ys : List β}, All2 R xs ys → All2 S xs ys
  | [], [], _ => trivial
  | _ :: _, _ :: _, h => ⟨hRS _ _ h.1, mono hRS h.2⟩
  | [], _ :: _, h => h.elim
  | _ :: _, [], h => h.elim
theorem get : ∀ {xs : List α} {ys : List β} {i : Nat} {x : α}, All2 R xs ys → xs[i]? = some x → ∃ y, ys[i]? = some y ∧ R x y
  | x :: _, y :: _, 0, _, h, e => by
    simp only [List.getElem?_cons_zero, Option.some.injEq] at e; subst e; exact ⟨y, rfl, h.1⟩
  | _ :: _, _ :: _, i + 1, _, h, e => by
    rw [List.getElem?_cons_succ] at e ⊢; exact get h.2 e
  | [], _, _, _, _, e => by simp at e
  | _ :: _, [], _, _, h, _ => h.elim
theorem append : ∀ {xs : List α} {ys : List β} {xs' : List α} {ys' : List β}, All2 R xs ys → All2 R xs' ys' → All2 R (xs ++ xs') (ys ++ ys')
  | [], [], _, _, _, h' => h'
  | _ :: _, _ :: _, _, _, h, h' => ⟨h.1, append h.2 h'⟩
  | [], _ :: _, _, _, h, _ => h.elim
  | _ :: _, [], _, _, h, _ => h.elim
theorem take : ∀ (n : Nat) {xs : List α} {ys : List β}, All2 R xs ys → All2 R (xs.take n) (ys.take n)
  | 0, _, _, _ => by simp [All2]
  | _ + 1, [], [], _ => trivial
  | n + 1, _ :: _, _ :: _, h => ⟨h.1, take n h.2⟩
  | _, [], _ :: _, h => h.elim
  | _, _ :: _, [], h => h.elim
theorem drop : ∀ (n : Nat) {xs : List α} {ys : List β}, All2 R xs ys → All2 R (xs.drop n) (ys.drop n)
  | 0, _, _, h => by simpa using h
  | _ + 1, [], [], _ => trivial
  | n + 1, _ :: _, _ :: _, h => drop n h.2
  | _, [], _ :: _, h => h.elim
  | _, _ :: _, [], h => h.elim
theorem set : ∀ (i : Nat) {x : α} {y : β} {xs : List α} {ys : List β}, R x y → All2 R xs ys → All2 R (xs.set i x) (ys.set i y)
  | _, _, _, [], [], _, _ => trivial
  | 0, _, _, _ :: _, _ :: _, hr, h => ⟨hr, h.2⟩
  | i + 1, _, _, _ :: _, _ :: _, hr, h => ⟨h.1, set i hr h.2⟩
  | _, _, _, [], _ :: _, _, h => h.elim
  | _, _, _, _ :: _, [], _, h => h.elim
theorem eraseIdx : ∀ (i : Nat) {xs : List α} {ys : List β}, All2 R xs ys → All2 R (xs.eraseIdx i) (ys.eraseIdx i)
  | _, [], [], _ => trivial
  | 0, _ :: _, _ :: _, h => h.2
  | i + 1, _ :: _, _ :: _, h => ⟨h.1, eraseIdx i h.2⟩
  | _, [], _ :: _, h => h.elim
  | _, _ :: _, [], h => h.elim
end All2

noncomputable def VRep (ρ : List Addr) : AV → Value → Prop
  | .none, v => v = .none
  | .bool b, v => v = .bool b
  | .int i, v => ∃ t, v = .int i t
  | .str x, v => ∃ t, v = .str x t
  | .ref i, v => ∃ a, ρ[i]? = some a ∧ v = .ref a
  | .adr a, v => v = .ref a

theorem pre_get {α : Type} {l l' : List α} {i : Nat} {x : α} (h : l <+: l') (e : l[i]? = some x) : l'[i]? = some x := by
  obtain ⟨t, rfl⟩ := h
  rw [List.getElem?_append_left]
  · exact e
  · exact (List.getElem?_eq_some_iff.mp e).1

theorem VRep.mono {ρ ρ' : List Addr} (h : ρ <+: ρ') : ∀ {x : AV} {v : Value}, VRep ρ x v → VRep ρ' x v
  | .none, _, e => e
  | .bool _, _, e => e
  | .int _, _, e => e
  | .str _, _, e => e
  | .ref _, _, ⟨a, e, q⟩ => ⟨a, pre_get h e, q⟩
  | .adr _, _, e => e
theorem VRep.of_nil {ρ : List Addr} {x : AV} {v : Value} (h : VRep [] x v) : VRep ρ x v := h.mono (List.nil_prefix)


structure Wd where
  prog : Program
  w : World
  K : Frag
  p : Program
  loose : List Str
  mean : ExcName → Option Value
  mg : Str → Option Value
  mb : Str → Option Value
  olds : List (Addr × Obj)

noncomputable def CRep (ρ : List Addr) : Option AV → Option Value → Prop
  | none, _ => True
  | some a, v => ∃ u, v = some u ∧ VRep ρ a u
theorem CRep.mono {ρ ρ' : List Addr} (h : ρ <+: ρ') : ∀ {x : Option AV} {v : Option Value}, CRep ρ x v → CRep ρ' x v
  | none, _, _ => trivial
  | some _, _, ⟨u, e, q⟩ => ⟨u, e, q.mono h⟩

noncomputable def ORep (X : Wd) (ρ : List Addr) : AO → Obj → Prop
  | .flat xs, o => ∃ vs n, o = listOf vs.toArray n ∧ All2 (VRep []) xs vs
  | .refs is, o => ∃ vs n, o = listOf vs.toArray n ∧ All2 (fun i v => VRep ρ (.ref i) v) is vs
  | .dict kvs, o => ∃ kvs' : List (Int × Value), o.IsDictOf (intKind X.prog X.w) kvs' ∧ All2 (fun kv p => p.1 = kv.1 ∧ VRep [] kv.2 p.2) kvs kvs'
  | .cell a, o => ∃ v, o.data = .cell v ∧ CRep ρ a v

theorem ORep.mono {X : Wd} {ρ ρ' : List Addr} (h : ρ <+: ρ') : ∀ {x : AO} {o : Obj}, ORep X ρ x o → ORep X ρ' x o
  | .flat _, _, e => e
  | .refs _, _, ⟨vs, n, e, q⟩ => ⟨vs, n, e, q.mono fun _ _ z => z.mono h⟩
  | .dict _, _, e => e
  | .cell _, _, ⟨v, e, q⟩ => ⟨v, e, q.mono h⟩

noncomputable def Loc (names : List Str) (ρ : List Addr) (loc : List (Option AV)) (m : Str → Option Value) : Prop :=
  ∀ (i : Nat) (x : Str) (a : AV), names[i]? = some x → loc[i]? = some (some a) → ∃ v, m x = some v ∧ VRep ρ a v

structure Core (X : Wd) (h₀ : Heap) (L : Addr) (names : List Str) (ρ : List Addr) (ex : List (Addr × Obj)) (σ : AS) (h : Heap) : Prop where
  all : ∃ m os, Fr h₀ L h m ∧ News h₀ L h (ρ.zip os ++ ex) ∧ All2 (ORep X ρ) σ.objs os ∧ ρ.length = os.length ∧ (ρ ++ ex.map (·.1)).Nodup ∧ Loc names ρ σ.loc m
  big : sysModules < h₀.objs.size
  low : ∀ a ∈ ρ, a ≠ sysModules

structure Same (s s' : Shared) : Prop where
  os : s'.os = s.os
  gens : ∀ g, g < s.gens.size → s'.gens[g]? = s.gens[g]?
  more : s.gens.size ≤ s'.gens.size
  bare : AllBare s.gens → AllBare s'.gens

theorem Same.refl (s : Shared) : Same s s := ⟨rfl, fun _ _ => rfl, Nat.le_refl _, id⟩
theorem Same.of {s s' : Shared} (h1 : s'.os = s.os) (h2 : s'.gens = s.gens) : Same s s' := ⟨h1, fun _ _ => by rw [h2], by rw [h2]; exact Nat.le_refl _, fun h => by rw [h2]; exact h⟩
theorem Same.trans {a b c : Shared} (h : Same a b) (h' : Same b c) : Same a c :=
  ⟨h'.os.trans h.os, fun g hg => (h'.gens g (Nat.lt_of_lt_of_le hg h.more)).trans (h.gens g hg), Nat.le_trans h.more h'.more, fun x => h'.bare (h.bare x)⟩

structure Cx where
  env : Env
  fenv : Env
  L : Addr
  C : Addr
  outer : List Env
  A₀ : Around
  A : Around
  base : Heap
  h₀ : Heap

structure FD where
  cs : Scope
  names : List Str
  cells : List (Str × Nat)
  cvn : Option Str

structure Cx.OK (c : Cx) (X : Wd) (D : FD) (n : Nat) : Prop where
  below : 0 < n → Below c.A₀ c.base c.outer c.h₀
  old : ∀ p ∈ X.olds, c.h₀.get? p.1 = some p.2
  frames : 0 < n → c.A.frames = some (c.fenv :: c.outer)
  fframe : c.fenv.frame = some c.L
  fkind : c.fenv.scope.kind = .function
  handled : c.A.handled = none
  depth : c.A.depth + n < recursionLimit
  units : c.A.units + 4 * n + 400 < cLine
  kin : X.K.In c.h₀
  top : Top X.p X.loose X.mean X.mg X.mb c.h₀
  escope : c.env.scope = D.cs
  kind : D.cs.kind = .function
  eglob : c.env.globals = mainGlobals
  ebi : c.env.builtins = builtinsNs
  eloc : c.env.locals = match D.cvn with | none => c.L | some _ => c.C

theorem Cx.OK.le {c : Cx} {X : Wd} {D : FD} {n n' : Nat} (h : c.OK X D n) (hn : n' ≤ n) : c.OK X D n' :=
  { h with below := fun z => h.below (Nat.lt_of_lt_of_le z hn), frames := fun z => h.frames (Nat.lt_of_lt_of_le z hn), depth := by have := h.depth; omega, units := by have := h.units; omega }

noncomputable def CvOk (C : Addr) (ρ : List Addr) (a : Option AV) : Option Str → List (Addr × Obj) → Prop
  | none, cv => cv = []
  | some x, cv => ∃ o m, cv = [(C, o)] ∧ (∀ h : Heap, h.get? C = some o → h.Ns C m) ∧ CRep ρ a (m x)

structure Rel (X : Wd) (c : Cx) (D : FD) (ρ : List Addr) (ex : List (Addr × Obj)) (σ : AS) (h : Heap) : Prop where
  core : ∃ cv, Core X c.h₀ c.L D.names ρ (cv ++ ex) σ h ∧ CvOk c.C ρ σ.cv D.cvn cv
  cel : ∀ p ∈ D.cells, ∃ a, c.env.cells.lookup p.1 = some a ∧ ρ[p.2]? = some a

noncomputable def WJ (X : Wd) (c : Cx) (D : FD) {α β : Type} (t : Sem α) (R : List Addr → β → α → Prop) (f : AS → Option (β × AS)) : Prop :=
  ∀ (ρ : List Addr) (ex : List (Addr × Obj)) (σ : AS) (b : β) (σ' : AS) (s : Shared) (Q : α → Shared → Prop) (E : Value → Shared → Prop),
    Rel X c D ρ ex σ s.heap → f σ = some (b, σ') →
    (∀ a s' ρ', ρ <+: ρ' → R ρ' b a → Rel X c D ρ' ex σ' s'.heap → Same s s' → Q a s') → wpAny (model X.prog X.w) c.A t Q E s

noncomputable def FRep (ρ : List Addr) : AF → Flow → Prop
  | .next, f => f = .next
  | .brk, f => f = .brk
  | .cont, f => f = .cont
  | .ret x, f => ∃ v, f = .ret v ∧ VRep ρ x v

noncomputable def EVJ (X : Wd) (n : Nat) (D : FD) (e : Expr) (f : AS → Option (AV × AS)) : Prop := ∀ c : Cx, c.OK X D n → WJ X c D (eval e c.env) VRep f
noncomputable def TJ (X : Wd) (n : Nat) (D : FD) (e : Expr) (f : AS → Option (Bool × AS)) : Prop := ∀ c : Cx, c.OK X D n → WJ X c D (isTrue e c.env (eval e c.env)) (fun _ b a => a = b) f
noncomputable def EXJ (X : Wd) (n : Nat) (D : FD) (st : Stmt) (f : AS → Option (AF × AS)) : Prop := ∀ c : Cx, c.OK X D n → WJ X c D (exec st c.env) FRep f
noncomputable def EXSJ (X : Wd) (n : Nat) (D : FD) (sts : List Stmt) (f : AS → Option (AF × AS)) : Prop := ∀ c : Cx, c.OK X D n → WJ X c D (execs sts c.env) FRep f
end Mine
set_option bootstrap.genMatcherCode false
-- part M1
namespace Mine
variable {X : Wd} {h₀ h h' : Heap} {L : Addr} {names : List Str} {ρ : List Addr} {ex : List (Addr × Obj)} {σ : AS}

theorem Fr.keeps' {m : Str → Option Value} (F : Fr h₀ L h m) (hk : ∀ b o, h.get? b = some o → h'.get? b = some o) : Fr h₀ L h' m :=
  ⟨F.ns.keeps hk, fun b o e => hk b o (F.keep b o e), F.above⟩
theorem News.keeps' {news : List (Addr × Obj)} (N : News h₀ L h news) (hk : ∀ b o, h.get? b = some o → h'.get? b = some o) : News h₀ L h' news :=
  fun p hp => ⟨hk _ _ (N p hp).1, (N p hp).2⟩

theorem Core.keeps (r : Core X h₀ L names ρ ex σ h) (hk : ∀ b o, h.get? b = some o → h'.get? b = some o) : Core X h₀ L names ρ ex σ h' := by
  obtain ⟨m, os, F, N, O, hl, nd, lc⟩ := r.all
  exact ⟨⟨m, os, Fr.keeps' F hk, News.keeps' N hk, O, hl, nd, lc⟩, r.big, r.low⟩

theorem Core.fr (r : Core X h₀ L names ρ ex σ h) : ∃ m, Fr h₀ L h m := let ⟨m, _, F, _⟩ := r.all; ⟨m, F⟩
theorem Core.keep (r : Core X h₀ L names ρ ex σ h) : ∀ b o, h₀.get? b = some o → h.get? b = some o := let ⟨_, _, F, _⟩ := r.all; F.keep

theorem zip_get {os : List Obj} {i : Nat} {a : Addr} {o : Obj} (h1 : ρ[i]? = some a) (h2 : os[i]? = some o) : (a, o) ∈ ρ.zip os := by
  refine List.mem_of_getElem? (i := i) ?_
  rw [List.getElem?_zip_eq_some]; exact ⟨h1, h2⟩

theorem Core.obj (r : Core X h₀ L names ρ ex σ h) {i : Nat} {ao : AO} (hi : σ.objs[i]? = some ao) : ∃ a o, ρ[i]? = some a ∧ h.get? a = some o ∧ ORep X ρ ao o := by
  obtain ⟨m, os, F, N, O, hl, nd, lc⟩ := r.all
  obtain ⟨o, ho, hr⟩ := O.get hi
  have hlt : i < ρ.length := by rw [hl]; exact (List.getElem?_eq_some_iff.mp ho).1
  refine ⟨ρ[i], o, by simp [hlt], ?_, hr⟩
  exact (N _ (List.mem_append_left _ (zip_get (by simp [hlt]) ho))).1

theorem Core.loc (r : Core X h₀ L names ρ ex σ h) : ∃ m, Fr h₀ L h m ∧ Loc names ρ σ.loc m := let ⟨m, _, F, _, _, _, _, lc⟩ := r.all; ⟨m, F, lc⟩

theorem map_fst_zip {α β : Type} : ∀ {l : List α} {r : List β}, l.length = r.length → (l.zip r).map (·.1) = l
  | [], [], _ => rfl
  | _ :: _, _ :: _, h => by simp only [List.zip_cons_cons, List.map_cons]; rw [map_fst_zip (by simpa using h)]
  | [], _ :: _, h => by simp at h
  | _ :: _, [], h => by simp at h

theorem Core.alloc (r : Core X h₀ L names ρ ex σ h) {o : Obj} {ao : AO} (hf : o.isFreed = false) (ho : ORep X ρ ao o) :
    Core X h₀ L names (ρ ++ [h.objs.size]) ex { σ with objs := σ.objs ++ [ao] } (h.push o) := by
  obtain ⟨m, os, F, N, O, hl, nd, lc⟩ := r.all
  have N' := News.push F N o hf
  have pre : ρ <+: ρ ++ [h.objs.size] := List.prefix_append ..
  have hz : (ρ ++ [h.objs.size]).zip (os ++ [o]) = ρ.zip os ++ [(h.objs.size, o)] := by rw [List.zip_append hl]; rfl
  refine ⟨⟨m, os ++ [o], F.push o, ?_, (O.mono fun _ _ z => z.mono pre).append ⟨ho.mono pre, trivial⟩, by simp [hl], ?_, ?_⟩, r.big, fun a ha => by
    rcases List.mem_append.mp ha with ha | ha
    · exact r.low a ha
    · rw [List.mem_singleton.mp ha]; exact beq_eq_false_iff_ne.mp (F.notModules r.big)⟩
  · intro p hp
    rw [hz] at hp
    refine N' p ?_
    simp only [List.mem_append, List.mem_cons, List.not_mem_nil, or_false] at hp ⊢
    rcases hp with (hp | hp) | hp
    · exact .inr (.inl hp)
    · exact .inl hp
    · exact .inr (.inr hp)
  · have hlt : ∀ b ∈ ρ ++ ex.map (·.1), b < h.objs.size := by
      intro b hb
      have : b ∈ (ρ.zip os ++ ex).map (·.1) := by
        rw [List.map_append, map_fst_zip hl]; exact hb
      obtain ⟨p, hp, rfl⟩ := List.mem_map.mp this
      exact Heap.lt_size (N p hp).1
    have hperm : (ρ ++ [h.objs.size] ++ ex.map (·.1)).Perm (h.objs.size :: (ρ ++ ex.map (·.1))) := by
      rw [List.append_assoc]
      exact List.perm_middle
    rw [hperm.nodup_iff, List.nodup_cons]
    exact ⟨fun hb => Nat.lt_irrefl _ (hlt _ hb), nd⟩
  · intro i x a h1 h2
    obtain ⟨v, e, q⟩ := lc i x a h1 h2
    exact ⟨v, e, q.mono pre⟩

theorem Core.store (r : Core X h₀ L names ρ ex σ h) {m : Str → Option Value} {i : Nat} {x : Str} {a : AV} {v : Value} (hnd : names.Nodup) (hx : names[i]? = some x) (hv : VRep ρ a v)
    (hm : h.Ns L m) (hn : h'.Ns L (fun y => if y = x then some v else m y)) (hs : Heap.SameBut L h h') : Core X h₀ L names ρ ex { σ with loc := σ.loc.set i (some a) } h' := by
  obtain ⟨m₁, os, F, N, O, hl, nd, lc⟩ := r.all
  have hmm : m₁ = m := by
    obtain ⟨o1, e1, p1, q1, r1, _, t1⟩ := F.ns
    obtain ⟨o2, e2, p2, q2, r2, _, t2⟩ := hm
    rw [q1] at q2; cases q2; rw [r1] at r2; cases r2
    funext y; rw [← t1, ← t2]
  subst hmm
  refine ⟨⟨_, os, F.set hn hs, N.set hs, O, hl, nd, ?_⟩, r.big, r.low⟩
  intro j y b h1 h2
  by_cases hj : j = i
  · subst hj
    rw [hx] at h1; cases h1
    have h3 : (σ.loc.set j (some a))[j]? = some (some b) := h2
    rw [List.getElem?_set] at h3
    simp only [if_true] at h3
    split at h3
    · cases h3; exact ⟨v, by simp, hv⟩
    · cases h3
  · have hne : y ≠ x := by
      intro e; subst e
      exact hj ((List.getElem?_inj (List.getElem?_eq_some_iff.mp h1).1 hnd).mp (h1.trans hx.symm))
    have h3 : (σ.loc.set i (some a))[j]? = some (some b) := h2
    rw [List.getElem?_set_ne (Ne.symm hj)] at h3
    obtain ⟨u, e, q⟩ := lc j y b h1 h3
    exact ⟨u, by simp [hne, e], q⟩

theorem mem_zip_ne {os : List Obj} {i : Nat} {a : Addr} (hl : ρ.length = os.length) (nd : ρ.Nodup) (hi : ρ[i]? = some a) :
    ∃ pre post o, ρ.zip os = pre ++ (a, o) :: post ∧ os[i]? = some o ∧ (∀ p ∈ pre, p.1 ≠ a) ∧ (∀ p ∈ post, p.1 ≠ a) ∧ ∀ o', ρ.zip (os.set i o') = pre ++ (a, o') :: post := by
  induction ρ generalizing os i with
  | nil => simp at hi
  | cons b ρ ih =>
    cases os with
    | nil => simp at hl
    | cons o os =>
      cases i with
      | zero =>
        simp only [List.getElem?_cons_zero, Option.some.injEq] at hi; subst hi
        refine ⟨[], ρ.zip os, o, rfl, rfl, (fun _ h => nomatch h), fun p hp e => ?_, fun _ => rfl⟩
        have : p.1 ∈ (ρ.zip os).map (·.1) := List.mem_map_of_mem hp
        rw [map_fst_zip (by simpa using hl), e] at this
        exact (List.nodup_cons.mp nd).1 this
      | succ i =>
        rw [List.getElem?_cons_succ] at hi
        obtain ⟨pre, post, o₁, e1, e2, h1, h2, e3⟩ := ih (os := os) (by simpa using hl) (List.nodup_cons.mp nd).2 hi
        refine ⟨(b, o) :: pre, post, o₁, by rw [List.zip_cons_cons, e1]; rfl, by rw [List.getElem?_cons_succ]; exact e2, fun p hp => ?_, h2, fun o' => by
          show (b, o) :: ρ.zip (os.set i o') = _; rw [e3]; rfl⟩
        rcases List.mem_cons.mp hp with rfl | hp
        · intro e
          have e' : b = a := e
          subst e'
          exact (List.nodup_cons.mp nd).1 (List.mem_of_getElem? hi)
        · exact h1 p hp

theorem Core.update (r : Core X h₀ L names ρ ex σ h) {i : Nat} {a : Addr} {ao' : AO} {o' : Obj} (hi : ρ[i]? = some a) (hs : Heap.SameBut a h h') (ho : h'.get? a = some o') (hr : ORep X ρ ao' o') :
    Core X h₀ L names ρ ex { σ with objs := σ.objs.set i ao' } h' := by
  obtain ⟨m, os, F, N, O, hl, nd, lc⟩ := r.all
  obtain ⟨pre, post, o, e1, e2, h1, h2, e3⟩ := mem_zip_ne hl (List.nodup_append.mp nd).1 hi
  have hmem : (a, o) ∈ ρ.zip os ++ ex := List.mem_append_left _ (by rw [e1]; simp)
  have z := N _ hmem
  have hex : ∀ p ∈ ex, p.1 ≠ a := fun p hp e => (List.nodup_append.mp nd).2.2 a (List.mem_of_getElem? hi) p.1 (List.mem_map_of_mem hp) e.symm
  refine ⟨⟨m, os.set i o', ⟨F.ns.sameBut hs (Ne.symm z.2.1), fun b ob e => (hs.2 b fun q => ?_).trans (F.keep b ob e), F.above⟩, ?_, O.set i hr, by simp [hl], nd, lc⟩, r.big, r.low⟩
  · have q' := z.2.2
    rw [show (a, o).1 = b from q.symm, e] at q'; cases q'
  · rw [e3, List.append_assoc]
    have N' : News h₀ L h (pre ++ (a, o) :: (post ++ ex)) := by
      rw [e1, List.append_assoc] at N; exact N
    exact news_set N' h1 (fun p hp => by rcases List.mem_append.mp hp with hp | hp; exact h2 p hp; exact hex p hp) hs ho

variable {c : Cx} {D : FD}
theorem CvOk.mono {C : Addr} {ρ' : List Addr} (hp : ρ <+: ρ') {a : Option AV} : ∀ {x : Option Str} {cv : List (Addr × Obj)}, CvOk C ρ a x cv → CvOk C ρ' a x cv
  | none, _, e => e
  | some _, _, ⟨o, m, e, n, q⟩ => ⟨o, m, e, n, q.mono hp⟩

theorem Rel.keeps (r : Rel X c D ρ ex σ h) (hk : ∀ b o, h.get? b = some o → h'.get? b = some o) : Rel X c D ρ ex σ h' := let ⟨cv, a, b⟩ := r.core; ⟨⟨cv, a.keeps hk, b⟩, r.cel⟩
theorem Rel.push (r : Rel X c D ρ ex σ h) (o : Obj) : Rel X c D ρ ex σ (h.push o) := r.keeps fun _ _ e => Heap.get?_push_of_some _ e
theorem Rel.fr (r : Rel X c D ρ ex σ h) : ∃ m, Fr c.h₀ c.L h m := let ⟨_, a, _⟩ := r.core; a.fr
theorem Rel.keep (r : Rel X c D ρ ex σ h) : ∀ b o, c.h₀.get? b = some o → h.get? b = some o := let ⟨_, a, _⟩ := r.core; a.keep
theorem Rel.obj (r : Rel X c D ρ ex σ h) {i : Nat} {ao : AO} (hi : σ.objs[i]? = some ao) : ∃ a o, ρ[i]? = some a ∧ h.get? a = some o ∧ ORep X ρ ao o := let ⟨_, a, _⟩ := r.core; a.obj hi
theorem Rel.loc (r : Rel X c D ρ ex σ h) : ∃ m, Fr c.h₀ c.L h m ∧ Loc D.names ρ σ.loc m := let ⟨_, a, _⟩ := r.core; a.loc
theorem Rel.low (r : Rel X c D ρ ex σ h) : ∀ a ∈ ρ, a ≠ sysModules := let ⟨_, a, _⟩ := r.core; a.low
theorem Rel.alloc (r : Rel X c D ρ ex σ h) {o : Obj} {ao : AO} (hf : o.isFreed = false) (ho : ORep X ρ ao o) :
    Rel X c D (ρ ++ [h.objs.size]) ex { σ with objs := σ.objs ++ [ao] } (h.push o) :=
  let ⟨cv, a, b⟩ := r.core
  ⟨⟨cv, a.alloc hf ho, b.mono (List.prefix_append ..)⟩, fun p hp => let ⟨a, e, q⟩ := r.cel p hp; ⟨a, e, pre_get (List.prefix_append ..) q⟩⟩
theorem Rel.store (r : Rel X c D ρ ex σ h) {m : Str → Option Value} {i : Nat} {x : Str} {a : AV} {v : Value} (hnd : D.names.Nodup) (hx : D.names[i]? = some x) (hv : VRep ρ a v)
    (hm : h.Ns c.L m) (hn : h'.Ns c.L (fun y => if y = x then some v else m y)) (hs : Heap.SameBut c.L h h') : Rel X c D ρ ex { σ with loc := σ.loc.set i (some a) } h' :=
  let ⟨cv, a, b⟩ := r.core
  ⟨⟨cv, a.store hnd hx hv hm hn hs, b⟩, r.cel⟩
theorem Rel.update (r : Rel X c D ρ ex σ h) {i : Nat} {a : Addr} {ao' : AO} {o' : Obj} (hi : ρ[i]? = some a) (hs : Heap.SameBut a h h') (ho : h'.get? a = some o') (hr : ORep X ρ ao' o') :
    Rel X c D ρ ex { σ with objs := σ.objs.set i ao' } h' :=
  let ⟨cv, a, b⟩ := r.core
  ⟨⟨cv, a.update hi hs ho hr, b⟩, r.cel⟩

end Mine
-- part M2
namespace Mine
variable {X : Wd} {n : Nat} {D : FD}

noncomputable def small (a : Int) : Bool := decide (-1152921504606846976 < a) && decide (a < 1152921504606846976)

noncomputable def int2 {β : Type} (f : Int → Int → Option β) (a b : AV) : Option β := match a with
  | .int i => match b with
    | .int j => f i j
    | _ => none
  | _ => none
noncomputable def str2 {β : Type} (f : Str → Str → Option β) (a b : AV) : Option β := match a with
  | .str i => match b with
    | .str j => f i j
    | _ => none
  | _ => none
noncomputable def bool2 {β : Type} (f : Bool → Bool → Option β) (a b : AV) : Option β := match a with
  | .bool i => match b with
    | .bool j => f i j
    | _ => none
  | _ => none
theorem int2_some {β : Type} {f : Int → Int → Option β} {a b : AV} {v : β} (h : int2 f a b = some v) : ∃ i j, a = .int i ∧ b = .int j ∧ f i j = some v := by
  cases a with
  | int i => cases b with
    | int j => exact ⟨i, j, rfl, rfl, h⟩
    | _ => exact nomatch (show (none : Option β) = some v from h)
  | _ => exact nomatch (show (none : Option β) = some v from h)
theorem str2_some {β : Type} {f : Str → Str → Option β} {a b : AV} {v : β} (h : str2 f a b = some v) : ∃ i j, a = .str i ∧ b = .str j ∧ f i j = some v := by
  cases a with
  | str i => cases b with
    | str j => exact ⟨i, j, rfl, rfl, h⟩
    | _ => exact nomatch (show (none : Option β) = some v from h)
  | _ => exact nomatch (show (none : Option β) = some v from h)
theorem bool2_some {β : Type} {f : Bool → Bool → Option β} {a b : AV} {v : β} (h : bool2 f a b = some v) : ∃ i j, a = .bool i ∧ b = .bool j ∧ f i j = some v := by
  cases a with
  | bool i => cases b with
    | bool j => exact ⟨i, j, rfl, rfl, h⟩
    | _ => exact nomatch (show (none : Option β) = some v from h)
  | _ => exact nomatch (show (none : Option β) = some v from h)
theorem or_some {β : Type} {x y : Option β} {v : β} (h : x.or y = some v) : x = some v ∨ y = some v := by
  cases x with
  | none => exact .inr h
  | some a => exact .inl h
theorem if_some {β : Type} {c : Prop} [Decidable c] {x v : β} (h : (if c then some x else none) = some v) : c ∧ x = v := by
  by_cases hc : c
  · rw [if_pos hc] at h; exact ⟨hc, Option.some.inj h⟩
  · rw [if_neg hc] at h; cases h
noncomputable def pbin (op : Operator) (a b : AV) : Option AV := match op with
  | .Add => (int2 (fun a b => some (.int (a + b))) a b).or (str2 (fun x y => if x.length + y.length ≤ 100000 then some (.str (x ++ y)) else none) a b)
  | .Sub => int2 (fun a b => some (.int (a - b))) a b
  | .Mult => int2 (fun a b => if small a || small b then some (.int (a * b)) else none) a b
  | .FloorDiv => int2 (fun a b => if decide (0 < b) && decide (b < 1073741824) then some (.int (a.fdiv b)) else none) a b
  | .Mod => int2 (fun a b => if b != 0 then some (.int (a.fmod b)) else none) a b
  | .Pow => int2 (fun a b => if small a && decide (0 ≤ b) && decide (b ≤ 1000000) then some (.int (a ^ b.toNat)) else none) a b
  | .LShift => int2 (fun a b => if small a && decide (0 ≤ b) && decide (b ≤ 1000000) then some (.int (a * 2 ^ b.toNat)) else none) a b
  | .BitAnd => int2 (fun a b => some (.int (Builtin.bitAnd a b))) a b
  | .BitOr => int2 (fun a b => some (.int (Builtin.bitOr a b))) a b
  | .BitXor => int2 (fun a b => some (.int (Builtin.bitXor a b))) a b
  | _ => none

noncomputable def P2 (X : Wd) (t : Value → Value → Sem Value) (p : AV → AV → Option AV) : Prop :=
  ∀ (A : Around) (ρ : List Addr) (a b : AV) (a' b' : Value) (v : AV) (s : Shared) (Q E : Value → Shared → Prop), VRep ρ a a' → VRep ρ b b' → p a b = some v →
    (∀ v' tk, VRep [] v v' → Q v' { s with toks := tk }) → wpAny (model X.prog X.w) A (t a' b') Q E s

theorem small_bits {a : Int} (h : small a = true) : Builtin.Int.intBits a ≤ 64 := by
  delta small at h
  simp only [Bool.and_eq_true, decide_eq_true_eq] at h
  exact intBits_le_64 (by omega) (by omega)
theorem small_abs {a : Int} (h : small a = true) : a.natAbs < 2 ^ 64 := by
  delta small at h
  simp only [Bool.and_eq_true, decide_eq_true_eq] at h
  omega

theorem big_fits {a b : Nat} (h : a + b ≤ 100000) : a + b ≤ sizeLine := by rw [sizeLine_eq]; omega

theorem p2_int {t : Value → Value → Sem Value} {f : Int → Int → Option AV} (H : ∀ (A : Around) (i j : Int) (t' u : Tok) (v : AV) (s : Shared) (Q E : Value → Shared → Prop), f i j = some v → (∀ v' tk, VRep [] v v' → Q v' { s with toks := tk }) → wpAny (model X.prog X.w) A (t (.int i t') (.int j u)) Q E s) : P2 X t (fun a b => int2 f a b) := by
  intro A ρ a b a' b' v s Q E ha hb hp k
  obtain ⟨i, j, rfl, rfl, h⟩ := int2_some hp
  obtain ⟨t', rfl⟩ := ha; obtain ⟨u, rfl⟩ := hb
  exact H A i j t' u v s Q E h k
theorem p2_str {t : Value → Value → Sem Value} {f : Str → Str → Option AV} (H : ∀ (A : Around) (i j : Str) (t' u : Tok) (v : AV) (s : Shared) (Q E : Value → Shared → Prop), f i j = some v → (∀ v' tk, VRep [] v v' → Q v' { s with toks := tk }) → wpAny (model X.prog X.w) A (t (.str i t') (.str j u)) Q E s) : P2 X t (fun a b => str2 f a b) := by
  intro A ρ a b a' b' v s Q E ha hb hp k
  obtain ⟨i, j, rfl, rfl, h⟩ := str2_some hp
  obtain ⟨t', rfl⟩ := ha; obtain ⟨u, rfl⟩ := hb
  exact H A i j t' u v s Q E h k
theorem p2_or {t : Value → Value → Sem Value} {p q : AV → AV → Option AV} (h1 : P2 X t p) (h2 : P2 X t q) : P2 X t (fun a b => (p a b).or (q a b)) :=
  fun A ρ a b a' b' v s Q E ha hb hp k => (or_some hp).elim (fun h => h1 A ρ a b a' b' v s Q E ha hb h k) (fun h => h2 A ρ a b a' b' v s Q E ha hb h k)
theorem p2_none {t : Value → Value → Sem Value} : P2 X t (fun _ _ => none) := fun _ _ _ _ _ _ _ _ _ _ _ _ hp => nomatch hp
theorem and3 {a b c : Bool} (h : (a && b && c) = true) : a = true ∧ b = true ∧ c = true := by
  cases a <;> cases b <;> cases c <;> first | exact ⟨rfl, rfl, rfl⟩ | cases h
theorem pbin_ok (op : Operator) : P2 X (binaryOp op) (pbin op) := by
  cases op with
  | Add =>
    exact p2_or (p2_int fun A i j t u v s Q E h k => by cases h; exact add_int (k _ _ ⟨_, rfl⟩))
      (p2_str fun A i j t u v s Q E h k => by obtain ⟨hle, rfl⟩ := if_some h; exact PyProof.Rows.add_str (fun t' tk => k _ _ ⟨_, rfl⟩) (big_fits hle))
  | Sub => exact p2_int fun A i j t u v s Q E h k => by cases h; exact sub_int (k _ _ ⟨_, rfl⟩)
  | Mult =>
    exact p2_int fun A i j t u v s Q E h k => by
      obtain ⟨hs, rfl⟩ := if_some h
      exact mul_int (k _ _ ⟨_, rfl⟩) ((Bool.or_eq_true_iff.mp hs).elim (fun h => .of_left (small_bits h)) (fun h => .of_right (small_bits h)))
  | FloorDiv =>
    exact p2_int fun A i j t u v s Q E h k => by
      obtain ⟨hs, rfl⟩ := if_some h
      have h1 := of_decide_eq_true (Bool.and_eq_true_iff.mp hs).1
      have h2 := of_decide_eq_true (Bool.and_eq_true_iff.mp hs).2
      exact floordiv_int (by omega) (k _ _ ⟨_, rfl⟩) (.inl (PyProof.noPylong_small (by omega)))
  | Mod =>
    exact p2_int fun A i j t u v s Q E h k => by
      obtain ⟨hs, rfl⟩ := if_some h
      exact mod_int (bne_iff_ne.mp hs) (k _ _ ⟨_, rfl⟩)
  | Pow =>
    exact p2_int fun A i j t u v s Q E h k => by
      obtain ⟨hs, rfl⟩ := if_some h
      obtain ⟨h1, h2, h3⟩ := and3 hs
      exact pow_int_small (of_decide_eq_true h2) (of_decide_eq_true h3) (small_abs h1) (k _ _ ⟨_, rfl⟩)
  | LShift =>
    exact p2_int fun A i j t u v s Q E h k => by
      obtain ⟨hs, rfl⟩ := if_some h
      obtain ⟨h1, h2, h3⟩ := and3 hs
      exact lshift_int_small (of_decide_eq_true h2) (of_decide_eq_true h3) (small_abs h1) (k _ _ ⟨_, rfl⟩)
  | BitAnd => exact p2_int fun A i j t u v s Q E h k => by cases h; exact and_int (k _ _ ⟨_, rfl⟩)
  | BitOr => exact p2_int fun A i j t u v s Q E h k => by cases h; exact or_int (k _ _ ⟨_, rfl⟩)
  | BitXor => exact p2_int fun A i j t u v s Q E h k => by cases h; exact xor_int (k _ _ ⟨_, rfl⟩)
  | _ => exact p2_none

noncomputable def pinp (op : Operator) (a b : AV) : Option AV := match op with
  | .Add => (int2 (fun a b => some (.int (a + b))) a b).or (str2 (fun x y => if x.length + y.length ≤ 100000 then some (.str (x ++ y)) else none) a b)
  | .Sub => int2 (fun a b => some (.int (a - b))) a b
  | .BitXor => int2 (fun a b => some (.int (Builtin.bitXor a b))) a b
  | _ => none
theorem pinp_ok (op : Operator) : P2 X (inplaceOp op) (pinp op) := by
  cases op with
  | Add =>
    exact p2_or (p2_int fun A i j t u v s Q E h k => by cases h; exact iadd_int (k _ _ ⟨_, rfl⟩))
      (p2_str fun A i j t u v s Q E h k => by obtain ⟨hle, rfl⟩ := if_some h; exact PyProof.Rows.iadd_str (fun t' tk => k _ _ ⟨_, rfl⟩) (big_fits hle))
  | Sub => exact p2_int fun A i j t u v s Q E h k => by cases h; exact isub_int (k _ _ ⟨_, rfl⟩)
  | BitXor => exact p2_int fun A i j t u v s Q E h k => by cases h; exact ixor_int (k _ _ ⟨_, rfl⟩)
  | _ => exact p2_none

noncomputable def isNone : AV → Bool
  | .none => true
  | _ => false

noncomputable def pcmp (op : CmpOp) (a b : AV) : Option Bool := match op with
  | .Eq => (int2 (fun a b => some (a == b)) a b).or ((str2 (fun x y => some (x == y)) a b).or (bool2 (fun a b => some (a == b)) a b))
  | .NotEq => (int2 (fun a b => some (a != b)) a b).or (str2 (fun x y => some (x != y)) a b)
  | .Lt => int2 (fun a b => some (decide (a < b))) a b
  | .LtE => int2 (fun a b => some (decide (a ≤ b))) a b
  | .Gt => int2 (fun a b => some (decide (b < a))) a b
  | .GtE => int2 (fun a b => some (decide (b ≤ a))) a b
  | .NotIn => str2 (fun y x => some (!(!(Builtin.Str.occurrences x y 0 x.length 1).isEmpty))) a b
  | .Is => if isNone b = true then some (isNone a) else none
  | _ => none
theorem isNone_of {a : AV} (h : isNone a = true) : a = .none := by
  cases a with
  | none => rfl
  | _ => exact nomatch (show false = true from h)

noncomputable def PC (X : Wd) (t : Value → Value → Sem Value) (p : AV → AV → Option Bool) : Prop :=
  ∀ (A : Around) (ρ : List Addr) (a b : AV) (a' b' : Value) (r : Bool) (s : Shared) (Q E : Value → Shared → Prop), VRep ρ a a' → VRep ρ b b' → p a b = some r → Q (.bool r) s → wpAny (model X.prog X.w) A (t a' b') Q E s
theorem pc_int {t : Value → Value → Sem Value} {f : Int → Int → Bool} (H : ∀ (A : Around) (i j : Int) (t' u : Tok) (s : Shared) (Q E : Value → Shared → Prop), Q (.bool (f i j)) s → wpAny (model X.prog X.w) A (t (.int i t') (.int j u)) Q E s) : PC X t (fun a b => int2 (fun i j => some (f i j)) a b) := by
  intro A ρ a b a' b' r s Q E ha hb hp k
  obtain ⟨i, j, rfl, rfl, h⟩ := int2_some hp
  cases h; obtain ⟨t', rfl⟩ := ha; obtain ⟨u, rfl⟩ := hb
  exact H A i j t' u s Q E k
theorem pc_str {t : Value → Value → Sem Value} {f : Str → Str → Bool} (H : ∀ (A : Around) (i j : Str) (t' u : Tok) (s : Shared) (Q E : Value → Shared → Prop), Q (.bool (f i j)) s → wpAny (model X.prog X.w) A (t (.str i t') (.str j u)) Q E s) : PC X t (fun a b => str2 (fun i j => some (f i j)) a b) := by
  intro A ρ a b a' b' r s Q E ha hb hp k
  obtain ⟨i, j, rfl, rfl, h⟩ := str2_some hp
  cases h; obtain ⟨t', rfl⟩ := ha; obtain ⟨u, rfl⟩ := hb
  exact H A i j t' u s Q E k
theorem pc_or {t : Value → Value → Sem Value} {p q : AV → AV → Option Bool} (h1 : PC X t p) (h2 : PC X t q) : PC X t (fun a b => (p a b).or (q a b)) :=
  fun A ρ a b a' b' v s Q E ha hb hp k => (or_some hp).elim (fun h => h1 A ρ a b a' b' v s Q E ha hb h k) (fun h => h2 A ρ a b a' b' v s Q E ha hb h k)
theorem q_of {Q : Value → Shared → Prop} {r r' : Bool} {s : Shared} (k : Q (.bool r) s) (e : r' = r) : Q (.bool r') s := e ▸ k
theorem pcmp_pc (op : CmpOp) : PC X (compareOp op) (pcmp op) := by
  cases op with
  | Eq =>
    exact pc_or (pc_int fun A i j t u s Q E k => eq_int k) (pc_or (pc_str fun A i j t u s Q E k => PyProof.Rows.eq_str k) (by
      intro A ρ a b a' b' r s Q E ha hb hp k
      obtain ⟨i, j, rfl, rfl, h⟩ := bool2_some hp
      cases h; cases ha; cases hb; exact eq_bool k))
  | NotEq => exact pc_or (pc_int fun A i j t u s Q E k => ne_int k) (pc_str fun A i j t u s Q E k => PyProof.Rows.ne_str k)
  | Lt => exact pc_int fun A i j t u s Q E k => lt_int k
  | LtE => exact pc_int fun A i j t u s Q E k => le_int k
  | Gt => exact pc_int fun A i j t u s Q E k => gt_int k
  | GtE => exact pc_int fun A i j t u s Q E k => ge_int k
  | NotIn => exact pc_str fun A i j t u s Q E k => PyProof.Rows.notIn_str k
  | Is =>
    intro A ρ a b a' b' r s Q E ha hb hq k
    obtain ⟨hn, rfl⟩ := if_some hq
    have := isNone_of hn
    subst this
    cases hb
    refine is_none_gen (q_of k ?_)
    cases a with
    | none => cases ha; rfl
    | bool b => cases ha; rfl
    | int i => obtain ⟨t, rfl⟩ := ha; rfl
    | str i => obtain ⟨t, rfl⟩ := ha; rfl
    | ref i => obtain ⟨t, _, rfl⟩ := ha; rfl
    | adr i => cases ha; rfl
  | _ => exact fun _ _ _ _ _ _ _ _ _ _ _ _ hp => nomatch hp
theorem pcmp_ok (op : CmpOp) : P2 X (compareOp op) (fun a b => (pcmp op a b).map .bool) := by
  intro A ρ a b a' b' v s Q E ha hb hp k
  obtain ⟨r, hq, rfl⟩ := Option.map_eq_some_iff.mp hp
  exact pcmp_pc op A ρ a b a' b' r s Q E ha hb hq (k _ s.toks rfl)

noncomputable def intsOf : List AV → Option (List Int)
  | [] => some []
  | .int i :: r => (intsOf r).map (i :: ·)
  | _ :: _ => none
theorem intsOf_map (l : List Int) : intsOf (l.map .int) = some l := by
  induction l with
  | nil => rfl
  | cons x r ih => simp [intsOf, ih]
theorem intsOf_are : ∀ {xs : List AV} {ns : List Int} {vs : List Value}, intsOf xs = some ns → All2 (VRep []) xs vs → IntsAre vs ns
  | [], _, [], h, _ => by cases h; exact .nil
  | .int i :: r, ns, v :: vs, h, ⟨⟨t, e⟩, q⟩ => by
    obtain ⟨ms, h1, rfl⟩ := Option.map_eq_some_iff.mp h
    subst e
    exact .cons i t (intsOf_are h1 q)
  | .none :: _, _, _, h, _ => by cases h
  | .bool _ :: _, _, _, h, _ => by cases h
  | .str _ :: _, _, _, h, _ => by cases h
  | .ref _ :: _, _, _, h, _ => by cases h
  | .adr _ :: _, _, _, h, _ => by cases h
  | [], _, _ :: _, _, q => q.elim
  | .int _ :: _, _, [], _, q => q.elim

noncomputable def getFlat (σ : AS) (i : Nat) : Option (List AV) := match σ.objs[i]? with
  | some (.flat xs) => some xs
  | _ => none
noncomputable def getInts (σ : AS) (i : Nat) : Option (List Int) := (getFlat σ i).bind intsOf
noncomputable def getDict (σ : AS) (i : Nat) : Option (List (Int × AV)) := match σ.objs[i]? with
  | some (.dict xs) => some xs
  | _ => none
theorem getFlat_eq {σ : AS} {i : Nat} {xs : List AV} (h : getFlat σ i = some xs) : σ.objs[i]? = some (.flat xs) := by
  delta getFlat at h; split at h <;> cases h; assumption
theorem getDict_eq {σ : AS} {i : Nat} {xs : List (Int × AV)} (h : getDict σ i = some xs) : σ.objs[i]? = some (.dict xs) := by
  delta getDict at h; split at h <;> cases h; assumption

variable {c : Cx} {h : Heap} {ρ : List Addr} {ex : List (Addr × Obj)} {σ : AS}
theorem Rel.flat (r : Rel X c D ρ ex σ h) {i : Nat} {xs : List AV} (hi : getFlat σ i = some xs) : ∃ a vs k, ρ[i]? = some a ∧ h.get? a = some (listOf vs.toArray k) ∧ All2 (VRep []) xs vs := by
  obtain ⟨a, o, h1, h2, vs, k, rfl, q⟩ := r.obj (getFlat_eq hi)
  exact ⟨a, vs, k, h1, h2, q⟩
theorem Rel.ints (r : Rel X c D ρ ex σ h) {i : Nat} {ns : List Int} (hi : getInts σ i = some ns) : ∃ a vs k, ρ[i]? = some a ∧ h.get? a = some (listOf vs.toArray k) ∧ IntsAre vs ns := by
  obtain ⟨xs, h1, h2⟩ := Option.bind_eq_some_iff.mp hi
  obtain ⟨a, vs, k, e1, e2, q⟩ := r.flat h1
  exact ⟨a, vs, k, e1, e2, intsOf_are h2 q⟩
theorem isList_of {a : Addr} {vs : List Value} {k : Nat} (e : h.get? a = some (listOf vs.toArray k)) : h.IsList a vs.toArray := ⟨_, e, rfl, k, rfl⟩

noncomputable def lookD : List (Int × AV) → Int → Option AV
  | [], _ => none
  | (k, v) :: r, x => if k = x then some v else lookD r x

noncomputable def acmp (op : CmpOp) (a b : AV) (σ : AS) : Option Bool :=
  match op, a, b with
  | .Eq, .ref i, .ref j => (getInts σ i).bind fun x => (getInts σ j).map fun y => decide (x = y)
  | .NotEq, .ref i, .ref j => (getInts σ i).bind fun x => (getInts σ j).map fun y => !decide (x = y)
  | .In, .int k, .ref j => (getInts σ j).map fun y => y.contains k
  | .NotIn, .int k, .ref j => match getDict σ j with
    | some d => some (!(lookD d k).isSome)
    | none => (getInts σ j).map fun y => !y.contains k
  | _, _, _ => pcmp op a b

theorem valueAt_look : ∀ {d : List (Int × AV)} {kvs : List (Int × Value)} (k : Int), All2 (fun kv p => p.1 = kv.1 ∧ VRep [] kv.2 p.2) d kvs →
    (match lookD d k with | some a => ∃ v, valueAt kvs k = some v ∧ VRep [] a v | none => valueAt kvs k = none)
  | [], [], _, _ => rfl
  | (k, a) :: d, (k', v) :: kvs, x, ⟨⟨e, q⟩, h⟩ => by
    have e' : k' = k := e
    subst e'
    have ih := valueAt_look x h
    unfold lookD
    by_cases hk : k' = x
    · subst hk
      rw [if_pos rfl]
      exact ⟨v, by simp [valueAt], q⟩
    · rw [if_neg hk]
      have hv : valueAt ((k', v) :: kvs) x = valueAt kvs x := by simp [valueAt, hk]
      rw [hv]; exact ih
  | [], _ :: _, _, h => h.elim
  | _ :: _, [], _, h => h.elim

theorem any_int_contains {vs : List Value} {ns : List Int} (hi : IntsAre vs ns) (k : Int) : (vs.any fun y => match y with | .int i _ => i == k | _ => false) = ns.contains k := by
  induction hi with
  | nil => rfl
  | cons i t r ih =>
    simp only [List.any_cons, List.contains_cons, ih]
    rw [Bool.beq_comm (a := k)]
theorem mem_ints {vs : List Value} {ns : List Int} (hi : IntsAre vs ns) : ∀ v ∈ vs, ∃ i t, v = .int i t := by
  induction hi with
  | nil => intro v h; cases h
  | cons i t r ih =>
    intro v h
    rcases List.mem_cons.mp h with rfl | h
    · exact ⟨i, t, rfl⟩
    · exact ih v h

theorem Rel.lowAt (r : Rel X c D ρ ex σ h) {i : Nat} {a : Addr} (hi : ρ[i]? = some a) : (a == sysModules) = false := beq_eq_false_iff_ne.mpr (r.low a (List.mem_of_getElem? hi))

noncomputable def Op2 (X : Wd) (n : Nat) (D : FD) (t : Value → Value → Sem Value) (g : AV → AV → AS → Option (AV × AS)) : Prop :=
  ∀ c : Cx, c.OK X D n → ∀ (ρ : List Addr) (ex : List (Addr × Obj)) (σ : AS) (a b : AV) (a' b' : Value) (v : AV) (σ' : AS) (s : Shared) (Q E : Value → Shared → Prop),
    Rel X c D ρ ex σ s.heap → VRep ρ a a' → VRep ρ b b' → g a b σ = some (v, σ') →
    (∀ v' s' ρ', ρ <+: ρ' → VRep ρ' v v' → Rel X c D ρ' ex σ' s'.heap → Same s s' → Q v' s') → wpAny (model X.prog X.w) c.A (t a' b') Q E s

theorem P2.op {t : Value → Value → Sem Value} {p : AV → AV → Option AV} (h : P2 X t p) : Op2 X n D t (fun a b σ => (p a b).map fun v => (v, σ)) := by
  intro c ok ρ ex σ a b a' b' v σ' s Q E hR ha hb hg k
  obtain ⟨u, hu, e⟩ := Option.map_eq_some_iff.mp hg
  cases e
  exact h c.A ρ a b a' b' v s Q E ha hb hu fun v' tk hv => k v' _ ρ (List.prefix_refl _) hv.of_nil hR (.of rfl rfl)

theorem acmp_ok (op : CmpOp) : Op2 X n D (compareOp op) (fun a b σ => (acmp op a b σ).map fun v => (.bool v, σ)) := by
  intro c ok ρ ex σ a b a' b' v σ' s Q E hR ha hb hg k
  obtain ⟨u, hu, e⟩ := Option.map_eq_some_iff.mp hg
  cases e
  have k' : ∀ (r : Bool) (tk : Nat), r = u → Q (.bool r) { s with toks := tk } := fun r tk e => k _ _ ρ (List.prefix_refl _) (by rw [e]; rfl) hR (.of rfl rfl)
  have hu' := ok.units
  delta acmp at hu
  split at hu
  · rename_i i j
    obtain ⟨x, hx, hu⟩ := Option.bind_eq_some_iff.mp hu
    obtain ⟨y, hy, hu⟩ := Option.map_eq_some_iff.mp hu
    obtain ⟨p, vs, q, e1, e2, e3⟩ := hR.ints hx
    obtain ⟨p', vs', q', e1', e2', e3'⟩ := hR.ints hy
    obtain ⟨_, h1, rfl⟩ := ha; obtain ⟨_, h2, rfl⟩ := hb
    rw [e1] at h1; cases h1; rw [e1'] at h2; cases h2
    exact eq_intsK (isList_of e2) e3 (isList_of e2') e3' (by omega) (k' _ s.toks hu)
  · rename_i i j
    obtain ⟨x, hx, hu⟩ := Option.bind_eq_some_iff.mp hu
    obtain ⟨y, hy, hu⟩ := Option.map_eq_some_iff.mp hu
    obtain ⟨p, vs, q, e1, e2, e3⟩ := hR.ints hx
    obtain ⟨p', vs', q', e1', e2', e3'⟩ := hR.ints hy
    obtain ⟨_, h1, rfl⟩ := ha; obtain ⟨_, h2, rfl⟩ := hb
    rw [e1] at h1; cases h1; rw [e1'] at h2; cases h2
    exact ne_intsK (isList_of e2) e3 (isList_of e2') e3' (by omega) (k' _ s.toks hu)
  · rename_i i j
    obtain ⟨y, hy, hu⟩ := Option.map_eq_some_iff.mp hu
    obtain ⟨p, vs, q, e1, e2, e3⟩ := hR.ints hy
    obtain ⟨t, rfl⟩ := ha; obtain ⟨_, h2, rfl⟩ := hb
    rw [e1] at h2; cases h2
    refine SeqRoads2.in_list (fun y => match y with | .int z _ => z == i | _ => false) (fun y hy => ?_) e2 (k' _ s.toks ?_)
    · obtain ⟨z, u, rfl⟩ := mem_ints e3 y (by simpa using hy)
      exact MeetsSeq.EqGives.int z i u t
    · rw [← Array.any_toList, List.toList_toArray, any_int_contains e3]; exact hu
  · rename_i i j
    split at hu
    · rename_i d hd
      obtain ⟨p, o, e1, e2, kvs, e3, e4⟩ := hR.obj (getDict_eq hd)
      obtain ⟨t, rfl⟩ := ha; obtain ⟨_, h2, rfl⟩ := hb
      rw [e1] at h2; cases h2
      refine wpAny_notIn_of (knd := intKind X.prog X.w) (k := i) (intKind_is _ _ _ _) (hR.lowAt e1) (Heap.dictOf_iff.mpr ⟨o, e2, e3⟩ : s.heap.DictOf (intKind X.prog X.w) p kvs).mapOf (k' _ _ ?_)
      have := valueAt_look i e4
      cases hu
      cases hl : lookD d i with
      | none => rw [hl] at this; rw [this]; rfl
      | some a => rw [hl] at this; obtain ⟨v, hv, _⟩ := this; rw [hv]; rfl
    · obtain ⟨y, hy, hu⟩ := Option.map_eq_some_iff.mp hu
      obtain ⟨p, vs, q, e1, e2, e3⟩ := hR.ints hy
      obtain ⟨t, rfl⟩ := ha; obtain ⟨_, h2, rfl⟩ := hb
      rw [e1] at h2; cases h2
      refine SeqRoads2.notIn_list (fun y => match y with | .int z _ => z == i | _ => false) (fun y hy => ?_) e2 (k' _ s.toks ?_)
      · obtain ⟨z, u, rfl⟩ := mem_ints e3 y (by simpa using hy)
        exact MeetsSeq.EqGives.int z i u t
      · rw [← Array.any_toList, List.toList_toArray, any_int_contains e3]; exact hu
  · exact pcmp_ok op c.A ρ a b a' b' (.bool u) s Q E ha hb (by simp [hu]) fun v' tk hv => k v' _ ρ (List.prefix_refl _) hv.of_nil hR (.of rfl rfl)
end Mine
-- part M3
namespace Mine
variable {X : Wd} {n : Nat} {D : FD}

inductive Var where
  | fast (i : Nat) | cell (k : Nat) | cv
noncomputable def ldV : Var → AS → Option AV
  | .fast i, σ => match σ.loc[i]? with
    | some (some a) => some a
    | _ => none
  | .cell k, σ => match σ.objs[k]? with
    | some (.cell (some a)) => some a
    | _ => none
  | .cv, σ => σ.cv
noncomputable def stV : Var → AV → AS → Option AS
  | .fast i, a, σ => some { σ with loc := σ.loc.set i (some a) }
  | .cell k, a, σ => match σ.objs[k]? with
    | some (.cell _) => some { σ with objs := σ.objs.set k (.cell (some a)) }
    | _ => none
  | .cv, _, _ => none
noncomputable def VarOK (D : FD) (x : Str) : Var → Bool
  | .fast i => decide (D.names[i]? = some x) && decide (D.cs.names.lookup x = some .local) && decide (D.cvn = none)
  | .cell k => D.cells.contains (x, k) && decide (D.cs.names.lookup x = some .cell)
  | .cv => decide (D.cvn = some x) && decide (D.cs.names.lookup x = some .local)

noncomputable def ldA (i : Var) (σ : AS) : Option (AV × AS) := match ldV i σ with
  | some a => some (a, σ)
  | none => none
noncomputable def cstA (a : AV) (σ : AS) : Option (AV × AS) := some (a, σ)

theorem Rel.cell {c : Cx} {ρ : List Addr} {ex : List (Addr × Obj)} {σ : AS} {h : Heap} (r : Rel X c D ρ ex σ h) {x : Str} {k : Nat} {a : Option AV} (hc : D.cells.contains (x, k) = true) (ho : σ.objs[k]? = some (.cell a)) :
    ∃ ad o v, c.env.cells.lookup x = some ad ∧ ρ[k]? = some ad ∧ h.get? ad = some o ∧ o.data = .cell v ∧ CRep ρ a v := by
  obtain ⟨ad, h1, h2⟩ := r.cel (x, k) (by simpa using hc)
  obtain ⟨ad', o, h3, h4, v, h5, h6⟩ := r.obj ho
  rw [h2] at h3; cases h3
  exact ⟨ad, o, v, h1, h2, h4, h5, h6⟩

theorem load_ok {c : Cx} (ok : c.OK X D n) {ρ : List Addr} {ex : List (Addr × Obj)} {σ : AS} {s : Shared} {x : Str} {i : Var} {a : AV} {Q : Value → Shared → Prop} {E : Value → Shared → Prop}
    (hR : Rel X c D ρ ex σ s.heap) (hx : VarOK D x i = true) (ha : ldV i σ = some a) (k : ∀ v, VRep ρ a v → Q v s) : wpAny (model X.prog X.w) c.A (loadName c.env x) Q E s := by
  have hk : c.env.scope.kind = .function := by rw [ok.escope]; exact ok.kind
  cases i with
  | fast i =>
    simp only [VarOK, Bool.and_eq_true, decide_eq_true_eq] at hx
    obtain ⟨m, F, lc⟩ := hR.loc
    have hl : σ.loc[i]? = some (some a) := by
      simp only [ldV] at ha; split at ha
      · cases ha; assumption
      · cases ha
    obtain ⟨v, hv, hr⟩ := lc i x a hx.1.1 hl
    have he : c.env.locals = c.L := by have := ok.eloc; rw [hx.2] at this; exact this
    exact wpAny_loadName_local hk (by show c.env.scope.names.lookup x = _; rw [ok.escope]; exact hx.1.2) (he ▸ F.ns) hv (k v hr)
  | cell i =>
    simp only [VarOK, Bool.and_eq_true, decide_eq_true_eq] at hx
    have hl : σ.objs[i]? = some (.cell (some a)) := by
      simp only [ldV] at ha; split at ha
      · cases ha; assumption
      · cases ha
    obtain ⟨ad, o, v, h1, h2, h3, h4, u, rfl, h6⟩ := hR.cell hx.1 hl
    exact wpAny_loadName_cell hk (by show c.env.scope.names.lookup x = _; rw [ok.escope]; exact hx.2) h1 ⟨o, h3, h4⟩ (k u h6)
  | cv =>
    simp only [VarOK, Bool.and_eq_true, decide_eq_true_eq] at hx
    obtain ⟨cv, hc, hv⟩ := hR.core
    rw [hx.1] at hv
    obtain ⟨o, m, rfl, hn, hq⟩ := hv
    have ha' : σ.cv = some a := ha
    rw [ha'] at hq
    obtain ⟨u, hu, hq⟩ := hq
    obtain ⟨m₁, os, F, N, _⟩ := hc.all
    have ho := (N (c.C, o) (List.mem_append_right _ (List.mem_append_left _ (.head _)))).1
    have he : c.env.locals = c.C := by have := ok.eloc; rw [hx.1] at this; exact this
    exact wpAny_loadName_local hk (by show c.env.scope.names.lookup x = _; rw [ok.escope]; exact hx.2) (he ▸ hn _ ho) hu (k u hq)

theorem ev_name {x : Str} {pos : Pos} (i : Var) (hx : VarOK D x i = true) (hd : (x == ("__debug__" : Str)) = false) : EVJ X n D (.Name x pos) (ldA i) := by
  intro c ok ρ ex σ v σ' s Q E hR hf k
  delta ldA at hf
  split at hf
  · rename_i a ha
    cases hf
    exact wpAny_Name (load_ok ok hR hx ha fun v hr => k v s ρ (List.prefix_refl _) hr hR (.refl s)) hd
  · cases hf

theorem ev_int {i : Int} {q : Nat} {pos : Pos} : EVJ X n D (.Constant (.int i) q pos) (cstA (.int i)) := by
  intro c ok ρ ex σ v σ' s Q E hR hf k
  cases hf
  exact wpAny_Constant_int (k _ _ ρ (List.prefix_refl _) ⟨_, rfl⟩ hR (.of rfl rfl))
theorem ev_str {i : Str} {q : Nat} {pos : Pos} : EVJ X n D (.Constant (.str i) q pos) (cstA (.str i)) := by
  intro c ok ρ ex σ v σ' s Q E hR hf k
  cases hf
  exact wpAny_Constant_str (k _ _ ρ (List.prefix_refl _) ⟨_, rfl⟩ hR (.of rfl rfl))
theorem ev_bool {i : Bool} {q : Nat} {pos : Pos} : EVJ X n D (.Constant (.bool i) q pos) (cstA (.bool i)) := by
  intro c ok ρ ex σ v σ' s Q E hR hf k
  cases hf
  exact wpAny_Constant_bool (k _ _ ρ (List.prefix_refl _) rfl hR (.of rfl rfl))
theorem ev_none {q : Nat} {pos : Pos} : EVJ X n D (.Constant .none q pos) (cstA .none) := by
  intro c ok ρ ex σ v σ' s Q E hR hf k
  cases hf
  exact wpAny_Constant_none (k _ _ ρ (List.prefix_refl _) rfl hR (.of rfl rfl))

noncomputable def b2A (fl fr : AS → Option (AV × AS)) (g : AV → AV → AS → Option (AV × AS)) (σ : AS) : Option (AV × AS) :=
  match fl σ with
  | some (a, σ₁) => match fr σ₁ with
    | some (b, σ₂) => g a b σ₂
    | none => none
  | none => none
theorem b2A_some {fl fr : AS → Option (AV × AS)} {g : AV → AV → AS → Option (AV × AS)} {σ : AS} {r : AV × AS} (h : b2A fl fr g σ = some r) :
    ∃ a σ₁ b σ₂, fl σ = some (a, σ₁) ∧ fr σ₁ = some (b, σ₂) ∧ g a b σ₂ = some r := by
  delta b2A at h
  split at h
  · rename_i a σ₁ h1
    split at h
    · rename_i b σ₂ h2
      exact ⟨a, σ₁, b, σ₂, h1, h2, h⟩
    · cases h
  · cases h

theorem ev_binop {l r : Expr} {op : Operator} {pos : Pos} {fl fr : AS → Option (AV × AS)} {g : AV → AV → AS → Option (AV × AS)} (hl : EVJ X n D l fl) (hr : EVJ X n D r fr) (ho : Op2 X n D (binaryOp op) g) :
    EVJ X n D (.BinOp l op r pos) (b2A fl fr g) := by
  intro c ok ρ ex σ v σ' s Q E hR hf k
  obtain ⟨a, σ₁, b, σ₂, h1, h2, h3⟩ := b2A_some hf
  refine wpAny_BinOp (hl c ok ρ ex σ a σ₁ s _ E hR h1 fun a' s₁ ρ₁ p₁ v₁ R₁ S₁ => hr c ok ρ₁ ex σ₁ b σ₂ s₁ _ E R₁ h2 fun b' s₂ ρ₂ p₂ v₂ R₂ S₂ => ?_)
  exact ho c ok ρ₂ ex σ₂ a b a' b' v σ' s₂ Q E R₂ (v₁.mono p₂) v₂ h3 fun v' s₃ ρ₃ p₃ v₃ R₃ S₃ => k v' s₃ ρ₃ (p₁.trans (p₂.trans p₃)) v₃ R₃ (S₁.trans (S₂.trans S₃))

theorem ev_compare {l r : Expr} {op : CmpOp} {pos : Pos} {fl fr : AS → Option (AV × AS)} {g : AV → AV → AS → Option (AV × AS)} (hl : EVJ X n D l fl) (hr : EVJ X n D r fr) (ho : Op2 X n D (compareOp op) g)
    (hm : behindInMarks op r = false) : EVJ X n D (.Compare l [op] [r] pos) (b2A fl fr g) := by
  intro c ok ρ ex σ v σ' s Q E hR hf k
  obtain ⟨a, σ₁, b, σ₂, h1, h2, h3⟩ := b2A_some hf
  refine wpAny_Compare1 (hl c ok ρ ex σ a σ₁ s _ E hR h1 fun a' s₁ ρ₁ p₁ v₁ R₁ S₁ => hr c ok ρ₁ ex σ₁ b σ₂ s₁ _ E R₁ h2 fun b' s₂ ρ₂ p₂ v₂ R₂ S₂ => ?_) hm
  exact ho c ok ρ₂ ex σ₂ a b a' b' v σ' s₂ Q E R₂ (v₁.mono p₂) v₂ h3 fun v' s₃ ρ₃ p₃ v₃ R₃ S₃ => k v' s₃ ρ₃ (p₁.trans (p₂.trans p₃)) v₃ R₃ (S₁.trans (S₂.trans S₃))

noncomputable def ptru : AV → Option Bool
  | .none => some false
  | .bool b => some b
  | .int i => some (i != 0)
  | .str x => if x.length ≤ 100000 then some ((x.length : Int) != 0) else none
  | .ref _ => none
  | .adr _ => none
theorem ptru_ok {A : Around} {ρ : List Addr} {a : AV} {a' : Value} {b : Bool} {s : Shared} {Q : Bool → Shared → Prop} {E : Value → Shared → Prop} (ha : VRep ρ a a') (hp : ptru a = some b)
    (k : ∀ tk, Q b { s with toks := tk }) : wpAny (model X.prog X.w) A (truthy a') Q E s := by
  cases a with
  | none => cases ha; cases hp; exact truthy_none (k s.toks)
  | bool b => cases ha; cases hp; exact wpAny_truthy_bool (k s.toks)
  | int i => obtain ⟨t, rfl⟩ := ha; cases hp; exact PyProof.Rows.truthy_int (k s.toks)
  | str x =>
    obtain ⟨t, rfl⟩ := ha
    simp only [ptru] at hp
    by_cases hle : x.length ≤ 100000
    · rw [if_pos hle] at hp; cases hp; exact PySem.P.truthy_str (by omega) (k _)
    · rw [if_neg hle] at hp; cases hp
  | ref i => cases hp
  | adr i => cases hp

noncomputable def truA (f : AS → Option (AV × AS)) (σ : AS) : Option (Bool × AS) := match f σ with
  | some (a, σ₁) => match ptru a with
    | some b => some (b, σ₁)
    | none => none
  | none => none
theorem tj_plain {e : Expr} {f : AS → Option (AV × AS)} (h : EVJ X n D e f) (he : ∀ env whole, isTrue e env whole = (do let v ← whole; standAt e.pos; holding [v] (truthy v))) : TJ X n D e (truA f) := by
  intro c ok ρ ex σ b σ' s Q E hR hf k
  delta truA at hf
  split at hf
  · rename_i a σ₁ h1
    split at hf
    · rename_i b' h2
      cases hf
      refine isTrue_plain (h c ok ρ ex σ a _ s _ E hR h1 fun a' s₁ ρ₁ p₁ v₁ R₁ S₁ => ptru_ok v₁ h2 fun tk => k _ _ ρ₁ p₁ rfl R₁ ⟨S₁.os, S₁.gens, S₁.more, S₁.bare⟩) (he _ _)
    · cases hf
  · cases hf

theorem tj_compare {l r : Expr} {op : CmpOp} {pos : Pos} {fl fr : AS → Option (AV × AS)} {g : AV → AV → AS → Option (AV × AS)} (hl : EVJ X n D l fl) (hr : EVJ X n D r fr) (ho : Op2 X n D (compareOp op) g)
    (hm : behindInMarks op r = false) : TJ X n D (.Compare l [op] [r] pos) (truA (b2A fl fr g)) := by
  intro c ok ρ ex σ b σ' s Q E hR hf k
  delta truA at hf
  split at hf
  · rename_i a σ₁ h1
    split at hf
    · rename_i b' h2
      cases hf
      obtain ⟨a₁, σ₁, b₁, σ₂, h1, h3, h4⟩ := b2A_some h1
      refine wpAny_isTrue_Compare1 (hl c ok ρ ex σ a₁ σ₁ s _ E hR h1 fun a' s₁ ρ₁ p₁ v₁ R₁ S₁ => hr c ok ρ₁ ex σ₁ b₁ σ₂ s₁ _ E R₁ h3 fun b' s₂ ρ₂ p₂ v₂ R₂ S₂ => ?_) hm
      refine ho c ok ρ₂ ex σ₂ a₁ b₁ a' b' _ σ' s₂ _ E R₂ (v₁.mono p₂) v₂ h4 fun v' s₃ ρ₃ p₃ v₃ R₃ S₃ => ptru_ok v₃ h2 fun tk => ?_
      have S := S₁.trans (S₂.trans S₃)
      exact k _ _ ρ₃ (p₁.trans (p₂.trans p₃)) rfl R₃ ⟨S.os, S.gens, S.more, S.bare⟩
    · cases hf
  · cases hf

noncomputable def notT (f : AS → Option (Bool × AS)) (σ : AS) : Option (Bool × AS) := match f σ with
  | some (b, σ₁) => some (!b, σ₁)
  | none => none
theorem tj_not {e : Expr} {pos : Pos} {f : AS → Option (Bool × AS)} (h : TJ X n D e f) : TJ X n D (.UnaryOp .Not e pos) (notT f) := by
  intro c ok ρ ex σ b σ' s Q E hR hf k
  delta notT at hf
  split at hf
  · rename_i b₁ σ₁ h1
    cases hf
    refine isTrue_not (h c ok ρ ex σ b₁ _ s _ E hR h1 fun a s₁ ρ₁ p₁ e R₁ S₁ => ?_)
    subst e
    exact k _ s₁ ρ₁ p₁ rfl R₁ S₁
  · cases hf

noncomputable def andT (f g : AS → Option (Bool × AS)) (σ : AS) : Option (Bool × AS) := match f σ with
  | some (true, σ₁) => g σ₁
  | some (false, σ₁) => some (false, σ₁)
  | none => none
noncomputable def orT (f g : AS → Option (Bool × AS)) (σ : AS) : Option (Bool × AS) := match f σ with
  | some (false, σ₁) => g σ₁
  | some (true, σ₁) => some (true, σ₁)
  | none => none
noncomputable def ttT (σ : AS) : Option (Bool × AS) := some (true, σ)
noncomputable def ffT (σ : AS) : Option (Bool × AS) := some (false, σ)
noncomputable def TJB (X : Wd) (n : Nat) (D : FD) (op : BoolOp) (es : List Expr) (pos : Pos) (f : AS → Option (Bool × AS)) : Prop :=
  ∀ (whole : Cx → Sem Value) (c : Cx), c.OK X D n → WJ X c D (isTrue (.BoolOp op es pos) c.env (whole c)) (fun _ b a => a = b) f
theorem tjb_and_nil {pos : Pos} : TJB X n D .And [] pos ttT := by
  intro wh c ok ρ ex σ b σ' s Q E hR hf k
  cases hf; exact isTrue_and_nil (k _ s ρ (List.prefix_refl _) rfl hR (.refl s))
theorem tjb_or_nil {pos : Pos} : TJB X n D .Or [] pos ffT := by
  intro wh c ok ρ ex σ b σ' s Q E hR hf k
  cases hf; exact isTrue_or_nil (k _ s ρ (List.prefix_refl _) rfl hR (.refl s))
theorem tjb_and {e : Expr} {es : List Expr} {pos : Pos} {f g : AS → Option (Bool × AS)} (h : TJ X n D e f) (hs : TJB X n D .And es pos g) : TJB X n D .And (e :: es) pos (andT f g) := by
  intro wh c ok ρ ex σ b σ' s Q E hR hf k
  delta andT at hf
  refine isTrue_and ?_
  split at hf
  · rename_i σ₁ h1
    refine h c ok ρ ex σ _ σ₁ s _ E hR h1 fun a s₁ ρ₁ p₁ e R₁ S₁ => ?_
    subst e
    exact hs wh c ok ρ₁ ex σ₁ b σ' s₁ Q E R₁ hf fun a s₂ ρ₂ p₂ e R₂ S₂ => k a s₂ ρ₂ (p₁.trans p₂) e R₂ (S₁.trans S₂)
  · rename_i σ₁ h1
    cases hf
    refine h c ok ρ ex σ _ σ' s _ E hR h1 fun a s₁ ρ₁ p₁ e R₁ S₁ => ?_
    subst e
    exact k false s₁ ρ₁ p₁ rfl R₁ S₁
  · cases hf
theorem tjb_or {e : Expr} {es : List Expr} {pos : Pos} {f g : AS → Option (Bool × AS)} (h : TJ X n D e f) (hs : TJB X n D .Or es pos g) : TJB X n D .Or (e :: es) pos (orT f g) := by
  intro wh c ok ρ ex σ b σ' s Q E hR hf k
  delta orT at hf
  refine isTrue_or ?_
  split at hf
  · rename_i σ₁ h1
    refine h c ok ρ ex σ _ σ₁ s _ E hR h1 fun a s₁ ρ₁ p₁ e R₁ S₁ => ?_
    subst e
    exact hs wh c ok ρ₁ ex σ₁ b σ' s₁ Q E R₁ hf fun a s₂ ρ₂ p₂ e R₂ S₂ => k a s₂ ρ₂ (p₁.trans p₂) e R₂ (S₁.trans S₂)
  · rename_i σ₁ h1
    cases hf
    refine h c ok ρ ex σ _ σ' s _ E hR h1 fun a s₁ ρ₁ p₁ e R₁ S₁ => ?_
    subst e
    exact k true s₁ ρ₁ p₁ rfl R₁ S₁
  · cases hf
theorem tj_boolop {op : BoolOp} {es : List Expr} {pos : Pos} {f : AS → Option (Bool × AS)} (h : TJB X n D op es pos f) : TJ X n D (.BoolOp op es pos) f :=
  fun c ok => h (fun c => eval (.BoolOp op es pos) c.env) c ok

noncomputable def iteA {α : Type} (t : AS → Option (Bool × AS)) (f g : AS → Option (α × AS)) (σ : AS) : Option (α × AS) := match t σ with
  | some (true, σ₁) => f σ₁
  | some (false, σ₁) => g σ₁
  | none => none
theorem ev_ifexp {t b o : Expr} {pos : Pos} {ft : AS → Option (Bool × AS)} {fb fo : AS → Option (AV × AS)} (ht : TJ X n D t ft) (hb : EVJ X n D b fb) (ho : EVJ X n D o fo) : EVJ X n D (.IfExp t b o pos) (iteA ft fb fo) := by
  intro c ok ρ ex σ v σ' s Q E hR hf k
  delta iteA at hf
  refine IfExp_ ?_
  split at hf
  · rename_i σ₁ h1
    refine ht c ok ρ ex σ _ σ₁ s _ E hR h1 fun a s₁ ρ₁ p₁ e R₁ S₁ => ?_
    subst e
    exact hb c ok ρ₁ ex σ₁ v σ' s₁ Q E R₁ hf fun a s₂ ρ₂ p₂ e R₂ S₂ => k a s₂ ρ₂ (p₁.trans p₂) e R₂ (S₁.trans S₂)
  · rename_i σ₁ h1
    refine ht c ok ρ ex σ _ σ₁ s _ E hR h1 fun a s₁ ρ₁ p₁ e R₁ S₁ => ?_
    subst e
    exact ho c ok ρ₁ ex σ₁ v σ' s₁ Q E R₁ hf fun a s₂ ρ₂ p₂ e R₂ S₂ => k a s₂ ρ₂ (p₁.trans p₂) e R₂ (S₁.trans S₂)
  · cases hf
noncomputable def negA (f : AS → Option (AV × AS)) (σ : AS) : Option (AV × AS) := match f σ with
  | some (.int i, σ₁) => some (.int (-i), σ₁)
  | _ => none
theorem ev_neg {e : Expr} {pos : Pos} {f : AS → Option (AV × AS)} (h : EVJ X n D e f) : EVJ X n D (.UnaryOp .USub e pos) (negA f) := by
  intro c ok ρ ex σ v σ' s Q E hR hf k
  delta negA at hf
  split at hf
  · rename_i i σ₁ h1
    cases hf
    refine UnaryOp_ (h c ok ρ ex σ _ σ' s _ E hR h1 fun a s₁ ρ₁ p₁ v₁ R₁ S₁ => ?_)
    obtain ⟨t, rfl⟩ := v₁
    exact PyProof.Rows.neg_int (k _ _ ρ₁ p₁ ⟨_, rfl⟩ R₁ ⟨S₁.os, S₁.gens, S₁.more, S₁.bare⟩)
  · cases hf
end Mine
-- part M4
namespace Mine
variable {X : Wd} {n : Nat} {D : FD}

theorem store_ok {c : Cx} (ok : c.OK X D n) {ρ : List Addr} {ex : List (Addr × Obj)} {σ σ' : AS} {s : Shared} {x : Str} {i : Var} {a : AV} {v : Value} {Q : Unit → Shared → Prop} {E : Value → Shared → Prop}
    (hR : Rel X c D ρ ex σ s.heap) (hv : VRep ρ a v) (hnd : D.names.Nodup) (hx : VarOK D x i = true) (hs : stV i a σ = some σ')
    (k : ∀ s', Rel X c D ρ ex σ' s'.heap → Same s s' → Q () s') : wpAny (model X.prog X.w) c.A (storeName c.env x v) Q E s := by
  have hk : c.env.scope.kind = .function := by rw [ok.escope]; exact ok.kind
  cases i with
  | fast i =>
    simp only [VarOK, Bool.and_eq_true, decide_eq_true_eq] at hx
    cases hs
    obtain ⟨m, F⟩ := hR.fr
    have he : c.env.locals = c.L := by have := ok.eloc; rw [hx.2] at this; exact this
    refine wpAny_storeName_local (m := m) (by show c.env.scope.names.lookup x = _; rw [ok.escope]; exact hx.1.2) (he ▸ F.ns) (fun h' hn hs => k _ (hR.store hnd hx.1.1 hv F.ns (he ▸ hn) (he ▸ hs)) (.of rfl rfl)) ?_
    rw [hk]; rfl
  | cell i =>
    simp only [VarOK, Bool.and_eq_true, decide_eq_true_eq] at hx
    simp only [stV] at hs
    split at hs
    · rename_i a₀ hl
      cases hs
      obtain ⟨ad, o, v₀, h1, h2, h3, h4, _⟩ := hR.cell hx.1 hl
      refine wpAny_storeName_cell hk (by show c.env.scope.names.lookup x = _; rw [ok.escope]; exact hx.2) h1 ⟨o, h3, h4⟩ fun h' hc hsb => ?_
      obtain ⟨o', ho', hd'⟩ := hc
      exact k _ (hR.update h2 hsb ho' ⟨_, hd', v, rfl, hv⟩) (.of rfl rfl)
    · cases hs
  | cv => cases hs

noncomputable def skA (σ : AS) : Option (AF × AS) := some (.next, σ)
noncomputable def seqA (f g : AS → Option (AF × AS)) (σ : AS) : Option (AF × AS) := match f σ with
  | some (.next, σ₁) => g σ₁
  | r => r
theorem exs_nil : EXSJ X n D [] skA := by
  intro c ok ρ ex σ v σ' s Q E hR hf k
  cases hf; exact wpAny_execs_nil (k _ s ρ (List.prefix_refl _) rfl hR (.refl s))
theorem exs_cons {st : Stmt} {r : List Stmt} {f g : AS → Option (AF × AS)} (h : EXJ X n D st f) (hr : EXSJ X n D r g) : EXSJ X n D (st :: r) (seqA f g) := by
  intro c ok ρ ex σ v σ' s Q E hR hf k
  refine wpAny_execs_cons ?_
  delta seqA at hf
  split at hf
  · rename_i σ₁ h1
    refine h c ok ρ ex σ _ σ₁ s _ E hR h1 fun a s₁ ρ₁ p₁ e R₁ S₁ => ?_
    cases e
    exact hr c ok ρ₁ ex σ₁ v σ' s₁ Q E R₁ hf fun a s₂ ρ₂ p₂ e R₂ S₂ => k a s₂ ρ₂ (p₁.trans p₂) e R₂ (S₁.trans S₂)
  · rename_i hne
    refine h c ok ρ ex σ _ σ' s _ E hR hf fun a s₁ ρ₁ p₁ e R₁ S₁ => ?_
    have hq := k a s₁ ρ₁ p₁ e R₁ S₁
    cases v with
    | next => exact (hne σ' hf).elim
    | brk => cases e; exact hq
    | cont => cases e; exact hq
    | ret x => obtain ⟨v, rfl, _⟩ := e; exact hq

noncomputable def asgA (i : Var) (f : AS → Option (AV × AS)) (σ : AS) : Option (AF × AS) := match f σ with
  | some (a, σ₁) => match stV i a σ₁ with
    | some σ₂ => some (.next, σ₂)
    | none => none
  | none => none
theorem ex_assign {x : Str} {pos' pos : Pos} {e : Expr} {f : AS → Option (AV × AS)} (i : Var) (h : EVJ X n D e f) (hnd : D.names.Nodup) (hx : VarOK D x i = true)
    (hs : ∀ env, env.scope = D.cs → swapsWith e (some (.Name x pos')) pos.line env = pure false) :
    EXJ X n D (.Assign [.Name x pos'] e pos) (asgA i f) := by
  intro c ok ρ ex σ v σ' s Q E hR hf k
  delta asgA at hf
  split at hf
  · rename_i a σ₁ h1
    split at hf
    · rename_i σ₂ h2
      cases hf
      refine wpAny_Assign_Name (h c ok ρ ex σ a σ₁ s _ E hR h1 fun a' s₁ ρ₁ p₁ v₁ R₁ S₁ => ?_) (hs _ ok.escope)
      exact store_ok ok R₁ v₁ hnd hx h2 fun s₂ R₂ S₂ => k _ s₂ ρ₁ p₁ rfl R₂ (S₁.trans S₂)
    · cases hf
  · cases hf

noncomputable def augA (i : Var) (f : AS → Option (AV × AS)) (g : AV → AV → AS → Option (AV × AS)) (σ : AS) : Option (AF × AS) := match b2A (ldA i) f g σ with
  | some (a, σ₁) => match stV i a σ₁ with
    | some σ₂ => some (.next, σ₂)
    | none => none
  | none => none
theorem ex_aug {x : Str} {pos' pos : Pos} {e : Expr} {op : Operator} {f : AS → Option (AV × AS)} {g : AV → AV → AS → Option (AV × AS)} (i : Var) (h : EVJ X n D e f) (ho : Op2 X n D (inplaceOp op) g) (hnd : D.names.Nodup) (hx : VarOK D x i = true) :
    EXJ X n D (.AugAssign (.Name x pos') op e pos) (augA i f g) := by
  intro c ok ρ ex σ v σ' s Q E hR hf k
  delta augA at hf
  split at hf
  · rename_i a σ₁ h1
    split at hf
    · rename_i σ₄ h4
      cases hf
      obtain ⟨b, σ₂, b₂, σ₃, h1, h2, h3⟩ := b2A_some h1
      delta ldA at h1
      split at h1
      · rename_i a₀ ha
        cases h1
        refine wpAny_AugAssign_Name (load_ok ok hR hx ha fun v' hr => ?_)
        refine h c ok ρ ex _ b₂ σ₃ s _ E hR h2 fun b' s₁ ρ₁ p₁ v₁ R₁ S₁ => ?_
        refine ho c ok ρ₁ ex σ₃ b b₂ v' b' a σ₁ s₁ _ E R₁ (hr.mono p₁) v₁ h3 fun r' s₂ ρ₂ p₂ v₂ R₂ S₂ => ?_
        exact store_ok ok R₂ v₂ hnd hx h4 fun s₃ R₃ S₃ => k _ s₃ ρ₂ (p₁.trans p₂) rfl R₃ (S₁.trans (S₂.trans S₃))
      · cases h1
    · cases hf
  · cases hf

theorem ex_if {t : Expr} {b o : List Stmt} {pos : Pos} {ft : AS → Option (Bool × AS)} {fb fo : AS → Option (AF × AS)} (ht : TJ X n D t ft) (hb : EXSJ X n D b fb) (ho : EXSJ X n D o fo) : EXJ X n D (.If t b o pos) (iteA ft fb fo) := by
  intro c ok ρ ex σ v σ' s Q E hR hf k
  delta iteA at hf
  refine wpAny_If ?_
  split at hf
  · rename_i σ₁ h1
    refine ht c ok ρ ex σ _ σ₁ s _ E hR h1 fun a s₁ ρ₁ p₁ e R₁ S₁ => ?_
    subst e
    exact hb c ok ρ₁ ex σ₁ v σ' s₁ Q E R₁ hf fun a s₂ ρ₂ p₂ e R₂ S₂ => k a s₂ ρ₂ (p₁.trans p₂) e R₂ (S₁.trans S₂)
  · rename_i σ₁ h1
    refine ht c ok ρ ex σ _ σ₁ s _ E hR h1 fun a s₁ ρ₁ p₁ e R₁ S₁ => ?_
    subst e
    exact ho c ok ρ₁ ex σ₁ v σ' s₁ Q E R₁ hf fun a s₂ ρ₂ p₂ e R₂ S₂ => k a s₂ ρ₂ (p₁.trans p₂) e R₂ (S₁.trans S₂)
  · cases hf

noncomputable def noA {α : Type} (_ : AS) : Option (α × AS) := none
theorem exs_no {sts : List Stmt} : EXSJ X n D sts noA := fun _ _ _ _ _ _ _ _ _ _ _ h => nomatch h
noncomputable def retA (f : AS → Option (AV × AS)) (σ : AS) : Option (AF × AS) := match f σ with
  | some (a, σ₁) => some (.ret a, σ₁)
  | none => none
theorem ex_return {e : Expr} {pos : Pos} {f : AS → Option (AV × AS)} (h : EVJ X n D e f) : EXJ X n D (.Return (some e) pos) (retA f) := by
  intro c ok ρ ex σ v σ' s Q E hR hf k
  delta retA at hf
  split at hf
  · rename_i a σ₁ h1
    cases hf
    exact wpAny_Return_some (h c ok ρ ex σ a _ s _ E hR h1 fun a' s₁ ρ₁ p₁ v₁ R₁ S₁ => k _ s₁ ρ₁ p₁ ⟨_, rfl, v₁⟩ R₁ S₁)
  · cases hf

noncomputable def dropA (f : AS → Option (AV × AS)) (σ : AS) : Option (AF × AS) := match f σ with
  | some (_, σ₁) => some (.next, σ₁)
  | none => none
theorem ex_expr {e : Expr} {pos : Pos} {f : AS → Option (AV × AS)} (h : EVJ X n D e f) (hs : ∀ env, swapsWith e none pos.line env = pure false) : EXJ X n D (.Expr e pos) (dropA f) := by
  intro c ok ρ ex σ v σ' s Q E hR hf k
  delta dropA at hf
  split at hf
  · rename_i a σ₁ h1
    cases hf
    exact wpAny_Expr_any (h c ok ρ ex σ a _ s _ E hR h1 fun a' s₁ ρ₁ p₁ v₁ R₁ S₁ => k _ s₁ ρ₁ p₁ rfl R₁ S₁) (by show (c.env.scope.kind == .module && _) = false; rw [ok.escope, ok.kind]; rfl) (hs _)
  · cases hf

noncomputable def brkA (σ : AS) : Option (AF × AS) := some (.brk, σ)
theorem ex_break {pos : Pos} : EXJ X n D (.Break pos) brkA := by
  intro c ok ρ ex σ v σ' s Q E hR hf k
  cases hf
  exact wpAny_Break (k _ _ ρ (List.prefix_refl _) rfl hR (.refl s))
noncomputable def assA (t : AS → Option (Bool × AS)) (σ : AS) : Option (AF × AS) := match t σ with
  | some (true, σ₁) => some (.next, σ₁)
  | _ => none
theorem ex_assert {e : Expr} {pos : Pos} {f : AS → Option (Bool × AS)} (h : TJ X n D e f) : EXJ X n D (.Assert e none pos) (assA f) := by
  intro c ok ρ ex σ v σ' s Q E hR hf k
  delta assA at hf
  split at hf
  · rename_i σ₁ h1
    cases hf
    have e0 : exec (.Assert e none pos) c.env = (do standAt pos; if ← isTrue e c.env (eval e c.env) then pure .next else assertFails e.pos (evalOpt none c.env)) := rfl
    rw [e0]
    refine wpAny_bind (wpAny_standAt (wpAny_bind (h c ok ρ ex σ _ _ s _ E hR h1 fun a s₁ ρ₁ p₁ e R₁ S₁ => ?_)))
    subst e
    exact wpAny_pure (k _ s₁ ρ₁ p₁ rfl R₁ S₁)
  · cases hf
end Mine
-- part M5
namespace Mine
variable {X : Wd} {n : Nat} {D : FD}

theorem Rel.news {c : Cx} {ρ : List Addr} {ex : List (Addr × Obj)} {σ : AS} {h : Heap} (r : Rel X c D ρ ex σ h) : ∃ m news, Fr c.h₀ c.L h m ∧ News c.h₀ c.L h news ∧
    (∀ h', Fr c.h₀ c.L h' m → News c.h₀ c.L h' news → Rel X c D ρ ex σ h') ∧
    (∀ h' a o ao, h.objs.size ≤ a → Fr c.h₀ c.L h' m → News c.h₀ c.L h' ((a, o) :: news) → ORep X ρ ao o → Rel X c D (ρ ++ [a]) ex { σ with objs := σ.objs ++ [ao] } h') := by
  obtain ⟨cv, hc, hv⟩ := r.core
  obtain ⟨m, os, F, N, O, hl, nd, lc⟩ := hc.all
  refine ⟨m, _, F, N, fun h' F' N' => ⟨⟨cv, ⟨⟨m, os, F', N', O, hl, nd, lc⟩, hc.big, hc.low⟩, hv⟩, r.cel⟩, fun h' a o ao ha F' N' ho => ?_⟩
  have pre : ρ <+: ρ ++ [a] := List.prefix_append ..
  have hz : (ρ ++ [a]).zip (os ++ [o]) = ρ.zip os ++ [(a, o)] := by rw [List.zip_append hl]; rfl
  refine ⟨⟨cv, ⟨⟨m, os ++ [o], F', ?_, (O.mono fun _ _ z => z.mono pre).append ⟨ho.mono pre, trivial⟩, by simp [hl], ?_, ?_⟩, hc.big, fun b hb => ?_⟩, hv.mono pre⟩, fun p hp => ?_⟩
  · intro p hp
    rw [hz] at hp
    refine N' p ?_
    simp only [List.mem_append, List.mem_cons, List.not_mem_nil, or_false] at hp ⊢
    rcases hp with (hp | hp) | hp
    · exact .inr (.inl hp)
    · exact .inl hp
    · exact .inr (.inr hp)
  · have hlt : ∀ b ∈ ρ ++ (cv ++ ex).map (·.1), b < h.objs.size := by
      intro b hb
      have : b ∈ (ρ.zip os ++ (cv ++ ex)).map (·.1) := by
        rw [List.map_append, map_fst_zip hl]; exact hb
      obtain ⟨p, hp, rfl⟩ := List.mem_map.mp this
      exact Heap.lt_size (N p hp).1
    have hperm : (ρ ++ [a] ++ (cv ++ ex).map (·.1)).Perm (a :: (ρ ++ (cv ++ ex).map (·.1))) := by
      rw [List.append_assoc]
      exact List.perm_middle
    rw [hperm.nodup_iff, List.nodup_cons]
    exact ⟨fun hb => Nat.lt_irrefl _ (Nat.lt_of_lt_of_le (hlt _ hb) ha), nd⟩
  · intro i x b h1 h2
    obtain ⟨v, e, q⟩ := lc i x b h1 h2
    exact ⟨v, e, q.mono pre⟩
  · rcases List.mem_append.mp hb with hb | hb
    · exact hc.low b hb
    · rw [List.mem_singleton.mp hb]
      refine beq_eq_false_iff_ne.mp (beq_eq_false_iff_ne.mpr fun e => ?_)
      have h2 : c.h₀.objs.size ≤ h.objs.size := Nat.le_of_lt (Nat.lt_of_le_of_lt F.above F.ns.lt)
      have e' : a = sysModules := e
      subst e'
      exact Nat.lt_irrefl _ (Nat.lt_of_lt_of_le (Nat.lt_of_lt_of_le hc.big h2) ha)
  · obtain ⟨b, e, q⟩ := r.cel p hp
    exact ⟨b, e, pre_get pre q⟩

noncomputable def NmJ (X : Wd) (D : FD) (e : Expr) (v : Value) : Prop := ∀ (n : Nat) (c : Cx), c.OK X D n → ∀ (ρ : List Addr) (ex : List (Addr × Obj)) (σ : AS) (s : Shared) (Q E : Value → Shared → Prop),
  Rel X c D ρ ex σ s.heap → Q v s → wpAny (model X.prog X.w) c.A (eval e c.env) Q E s

theorem nm_global {x : Str} {pos : Pos} {v : Value} (e : nsIn X.K mainGlobals x = some (some v)) (hx : D.cs.names.lookup x = some .globalImplicit) (hd : (x == ("__debug__" : Str)) = false := by decide) : NmJ X D (.Name x pos) v := by
  intro n c ok ρ ex σ s Q E hR h
  refine Calls.Name_function_global (by rw [ok.escope]; exact ok.kind) (by show c.env.scope.names.lookup x = _; rw [ok.escope]; exact hx) (Calls.loadGlobal_global (mg := X.mg) ?_ (mg_of ok.kin ok.top.g e) h) hd
  rw [ok.eglob]; exact ok.top.g.keeps hR.keep
theorem nm_builtin {x : Str} {pos : Pos} {v : Value} (e : nsIn X.K mainGlobals x = some none) (hv : bootBuiltins x = some v) (hx : D.cs.names.lookup x = some .globalImplicit) (hn : x ≠ "__name__" := by decide) (hd : (x == ("__debug__" : Str)) = false := by decide) :
    NmJ X D (.Name x pos) v := by
  intro n c ok ρ ex σ s Q E hR h
  refine Calls.Name_function_global (by rw [ok.escope]; exact ok.kind) (by show c.env.scope.names.lookup x = _; rw [ok.escope]; exact hx) (Calls.loadGlobal_builtin (mg := X.mg) (mb := X.mb) ?_ (mg_none_of ok.kin ok.top.g e) ?_ ((ok.top.builtins x hn).trans hv) h) hd
  · rw [ok.eglob]; exact ok.top.g.keeps hR.keep
  · rw [ok.ebi]; exact ok.top.b.keeps hR.keep
theorem ev_const {e : Expr} {v : Value} {a : AV} (h : NmJ X D e v) (ha : VRep [] a v) : EVJ X n D e (cstA a) := by
  intro c ok ρ ex σ v' σ' s Q E hR hf k
  cases hf
  exact h n c ok ρ ex σ s Q E hR (k _ s ρ (List.prefix_refl _) ha.of_nil hR (.refl s))

noncomputable def ARJ (X : Wd) (n : Nat) (D : FD) (es : List Expr) (f : AS → Option (List AV × AS)) : Prop :=
  ∀ c : Cx, c.OK X D n → ∀ pos : Pos, WJ X c D (spliced (backTo pos (starEach es c.env))) (fun ρ => All2 (VRep ρ)) f
noncomputable def argN (σ : AS) : Option (List AV × AS) := some ([], σ)
noncomputable def argC (f : AS → Option (AV × AS)) (g : AS → Option (List AV × AS)) (σ : AS) : Option (List AV × AS) := match f σ with
  | some (a, σ₁) => match g σ₁ with
    | some (as, σ₂) => some (a :: as, σ₂)
    | none => none
  | none => none
theorem ar_nil : ARJ X n D [] argN := by
  intro c ok pos ρ ex σ b σ' s Q E hR hf k
  cases hf
  exact args_nil (k [] s ρ (List.prefix_refl _) trivial hR (.refl s))
theorem ar_cons {e : Expr} {es : List Expr} {f : AS → Option (AV × AS)} {g : AS → Option (List AV × AS)} (h : EVJ X n D e f) (hs : ARJ X n D es g)
    (he : ∀ env, starEach (e :: es) env = (false, eval e env) :: starEach es env) : ARJ X n D (e :: es) (argC f g) := by
  intro c ok pos ρ ex σ b σ' s Q E hR hf k
  delta argC at hf
  split at hf
  · rename_i a σ₁ h1
    split at hf
    · rename_i as σ₂ h2
      cases hf
      refine args_cons (h c ok ρ ex σ a σ₁ s _ E hR h1 fun v s₁ ρ₁ p₁ v₁ R₁ S₁ => ?_) (he _)
      exact hs c ok pos ρ₁ ex σ₁ as _ s₁ _ E R₁ h2 fun vs s₂ ρ₂ p₂ v₂ R₂ S₂ => k _ s₂ ρ₂ (p₁.trans p₂) ⟨v₁.mono p₂, v₂⟩ R₂ (S₁.trans S₂)
    · cases hf
  · cases hf

noncomputable def CallJ (X : Wd) (n : Nat) (D : FD) (f : Value) (g : List AV → AS → Option (AV × AS)) : Prop :=
  ∀ c : Cx, c.OK X D n → ∀ (ρ : List Addr) (ex : List (Addr × Obj)) (σ : AS) (as : List AV) (vs : List Value) (v : AV) (σ' : AS) (s : Shared) (Q E : Value → Shared → Prop),
    Rel X c D ρ ex σ s.heap → All2 (VRep ρ) as vs → g as σ = some (v, σ') →
    (∀ v' s' ρ', ρ <+: ρ' → VRep ρ' v v' → Rel X c D ρ' ex σ' s'.heap → Same s s' → Q v' s') → wpAny (model X.prog X.w) c.A (call f vs) Q E s

noncomputable def Callable (X : Wd) (f : Value) : Prop := (∃ id, f = .builtin id) ∨ (∃ T, f = .type T) ∨ keepIn X.K f = true

noncomputable def callA (fa : AS → Option (List AV × AS)) (g : List AV → AS → Option (AV × AS)) (σ : AS) : Option (AV × AS) := match fa σ with
  | some (as, σ₁) => g as σ₁
  | none => none

noncomputable def Plainly (pos : Pos) (es : List Expr) (env : Env) : Prop := backTo pos (starEach es env) = [] ∨ ∃ x r, backTo pos (starEach es env) = (false, x) :: r ∧ r.any (·.1) = false
theorem callWith_any {c : Cx} (ok : c.OK X D n) {f : Value} (hf : Callable X f) {pos : Pos} {es : List Expr} {first : List Value} {s : Shared} {Q E : Value → Shared → Prop}
    (hp : Plainly pos es c.env)
    (h : wpAny (model X.prog X.w) c.A (spliced (backTo pos (starEach es c.env))) (fun vs s₁ => (∀ b o, c.h₀.get? b = some o → s₁.heap.get? b = some o) ∧ wpAny (model X.prog X.w) c.A (call f (first ++ vs)) Q E s₁) E s) :
    wpAny (model X.prog X.w) c.A (callWith pos f first (backTo pos (starEach es c.env)) []) Q E s := by
  have key : ∀ {R : List Value → Shared → Prop}, (∀ vs s₁, ((∀ b o, c.h₀.get? b = some o → s₁.heap.get? b = some o) ∧ wpAny (model X.prog X.w) c.A (call f (first ++ vs)) Q E s₁) → R vs s₁) →
      wpAny (model X.prog X.w) c.A (evalArgs f true (backTo pos (starEach es c.env)) []) (fun a s₁ => a.kw = [] ∧ R a.pos s₁) E s := by
    intro R hR
    rcases hp with e | ⟨x, r, e, _⟩
    · rw [e] at h ⊢
      unfold evalArgs
      show wpAny _ _ (spliced [] >>= _) _ E s
      refine wpAny_bind (wpAny_mono h (fun vs s₁ z => wpAny_bind (wpAny_pure ?_)) fun _ _ z => z)
      refine wpAny_holding ?_
      exact wpAny_bind (wpAny_pure (wpAny_bind (wpAny_pure (wpAny_pure ⟨rfl, hR _ _ z⟩))))
    · rw [e] at h ⊢
      exact Calls.evalArgs_plain (wpAny_mono h (fun vs s₁ z => ⟨rfl, hR vs s₁ z⟩) fun _ _ z => z)
  have hp' : (backTo pos (starEach es c.env)).any (·.1) = false := by
    rcases hp with e | ⟨x, r, e, q⟩
    · rw [e]; rfl
    · rw [e]; exact q
  rcases hf with ⟨id, rfl⟩ | ⟨T, rfl⟩ | hk
  · exact Calls.callWith_builtin hp' (wpAny_mono (key (R := fun vs s₁ => wpAny (model X.prog X.w) c.A (call (.builtin id) (first ++ vs)) Q E s₁) fun vs s₁ z => z.2) (fun a s₁ z => by rw [z.1]; exact z.2) fun _ _ z => z)
  · exact PySem.callWith_type hp' (wpAny_mono (key (R := fun vs s₁ => wpAny (model X.prog X.w) c.A (call (.type T) (first ++ vs)) Q E s₁) fun vs s₁ z => z.2) (fun a s₁ z => by rw [z.1]; exact z.2) fun _ _ z => z)
  · exact callWith_of (by rw [hp']; rfl) (keeps_K hk) (wpAny_mono (key (R := fun vs s₁ => X.K.In s₁.heap ∧ wpAny (model X.prog X.w) c.A (call f (first ++ vs)) Q E s₁) fun vs s₁ z => ⟨ok.kin.keeps z.1, z.2⟩) (fun a s₁ z => by rw [z.1]; exact z.2) fun _ _ z => z)

theorem ev_call {func : Expr} {es : List Expr} {pos : Pos} {f : Value} {fa : AS → Option (List AV × AS)} {g : List AV → AS → Option (AV × AS)} (hf : NmJ X D func f) (hc : Callable X f) (ha : ARJ X n D es fa) (hg : CallJ X n D f g)
    (hp : ∀ env, Plainly pos es env)
    (he : ∀ env, eval (.Call func es [] pos) env = (do callWith pos (← eval func env) [] (backTo pos (starEach es env)) (backToKw pos (keywordEach [] env)))) : EVJ X n D (.Call func es [] pos) (callA fa g) := by
  intro c ok ρ ex σ v σ' s Q E hR hf' k
  delta callA at hf'
  split at hf'
  · rename_i as σ₁ h1
    refine Call_ (hf n c ok ρ ex σ s _ E hR ?_) (he _)
    refine callWith_any ok hc (hp _) (ha c ok pos ρ ex σ as σ₁ s _ E hR h1 fun vs s₁ ρ₁ p₁ v₁ R₁ S₁ => ⟨R₁.keep, ?_⟩)
    exact hg c ok ρ₁ ex σ₁ as vs v σ' s₁ Q E R₁ v₁ hf' fun v' s₂ ρ₂ p₂ v₂ R₂ S₂ => k v' s₂ ρ₂ (p₁.trans p₂) v₂ R₂ (S₁.trans S₂)
  · cases hf'

noncomputable def GetJ (X : Wd) (n : Nat) (D : FD) (name : Str) (id : String) (sel : AV → AS → Bool) : Prop :=
  ∀ c : Cx, c.OK X D n → ∀ (ρ : List Addr) (ex : List (Addr × Obj)) (σ : AS) (a : AV) (a' : Value) (pl : Sem Bool) (s : Shared) (Q : Value × List Value → Shared → Prop) (E : Value → Shared → Prop),
    Rel X c D ρ ex σ s.heap → VRep ρ a a' → sel a σ = true → Q (.builtin id, [a']) s → wpAny (model X.prog X.w) c.A (getMethod a' name pl) Q E s
noncomputable def methA (fo : AS → Option (AV × AS)) (sel : AV → AS → Bool) (fa : AS → Option (List AV × AS)) (g : List AV → AS → Option (AV × AS)) (σ : AS) : Option (AV × AS) := match fo σ with
  | some (a, σ₁) => if sel a σ₁ = true then
      match fa σ₁ with
      | some (as, σ₂) => g (a :: as) σ₂
      | none => none
    else none
  | none => none
theorem ev_meth {o : Expr} {name : Str} {apos pos : Pos} {es : List Expr} {id : String} {pl : Env → Sem Bool} {fo : AS → Option (AV × AS)} {sel : AV → AS → Bool} {fa : AS → Option (List AV × AS)} {g : List AV → AS → Option (AV × AS)}
    (ho : EVJ X n D o fo) (hm : GetJ X n D name id sel) (ha : ARJ X n D es fa) (hg : CallJ X n D (.builtin id) g) (hp : ∀ env, Plainly pos es env)
    (he : ∀ env, eval (.Call (.Attribute o name apos) es [] pos) env = (do
        let ov ← eval o env
        standAt apos.atName
        let (f, first) ← holding [ov] (getMethod ov name (pl env))
        callWith pos f first (backTo pos (starEach es env)) [])) : EVJ X n D (.Call (.Attribute o name apos) es [] pos) (methA fo sel fa g) := by
  intro c ok ρ ex σ v σ' s Q E hR hf k
  delta methA at hf
  split at hf
  · rename_i a σ₁ h1
    split at hf
    · rename_i hsel
      split at hf
      · rename_i as σ₂ h2
        refine MethodCall_ (ho c ok ρ ex σ a σ₁ s _ E hR h1 fun a' s₁ ρ₁ p₁ v₁ R₁ S₁ => ?_) (he _)
        refine hm c ok ρ₁ ex σ₁ a a' _ s₁ _ E R₁ v₁ hsel ?_
        refine callWith_any ok (.inl ⟨id, rfl⟩) (hp _) (ha c ok pos ρ₁ ex σ₁ as σ₂ s₁ _ E R₁ h2 fun vs s₂ ρ₂ p₂ v₂ R₂ S₂ => ⟨R₂.keep, ?_⟩)
        exact hg c ok ρ₂ ex σ₂ (a :: as) (a' :: vs) v σ' s₂ Q E R₂ ⟨v₁.mono p₂, v₂⟩ hf fun v' s₃ ρ₃ p₃ v₃ R₃ S₃ => k v' s₃ ρ₃ (p₁.trans (p₂.trans p₃)) v₃ R₃ (S₁.trans (S₂.trans S₃))
      · cases hf
    · cases hf
  · cases hf
noncomputable def isStrV : AV → AS → Bool
  | .str _, _ => true
  | _, _ => false
noncomputable def isListV : AV → AS → Bool
  | .ref i, σ => match σ.objs[i]? with
    | some (.flat _) => true
    | some (.refs _) => true
    | _ => false
  | _, _ => false
theorem getj_str {name : Str} {id : String} (slot : Slot "str" name id) (hty : typeOf (.builtin id) = pure (.type "method_descriptor")) : GetJ X n D name id isStrV := by
  intro c ok ρ ex σ a a' pl s Q E hR ha hs h
  cases a <;> simp only [isStrV] at hs <;> try cases hs
  obtain ⟨t, rfl⟩ := ha
  exact getMethod_builtin (typeIs_str _ _ _) F.plainAttrs_str slot hty (fun a e => by cases e) h
theorem getj_list {name : Str} {id : String} (slot : Slot "list" name id) (hty : typeOf (.builtin id) = pure (.type "method_descriptor")) (pa : PlainAttrs "list") : GetJ X n D name id isListV := by
  intro c ok ρ ex σ a a' pl s Q E hR ha hs h
  cases a <;> simp only [isListV] at hs <;> try cases hs
  rename_i i
  obtain ⟨b, e1, rfl⟩ := ha
  have key : ∃ vs k, s.heap.get? b = some (listOf vs k) := by
    cases ho : σ.objs[i]? with
    | none => rw [ho] at hs; cases hs
    | some ao =>
      obtain ⟨b', o, h1, h2, h3⟩ := hR.obj ho
      rw [e1] at h1; cases h1
      rw [ho] at hs
      cases ao with
      | flat xs => obtain ⟨vs, k, rfl, _⟩ := h3; exact ⟨_, _, h2⟩
      | refs xs => obtain ⟨vs, k, rfl, _⟩ := h3; exact ⟨_, _, h2⟩
      | dict _ => cases hs
      | cell _ => cases hs
  obtain ⟨vs, k, hb⟩ := key
  exact getMethod_builtin ⟨_, hb, rfl⟩ pa slot hty (fun a e => by cases e; exact ⟨_, hb, rfl⟩) h
end Mine
-- part M6
namespace Mine
theorem a2_0 {α β : Type} {R : α → β → Prop} {vs : List β} (h : All2 R [] vs) : vs = [] := by
  cases vs with
  | nil => rfl
  | cons x r => exact h.elim
theorem a2_c {α β : Type} {R : α → β → Prop} {a : α} {l : List α} {vs : List β} (h : All2 R (a :: l) vs) : ∃ x r, vs = x :: r ∧ R a x ∧ All2 R l r := by
  cases vs with
  | nil => exact h.elim
  | cons x r => exact ⟨x, r, rfl, h.1, h.2⟩
theorem a2_1 {α β : Type} {R : α → β → Prop} {a : α} {vs : List β} (h : All2 R [a] vs) : ∃ x, vs = [x] ∧ R a x := by
  obtain ⟨x, r, rfl, h1, h2⟩ := a2_c h
  exact ⟨x, by rw [a2_0 h2], h1⟩
theorem a2_2 {α β : Type} {R : α → β → Prop} {a b : α} {vs : List β} (h : All2 R [a, b] vs) : ∃ x y, vs = [x, y] ∧ R a x ∧ R b y := by
  obtain ⟨x, r, rfl, h1, h2⟩ := a2_c h
  obtain ⟨y, rfl, h3⟩ := a2_1 h2
  exact ⟨x, y, rfl, h1, h3⟩
theorem a2_3 {α β : Type} {R : α → β → Prop} {a b c : α} {vs : List β} (h : All2 R [a, b, c] vs) : ∃ x y z, vs = [x, y, z] ∧ R a x ∧ R b y ∧ R c z := by
  obtain ⟨x, r, rfl, h1, h2⟩ := a2_c h
  obtain ⟨y, z, rfl, h3⟩ := a2_2 h2
  exact ⟨x, y, z, rfl, h1, h3⟩
theorem a2_4 {α β : Type} {R : α → β → Prop} {a b c d : α} {vs : List β} (h : All2 R [a, b, c, d] vs) : ∃ x y z w, vs = [x, y, z, w] ∧ R a x ∧ R b y ∧ R c z ∧ R d w := by
  obtain ⟨x, r, rfl, h1, h2⟩ := a2_c h
  obtain ⟨y, z, w, rfl, h3⟩ := a2_3 h2
  exact ⟨x, y, z, w, rfl, h1, h3⟩
theorem len1 {α : Type} {l : List α} (h : l.length = 1) : ∃ a, l = [a] := List.length_eq_one_iff.mp h
theorem len2 {α : Type} {l : List α} (h : l.length = 2) : ∃ a b, l = [a, b] := by
  cases l with
  | nil => cases h
  | cons a r =>
    obtain ⟨b, rfl⟩ := len1 (Nat.succ.inj h)
    exact ⟨a, b, rfl⟩
variable {X : Wd} {n : Nat} {D : FD}

theorem Rel.listAt {c : Cx} {ρ : List Addr} {ex : List (Addr × Obj)} {σ : AS} {h : Heap} (r : Rel X c D ρ ex σ h) {i : Nat} {xs : List AV} {a : Addr} (hi : getFlat σ i = some xs) (ha : ρ[i]? = some a) :
    ∃ vs k, h.get? a = some (listOf vs.toArray k) ∧ All2 (VRep []) xs vs := by
  obtain ⟨b, vs, k, h1, h2, q⟩ := r.flat hi
  rw [ha] at h1; cases h1; exact ⟨vs, k, h2, q⟩
noncomputable def strsOf : List AV → Option (List Str)
  | [] => some []
  | .str i :: r => (strsOf r).map (i :: ·)
  | _ :: _ => none
theorem strsOf_vals : ∀ {xs : List AV} {ss : List Str} {vs : List Value}, strsOf xs = some ss → All2 (VRep []) xs vs → ∃ l : List (Str × Tok), vs = strValues l ∧ l.map (·.1) = ss
  | [], _, [], h, _ => by cases h; exact ⟨[], rfl, rfl⟩
  | .str i :: r, ns, v :: vs, h, ⟨⟨t, e⟩, q⟩ => by
    obtain ⟨ms, h1, rfl⟩ := Option.map_eq_some_iff.mp h
    subst e
    obtain ⟨l, rfl, rfl⟩ := strsOf_vals h1 q
    exact ⟨(i, t) :: l, rfl, rfl⟩
  | .none :: _, _, _, h, _ => by cases h
  | .bool _ :: _, _, _, h, _ => by cases h
  | .int _ :: _, _, _, h, _ => by cases h
  | .ref _ :: _, _, _, h, _ => by cases h
  | .adr _ :: _, _, _, h, _ => by cases h
  | [], _, _ :: _, _, q => q.elim
  | .str _ :: _, _, [], _, q => q.elim
theorem strValues_rep : ∀ (l : List (Str × Tok)), All2 (VRep []) (l.map fun x => AV.str x.1) (strValues l)
  | [] => trivial
  | (x, t) :: r => ⟨⟨t, rfl⟩, strValues_rep r⟩

noncomputable def lenG (as : List AV) (σ : AS) : Option (AV × AS) := match as with
  | [.str x] => if x.length ≤ 100000 then some (.int x.length, σ) else none
  | [.ref i] => match getFlat σ i with
    | some xs => if xs.length ≤ 100000 then some (.int xs.length, σ) else none
    | none => none
  | _ => none
theorem call_len : CallJ X n D (.builtin "len") lenG := by
  intro c ok ρ ex σ as vs v σ' s Q E hR ha hg k
  delta lenG at hg
  split at hg
  · rename_i x
    split at hg
    · rename_i hl
      cases hg
      obtain ⟨_, rfl, ⟨t, e⟩⟩ := a2_1 ha
      subst e
      exact SBL.len (by omega) (k _ _ ρ (List.prefix_refl _) ⟨_, rfl⟩ hR (.of rfl rfl))
    · cases hg
  · rename_i i
    split at hg
    · rename_i xs hx
      split at hg
      · rename_i hl
        cases hg
        obtain ⟨_, rfl, ⟨a, e1, e⟩⟩ := a2_1 ha
        subst e
        obtain ⟨ws, z, h1, h2⟩ := hR.listAt hx e1
        have hlen := h2.length
        refine Calls.call_len_list (isList_of h1) (by rw [List.size_toArray]; omega) (k _ _ ρ (List.prefix_refl _) ?_ hR (.of rfl rfl))
        rw [List.size_toArray, ← hlen]; exact ⟨_, rfl⟩
      · cases hg
    · cases hg
  · cases hg

noncomputable def hexG (as : List AV) (σ : AS) : Option (AV × AS) := match as with
  | [.int i] => if (baseText "0x" 16 i).length ≤ 100000 then some (.str (baseText "0x" 16 i), σ) else none
  | _ => none
theorem big_line {a : Nat} (h : a ≤ 100000) : a ≤ sizeLine := by rw [sizeLine_eq]; omega
theorem call_hex : CallJ X n D (.builtin "hex") hexG := by
  intro c ok ρ ex σ as vs v σ' s Q E hR ha hg k
  delta hexG at hg
  split at hg
  · rename_i i
    split at hg
    · rename_i hl
      cases hg
      obtain ⟨_, rfl, ⟨t, e⟩⟩ := a2_1 ha
      subst e
      exact P.hex_of_int (k _ _ ρ (List.prefix_refl _) ⟨_, rfl⟩ hR (.of rfl rfl)) (big_line hl)
    · cases hg
  · cases hg

noncomputable def chrG (as : List AV) (σ : AS) : Option (AV × AS) := match as with
  | [.int i] => if (decide (i < 0) || decide (i > 0x10FFFF)) = false then some (.str ⟨#[i.toNat]⟩, σ) else none
  | _ => none
theorem call_chr : CallJ X n D (.builtin "chr") chrG := by
  intro c ok ρ ex σ as vs v σ' s Q E hR ha hg k
  delta chrG at hg
  split at hg
  · rename_i i
    split at hg
    · rename_i hl
      cases hg
      obtain ⟨_, rfl, ⟨t, e⟩⟩ := a2_1 ha
      subst e
      exact P.chr_of_int hl (k _ _ ρ (List.prefix_refl _) ⟨_, rfl⟩ hR (.of rfl rfl))
    · cases hg
  · cases hg

noncomputable def min2G (as : List AV) (σ : AS) : Option (AV × AS) := match as with
  | [.int a, .int b] => some (.int (if b < a then b else a), σ)
  | _ => none
theorem call_min2 : CallJ X n D (.builtin "min") min2G := by
  intro c ok ρ ex σ as vs v σ' s Q E hR ha hg k
  delta min2G at hg
  split at hg
  · cases hg
    obtain ⟨_, _, rfl, ⟨t, e⟩, ⟨u, e'⟩⟩ := a2_2 ha
    subst e; subst e'
    obtain ⟨m, news, F, N, q, _⟩ := hR.news
    exact min_two_N ok.handled F N fun h' tk F' N' => k _ _ ρ (List.prefix_refl _) ⟨_, rfl⟩ (q h' F' N') (.of rfl rfl)
  · cases hg

noncomputable def sumG (as : List AV) (σ : AS) : Option (AV × AS) := match as with
  | [.ref i] => match getInts σ i with
    | some ns => some (.int ns.sum, σ)
    | none => none
  | _ => none
theorem call_sum : CallJ X n D (.builtin "sum") sumG := by
  intro c ok ρ ex σ as vs v σ' s Q E hR ha hg k
  delta sumG at hg
  split at hg
  · rename_i i
    split at hg
    · rename_i ns hn
      cases hg
      obtain ⟨_, rfl, ⟨a, e1, e⟩⟩ := a2_1 ha
      subst e
      obtain ⟨b, ws, z, h1, h2, h3⟩ := hR.ints hn
      rw [e1] at h1; cases h1
      obtain ⟨m, news, F, N, q, _⟩ := hR.news
      exact sumK ok.handled F N (isList_of h2) h3 fun h' tk t F' N' => k _ _ ρ (List.prefix_refl _) ⟨_, rfl⟩ (q h' F' N') (.of rfl rfl)
    · cases hg
  · cases hg

noncomputable def minL : List Int → Int
  | [] => 0
  | x :: r => r.foldl (fun a b => if b < a then b else a) x
theorem minL_fold : ∀ (r : List Int) (x : Int), (r.foldl (fun a b => if b < a then b else a) x ∈ x :: r) ∧ ∀ a ∈ x :: r, r.foldl (fun a b => if b < a then b else a) x ≤ a
  | [], x => by simp
  | y :: r, x => by
    rw [List.foldl_cons]
    have hz : (if y < x then y else x) ≤ x ∧ (if y < x then y else x) ≤ y ∧ ((if y < x then y else x) = x ∨ (if y < x then y else x) = y) := by
      split <;> omega
    generalize (if y < x then y else x) = z at hz
    obtain ⟨h1, h2⟩ := minL_fold r z
    have h3 := h2 _ (.head _)
    refine ⟨?_, fun a ha => ?_⟩
    · rcases List.mem_cons.mp h1 with e | e
      · rw [e]; rcases hz.2.2 with e | e <;> rw [e] <;> simp
      · exact .tail _ (.tail _ e)
    · rcases List.mem_cons.mp ha with rfl | ha
      · omega
      · rcases List.mem_cons.mp ha with rfl | ha
        · omega
        · exact h2 a (.tail _ ha)
theorem minL_is {ns : List Int} {M : Int} (hm : M ∈ ns) (hl : ∀ a, a ∈ ns → M ≤ a) : M = minL ns := by
  cases ns with
  | nil => cases hm
  | cons x r =>
    obtain ⟨h1, h2⟩ := minL_fold r x
    exact Int.le_antisymm (hl _ h1) (h2 _ hm)
noncomputable def minG (as : List AV) (σ : AS) : Option (AV × AS) := match as with
  | [.ref i] => match getInts σ i with
    | some ns => if 0 < ns.length then some (.int (minL ns), σ) else none
    | none => none
  | _ => none
theorem call_min : CallJ X n D (.builtin "min") minG := by
  intro c ok ρ ex σ as vs v σ' s Q E hR ha hg k
  delta minG at hg
  split at hg
  · rename_i i
    split at hg
    · rename_i ns hn
      split at hg
      · rename_i hne
        cases hg
        obtain ⟨_, rfl, ⟨a, e1, e⟩⟩ := a2_1 ha
        subst e
        obtain ⟨b, ws, z, h1, h2, h3⟩ := hR.ints hn
        rw [e1] at h1; cases h1
        obtain ⟨m, news, F, N, q, _⟩ := hR.news
        exact kso_min F N (isList_of h2) h3 hne ok.handled fun h' M t tk F' N' hm hl => k _ _ ρ (List.prefix_refl _) (by rw [minL_is hm hl]; exact ⟨_, rfl⟩) (q h' F' N') (.of rfl rfl)
      · cases hg
    · cases hg
  · cases hg

noncomputable def joinG (as : List AV) (σ : AS) : Option (AV × AS) := match as with
  | [.str x, .ref i] => match (getFlat σ i).bind strsOf with
    | some ss => if JoinOk x ss = true then some (.str (Txt.join x ss), σ) else none
    | none => none
  | _ => none
theorem call_join : CallJ X n D (.builtin "str.join") joinG := by
  intro c ok ρ ex σ as vs v σ' s Q E hR ha hg k
  delta joinG at hg
  split at hg
  · rename_i x i
    split at hg
    · rename_i ss hs
      split at hg
      · rename_i hok
        cases hg
        obtain ⟨_, _, rfl, ⟨t, e⟩, ⟨a, e1, e'⟩⟩ := a2_2 ha
        subst e; subst e'
        obtain ⟨xs, hx, hy⟩ := Option.bind_eq_some_iff.mp hs
        obtain ⟨ws, z, h1, h2⟩ := hR.listAt hx e1
        obtain ⟨l, rfl, rfl⟩ := strsOf_vals hy h2
        exact SC.join (isList_of h1) rfl hok fun t' tk => k _ _ ρ (List.prefix_refl _) ⟨_, rfl⟩ hR (.of rfl rfl)
      · cases hg
    · cases hg
  · cases hg

noncomputable def splitG (as : List AV) (σ : AS) : Option (AV × AS) := match as with
  | [.str x, .str y] => if (y.length == 0) = false ∧ x.length ≤ 100000 then some (.ref σ.objs.length, { σ with objs := σ.objs ++ [.flat ((Txt.split x y).map .str)] }) else none
  | _ => none
theorem Rel.len {c : Cx} {ρ : List Addr} {ex : List (Addr × Obj)} {σ : AS} {h : Heap} (r : Rel X c D ρ ex σ h) : ρ.length = σ.objs.length := by
  obtain ⟨cv, hc, _⟩ := r.core
  obtain ⟨_, os, _, _, O, hl, _⟩ := hc.all
  rw [hl, O.length]
theorem get_last {α : Type} (l : List α) (x : α) : (l ++ [x])[l.length]? = some x := by simp
theorem call_split : CallJ X n D (.builtin "str.split") splitG := by
  intro c ok ρ ex σ as vs v σ' s Q E hR ha hg k
  delta splitG at hg
  split at hg
  · rename_i x y
    split at hg
    · rename_i hc
      cases hg
      obtain ⟨_, _, rfl, ⟨t, e⟩, ⟨u, e'⟩⟩ := a2_2 ha
      subst e; subst e'
      obtain ⟨m, news, F, N, _, q⟩ := hR.news
      refine splitN1 F N hc.1 (fun l h' tk e F' N' => ?_) (by rw [sizeLine_eq]; omega)
      refine k _ _ (ρ ++ [s.heap.objs.size]) (List.prefix_append ..) ⟨_, by rw [← hR.len]; exact get_last _ _, rfl⟩ (q h' _ _ _ (Nat.le_refl _) F' N' ?_) (.of rfl rfl)
      refine ⟨strValues l, 0, rfl, ?_⟩
      rw [← e, List.map_map]
      exact strValues_rep l
    · cases hg
  · cases hg

noncomputable def findG (as : List AV) (σ : AS) : Option (AV × AS) := match as with
  | [.str x, .str y, .int i, .int j] => if 0 ≤ i ∧ 0 ≤ j ∧ j ≤ x.length then some (.int (match Builtin.Str.occurrences x y i.toNat j.toNat 1 with | k :: _ => (k : Int) | [] => -1), σ) else none
  | _ => none
open Builtin Builtin.Str in
theorem gives_find4 (x y : Str) (i j : Int) (t u v w : Tok) (hi : 0 ≤ i) (hj : 0 ≤ j) (hl : j ≤ x.length) : Gives («str.find» ⟨[.str x t, .str y u, .int i v, .int j w], []⟩)
    (.int (match occurrences x y i.toNat j.toNat 1 with | k :: _ => (k : Int) | [] => -1)) := by
  have e1 : fromIndex x.length i = i.toNat := by unfold fromIndex; rw [if_neg (by omega)]; congr 1; omega
  have e2 : min (fromIndex x.length j) x.length = j.toNat := by
    have e3 : fromIndex x.length j = j.toNat := by unfold fromIndex; rw [if_neg (by omega)]; congr 1; omega
    rw [e3]; exact Nat.min_eq_left (Int.toNat_le.mpr hl)
  rw [← e1, ← e2]
  show Gives (match occurrences x y (fromIndex x.length i) (min (fromIndex x.length j) x.length) 1 with | k :: _ => retInt k | [] => (do rule "str.find.not-found"; retInt (-1))) _
  cases occurrences x y (fromIndex x.length i) (min (fromIndex x.length j) x.length) 1 with
  | nil => exact .rule (.of_eq rfl)
  | cons k _ => exact .of_eq rfl
theorem call_find : CallJ X n D (.builtin "str.find") findG := by
  intro c ok ρ ex σ as vs v σ' s Q E hR ha hg k
  delta findG at hg
  split at hg
  · rename_i x y i j
    split at hg
    · rename_i hc
      cases hg
      obtain ⟨_, _, _, _, rfl, ⟨t, e⟩, ⟨u, e'⟩, ⟨t3, e3⟩, ⟨t4, e4⟩⟩ := a2_4 ha
      subst e; subst e'; subst e3; subst e4
      exact call_gives F.slot_str_find (typeIs_str _ _ _) F.entry_str_find (F.args_str_find_4 _ _ _ _) (gives_find4 x y i j t u t3 t4 hc.1 hc.2.1 hc.2.2) (k _ _ ρ (List.prefix_refl _) ⟨_, rfl⟩ hR (.of rfl rfl))
    · cases hg
  · cases hg
end Mine
-- part M7
namespace Mine
variable {X : Wd} {n : Nat} {D : FD}

noncomputable def plainV : AV → Bool
  | .ref _ => false
  | _ => true
theorem VRep.plain {ρ : List Addr} {a : AV} {v : Value} (h : VRep ρ a v) (hp : plainV a = true) : VRep [] a v := by
  cases a with
  | ref i => cases hp
  | none => exact h
  | bool _ => exact h
  | int _ => exact h
  | str _ => exact h
  | adr _ => exact h
theorem plain_all {ρ : List Addr} : ∀ {as : List AV} {vs : List Value}, All2 (VRep ρ) as vs → as.all plainV = true → All2 (VRep []) as vs
  | [], [], _, _ => trivial
  | a :: as, v :: vs, h, hp => by
    rw [List.all_cons, Bool.and_eq_true] at hp
    exact ⟨h.1.plain hp.1, plain_all h.2 hp.2⟩
  | [], _ :: _, h, _ => h.elim
  | _ :: _, [], h, _ => h.elim

theorem Rel.len' {c : Cx} {ρ : List Addr} {ex : List (Addr × Obj)} {σ : AS} {h : Heap} (r : Rel X c D ρ ex σ h) (a : Addr) : (ρ ++ [a])[σ.objs.length]? = some a := by rw [← r.len]; exact get_last _ _

noncomputable def appendG (as : List AV) (σ : AS) : Option (AV × AS) := match as with
  | [.ref i, x] => match σ.objs[i]? with
    | some (.flat xs) => if plainV x = true ∧ xs.length ≤ 100000 then some (.none, { σ with objs := σ.objs.set i (.flat (xs ++ [x])) }) else none
    | _ => none
  | _ => none
theorem call_append : CallJ X n D (.builtin "list.append") appendG := by
  intro c ok ρ ex σ as vs v σ' s Q E hR ha hg k
  delta appendG at hg
  split at hg
  · rename_i i x
    split at hg
    · rename_i xs hx
      split at hg
      · rename_i hc
        cases hg
        obtain ⟨_, y, rfl, ⟨a, e1, e⟩, hv⟩ := a2_2 ha
        subst e
        obtain ⟨b, o, h1, h2, ws, z, rfl, h3⟩ := hR.obj hx
        rw [e1] at h1; cases h1
        have hlen := h3.length
        refine append_at h2 (fun h' hs ho => ?_) (by rw [List.size_toArray]; exact big_line (by omega))
        refine k _ _ ρ (List.prefix_refl _) rfl (hR.update e1 hs ho ⟨ws ++ [y], z + 1, by simp, h3.append ⟨hv.plain hc.1, trivial⟩⟩) (.of rfl rfl)
      · cases hg
    · cases hg
  · cases hg

noncomputable def popG (as : List AV) (σ : AS) : Option (AV × AS) := match as with
  | [.ref i] => match σ.objs[i]? with
    | some (.flat xs) => match xs[xs.length - 1]? with
      | some x => if xs.length ≤ 100000 then some (x, { σ with objs := σ.objs.set i (.flat (xs.eraseIdx (xs.length - 1))) }) else none
      | none => none
    | _ => none
  | _ => none
theorem call_pop : CallJ X n D (.builtin "list.pop") popG := by
  intro c ok ρ ex σ as vs v σ' s Q E hR ha hg k
  delta popG at hg
  split at hg
  · rename_i i
    split at hg
    · rename_i xs hx
      split at hg
      · rename_i x hxx
        split at hg
        · rename_i hc
          cases hg
          obtain ⟨_, rfl, ⟨a, e1, e⟩⟩ := a2_1 ha
          subst e
          obtain ⟨b, o, h1, h2, ws, z, rfl, h3⟩ := hR.obj hx
          rw [e1] at h1; cases h1
          have hlen := h3.length
          obtain ⟨y, hy, hr⟩ := h3.get hxx
          rw [hlen] at hy
          refine call_meets F.slot_list_pop ⟨_, h2, rfl⟩ F.entry_list_pop (F.args_list_pop_1 _) (MeetsSeq.list_pop_last a ws.toArray z y (by simpa using hy) (by rw [List.size_toArray]; exact big_line (by omega))) ⟨h2, ?_⟩
          have hu := IsL.update h2 (fun xs => xs.eraseIdxIfInBounds (ws.toArray.size - 1))
          refine k _ _ ρ (List.prefix_refl _) hr.of_nil (hR.update e1 (Heap.SameBut.update ..) hu ⟨ws.eraseIdx (ws.length - 1), (if ((ws.toArray.eraseIdxIfInBounds (ws.toArray.size - 1)).size == ws.toArray.size) = true then z else z + 1), ?_, ?_⟩) (.of rfl rfl)
          · have e : ws.toArray.eraseIdxIfInBounds (ws.toArray.size - 1) = (ws.eraseIdx (ws.length - 1)).toArray := by
              apply Array.ext'
              simp [Array.eraseIdxIfInBounds]
              split
              · simp
              · rename_i h
                cases ws with
                | nil => rfl
                | cons _ _ => exact absurd (by simp) h
            rw [e]
          · rw [hlen]; exact h3.eraseIdx _
        · cases hg
      · cases hg
    · cases hg
  · cases hg

noncomputable def tabG (ad : Addr) (tab : List (Int × AV)) (as : List AV) (σ : AS) : Option (AV × AS) := match as with
  | [.adr a, .int i, d] => if a = ad then some ((lookD tab i).getD d, σ) else none
  | _ => none
noncomputable def isAdrV (ad : Addr) : AV → AS → Bool
  | .adr a, _ => a == ad
  | _, _ => false
noncomputable def TabTop (X : Wd) (ad : Addr) (tab : List (Int × AV)) : Prop := ∃ o kvs, X.K.lookup ad = some o ∧ o.IsDictOf (intKind X.prog X.w) kvs ∧ All2 (fun kv p => p.1 = kv.1 ∧ VRep [] kv.2 p.2) tab kvs ∧ (ad == sysModules) = false
theorem getj_tab {ad : Addr} {tab : List (Int × AV)} (ht : TabTop X ad tab) : GetJ X n D "get" "dict.get" (isAdrV ad) := by
  intro c ok ρ ex σ a a' pl s Q E hR ha hs h
  cases a <;> simp only [isAdrV] at hs <;> try cases hs
  rename_i b
  cases ha
  have e : b = ad := by simpa using hs
  subst e
  obtain ⟨o, kvs, h1, h2, _⟩ := ht
  have hd : s.heap.DictOf (intKind X.prog X.w) b kvs := Heap.dictOf_iff.mpr ⟨o, hR.keep _ _ (ok.kin _ _ h1), h2⟩
  exact getMethod_builtin hd.typeIs F.plainAttrs_dict F.slot_dict_get F.type_dict_get (fun a e => by cases e; exact hd.mapOf.noDict _ rfl) h
theorem call_tab {ad : Addr} {tab : List (Int × AV)} (ht : TabTop X ad tab) : CallJ X n D (.builtin "dict.get") (tabG ad tab) := by
  intro c ok ρ ex σ as vs v σ' s Q E hR ha hg k
  delta tabG at hg
  split at hg
  · rename_i a i d
    split at hg
    · rename_i e
      subst e
      cases hg
      obtain ⟨_, _, y, rfl, e1, ⟨t, e2⟩, hv⟩ := a2_3 ha
      cases e1; subst e2
      obtain ⟨o, kvs, h1, h2, h3, h4⟩ := ht
      have hd : s.heap.DictOf (intKind X.prog X.w) a kvs := Heap.dictOf_iff.mpr ⟨o, hR.keep _ _ (ok.kin _ _ h1), h2⟩
      have hl := valueAt_look i h3
      refine call_meetsIn F.slot_dict_get hd.typeIs F.entry_dict_get (F.args_dict_get_3 _ _ _) (meets_dict_get_default (intKind X.prog X.w) a (intKind_is _ _ i t) h4 y) ⟨_, hd.mapOf, ?_⟩
      refine k _ _ ρ (List.prefix_refl _) ?_ hR (.of rfl rfl)
      cases hq : lookD tab i with
      | none => rw [hq] at hl; rw [hl]; exact hv
      | some b => rw [hq] at hl; obtain ⟨u, hu, hr⟩ := hl; rw [hu]; exact hr.of_nil
    · cases hg
  · cases hg

noncomputable def refsOf : List AV → Option (List Nat)
  | [] => some []
  | .ref i :: r => (refsOf r).map (i :: ·)
  | _ :: _ => none
theorem refsOf_rep {ρ : List Addr} : ∀ {as : List AV} {is : List Nat} {vs : List Value}, refsOf as = some is → All2 (VRep ρ) as vs → All2 (fun i v => VRep ρ (.ref i) v) is vs
  | [], _, [], h, _ => by cases h; trivial
  | .ref i :: r, _, v :: vs, h, q => by
    obtain ⟨ms, h1, rfl⟩ := Option.map_eq_some_iff.mp h
    exact ⟨q.1, refsOf_rep h1 q.2⟩
  | .none :: _, _, _, h, _ => by cases h
  | .bool _ :: _, _, _, h, _ => by cases h
  | .int _ :: _, _, _, h, _ => by cases h
  | .str _ :: _, _, _, h, _ => by cases h
  | .adr _ :: _, _, _, h, _ => by cases h
  | [], _, _ :: _, _, q => q.elim
  | .ref _ :: _, _, [], _, q => q.elim
noncomputable def newO (o : AO) (σ : AS) : Option (AV × AS) := some (.ref σ.objs.length, { σ with objs := σ.objs ++ [o] })
noncomputable def listA (fa : AS → Option (List AV × AS)) (σ : AS) : Option (AV × AS) := match fa σ with
  | some (as, σ₁) => if as.length ≤ 100000 then
      if as.all plainV = true then newO (.flat as) σ₁
      else match refsOf as with
        | some is => newO (.refs is) σ₁
        | none => none
    else none
  | none => none
theorem ev_list {es : List Expr} {pos : Pos} {fa : AS → Option (List AV × AS)} (ha : ARJ X n D es fa) : EVJ X n D (.List es pos) (listA fa) := by
  intro c ok ρ ex σ v σ' s Q E hR hf k
  delta listA at hf
  split at hf
  · rename_i as σ₁ h1
    split at hf
    · rename_i hle
      refine List_ (ha c ok pos ρ ex σ as σ₁ s _ E hR h1 fun vs s₁ ρ₁ p₁ v₁ R₁ S₁ => ?_)
      have hlen := v₁.length
      obtain ⟨m, news, F, N, _, q⟩ := R₁.news
      refine newList_N F N (fun h' F' N' => ?_) (big_line (by omega))
      have key : ∀ ao, ORep X ρ₁ ao (listOf vs.toArray 0) → newO ao σ₁ = some (v, σ') → Q (.ref s₁.heap.objs.size) { s₁ with heap := h' } := by
        intro ao hao hn
        cases hn
        exact k _ _ (ρ₁ ++ [s₁.heap.objs.size]) (p₁.trans (List.prefix_append ..)) ⟨_, R₁.len' _, rfl⟩ (q h' _ _ _ (Nat.le_refl _) F' N' hao) (S₁.trans (.of rfl rfl))
      split at hf
      · rename_i hp
        exact key (.flat as) ⟨vs, 0, rfl, plain_all v₁ hp⟩ hf
      · split at hf
        · rename_i is hi
          exact key (.refs is) ⟨vs, 0, rfl, refsOf_rep hi v₁⟩ hf
        · cases hf
    · cases hf
  · cases hf
end Mine
-- part M8
namespace Mine
variable {X : Wd} {n : Nat} {D : FD}

noncomputable def repL (k : Nat) (xs : List AV) : List AV := (List.replicate k xs).flatten
noncomputable def abin (op : Operator) (a b : AV) (σ : AS) : Option (AV × AS) := match op, a, b with
  | .Add, .ref i, .ref j => match getFlat σ i with
    | some xs => match getFlat σ j with
      | some ys => if xs.length + ys.length ≤ 100000 then newO (.flat (xs ++ ys)) σ else none
      | none => none
    | none => none
  | .Mult, .ref i, .int k => match getFlat σ i with
    | some xs => if 0 ≤ k ∧ k ≤ 1000 ∧ xs.length ≤ 1000 ∧ 0 < xs.length then newO (.flat (repL k.toNat xs)) σ else none
    | none => none
  | op, a, b => (pbin op a b).map fun v => (v, σ)

theorem rep_arr (vs : List Value) : ∀ (k : Nat) (acc : Array Value), List.foldl (fun x1 x2 => x1 ++ x2) acc (List.replicate k vs.toArray) = acc ++ ((List.replicate k vs).flatten).toArray
  | 0, acc => by simp
  | k + 1, acc => by
    rw [List.replicate_succ, List.foldl_cons, rep_arr vs k, List.replicate_succ, List.flatten_cons]
    simp [Array.append_assoc]
theorem rep_all {xs : List AV} {vs : List Value} (h : All2 (VRep []) xs vs) : ∀ k : Nat, All2 (VRep []) (repL k xs) ((List.replicate k vs).flatten)
  | 0 => trivial
  | k + 1 => by
    delta repL
    rw [List.replicate_succ, List.replicate_succ, List.flatten_cons, List.flatten_cons]
    exact h.append (rep_all h k)

theorem abin_ok (op : Operator) : Op2 X n D (binaryOp op) (abin op) := by
  intro c ok ρ ex σ a b a' b' v σ' s Q E hR ha hb hg k
  have dflt : ∀ (a b : AV) (a' b' : Value), VRep ρ a a' → VRep ρ b b' → (pbin op a b).map (fun v => (v, σ)) = some (v, σ') → wpAny (model X.prog X.w) c.A (binaryOp op a' b') Q E s :=
    fun a b a' b' ha hb hg => (pbin_ok op).op c ok ρ ex σ a b a' b' v σ' s Q E hR ha hb hg k
  have made : ∀ (ao : AO) (vs : List Value), newO ao σ = some (v, σ') → (∀ z, ORep X ρ ao (listOf vs.toArray z)) → ∀ m news, Fr c.h₀ c.L s.heap m → News c.h₀ c.L s.heap news →
      (∀ h' a o ao, s.heap.objs.size ≤ a → Fr c.h₀ c.L h' m → News c.h₀ c.L h' ((a, o) :: news) → ORep X ρ ao o → Rel X c D (ρ ++ [a]) ex { σ with objs := σ.objs ++ [ao] } h') →
      ∀ h', Fr c.h₀ c.L h' m → News c.h₀ c.L h' ((s.heap.objs.size, { cls := .type "list", data := .seq vs.toArray }) :: news) → Q (.ref s.heap.objs.size) { s with heap := h' } := by
    intro ao vs hn hao m news F N q h' F' N'
    cases hn
    exact k _ _ (ρ ++ [s.heap.objs.size]) (List.prefix_append ..) ⟨_, hR.len' _, rfl⟩ (q h' _ _ _ (Nat.le_refl _) F' N' (hao 0)) (.of rfl rfl)
  refine cps fun PG hP => ?_
  delta abin at hg
  split at hg
  · rename_i i j
    split at hg
    · rename_i xs hx
      split at hg
      · rename_i ys hy
        split at hg
        · rename_i hle
          obtain ⟨p, h1, rfl⟩ := ha; obtain ⟨q, h2, rfl⟩ := hb
          obtain ⟨vs, z, e1, e2⟩ := hR.listAt hx h1
          obtain ⟨ws, z', e1', e2'⟩ := hR.listAt hy h2
          have l1 := e2.length; have l2 := e2'.length
          obtain ⟨m, news, F, N, _, qq⟩ := hR.news
          exact hP (add_lists F N (isList_of e1) (isList_of e1') (made _ (vs ++ ws) hg (fun z => ⟨_, z, rfl, e2.append e2'⟩) m news F N qq) (by rw [sizeLine_eq]; omega))
        · cases hg
      · cases hg
    · cases hg
  · rename_i i q
    split at hg
    · rename_i xs hx
      split at hg
      · rename_i hc
        obtain ⟨p, h1, rfl⟩ := ha; obtain ⟨t, rfl⟩ := hb
        obtain ⟨vs, z, e1, e2⟩ := hR.listAt hx h1
        have l1 := e2.length
        obtain ⟨m, news, F, N, _, qq⟩ := hR.news
        have hne : vs.toArray.isEmpty = false := by
          cases vs with
          | nil => simp only [List.length_nil] at l1; omega
          | cons _ _ => rfl
        refine hP (mul_list F N e1 (by omega) (by omega) ?_ ?_)
        · rw [List.size_toArray, ← l1]
          have : q.toNat ≤ 1000 := by omega
          calc xs.length * q.toNat ≤ 1000 * 1000 := Nat.mul_le_mul hc.2.2.1 this
            _ ≤ 2 ^ 24 := by decide
        · rw [hne]
          simp only [Bool.false_eq_true, if_false, rep_arr, Array.empty_append]
          exact made _ _ hg (fun z => ⟨_, z, rfl, rep_all e2 _⟩) m news F N qq
      · cases hg
    · cases hg
  · exact hP (dflt _ _ _ _ ha hb hg)

noncomputable def atI (xs : List α) (k : Int) : Option α := if 0 ≤ k then (if k < 100000 then xs[k.toNat]? else none) else if -(xs.length : Int) ≤ k ∧ -100000 ≤ k then xs[(k + xs.length).toNat]? else none
noncomputable def subG (a b : AV) (σ : AS) : Option (AV × AS) := match a, b with
  | .ref i, .int k => match σ.objs[i]? with
    | some (.flat xs) => (atI xs k).map fun v => (v, σ)
    | some (.refs xs) => (atI xs k).map fun v => (.ref v, σ)
    | some (.dict d) => (lookD d k).map fun v => (v, σ)
    | _ => none
  | _, _ => none
theorem getItem_at {A : Around} {s : Shared} {α : Type} {R : α → Value → Prop} {xs : List α} {vs : List Value} {l : Addr} {z : Nat} {k : Int} {t : Tok} {x : α} {Q E : Value → Shared → Prop} (h : All2 R xs vs) (hl : s.heap.get? l = some (listOf vs.toArray z))
    (hx : atI xs k = some x) (kk : ∀ v, R x v → Q v s) : wpAny (model X.prog X.w) A (getItem (.ref l) (.int k t)) Q E s := by
  have hlen := h.length
  delta atI at hx
  split at hx
  · rename_i h0
    split at hx
    · obtain ⟨y, hy, hr⟩ := h.get hx
      exact wpAny_getItem_list (isList_of hl) h0 (by omega) (by simpa using hy) (kk y hr)
    · cases hx
  · split at hx
    · obtain ⟨y, hy, hr⟩ := h.get hx
      exact wpAny_getItem_list_neg (isList_of hl) (by omega) (by rw [List.size_toArray]; omega) (by omega) (by rw [List.size_toArray, ← hlen]; simpa using hy) (kk y hr)
    · cases hx
theorem sub_item : Op2 X n D getItem subG := by
  intro c ok ρ ex σ a b a' b' v σ' s Q E hR ha hb hg k
  have k' : ∀ v', VRep ρ v v' → σ' = σ → Q v' s := fun v' hv e => k v' s ρ (List.prefix_refl _) hv (e ▸ hR) (.refl s)
  delta subG at hg
  split at hg
  · rename_i i j
    obtain ⟨p, h1, rfl⟩ := ha; obtain ⟨t, rfl⟩ := hb
    split at hg
    · rename_i xs hx
      obtain ⟨w, hw, e⟩ := Option.map_eq_some_iff.mp hg
      cases e
      obtain ⟨p', o, h2, h3, vs, z, rfl, h4⟩ := hR.obj hx
      rw [h1] at h2; cases h2
      exact getItem_at h4 h3 hw fun v' hv => k' v' hv.of_nil rfl
    · rename_i xs hx
      obtain ⟨w, hw, e⟩ := Option.map_eq_some_iff.mp hg
      cases e
      obtain ⟨p', o, h2, h3, vs, z, rfl, h4⟩ := hR.obj hx
      rw [h1] at h2; cases h2
      exact getItem_at h4 h3 hw fun v' hv => k' v' hv rfl
    · rename_i d hx
      obtain ⟨w, hw, e⟩ := Option.map_eq_some_iff.mp hg
      cases e
      obtain ⟨p', o, h2, h3, kvs, h4, h5⟩ := hR.obj hx
      rw [h1] at h2; cases h2
      have hl := valueAt_look j h5
      rw [hw] at hl
      obtain ⟨u, hu, hr⟩ := hl
      exact wpAny_getItem_of (knd := intKind X.prog X.w) (k := j) (intKind_is _ _ _ _) (Heap.dictOf_iff.mpr ⟨o, h3, h4⟩ : s.heap.DictOf (intKind X.prog X.w) p kvs).mapOf hu (k _ _ ρ (List.prefix_refl _) hr.of_nil hR (.of rfl rfl))
    · cases hg
  · cases hg
theorem subG_typed {c : Cx} {ρ : List Addr} {ex : List (Addr × Obj)} {σ : AS} {s : Shared} (hR : Rel X c D ρ ex σ s.heap) {a b : AV} {a' : Value} {r : AV × AS} (ha : VRep ρ a a') (hg : subG a b σ = some r) :
    ∃ T id, typeLookup (.type T) "__getitem__" = pure (some (.builtin id)) ∧ s.TypeIs a' T := by
  delta subG at hg
  split at hg
  · obtain ⟨p, h1, rfl⟩ := ha
    split at hg
    · rename_i xs hx
      obtain ⟨p', o, h2, h3, vs, z, rfl, h4⟩ := hR.obj hx
      rw [h1] at h2; cases h2
      exact ⟨"list", _, slot_list_getitem.lookup, ⟨_, h3, rfl⟩⟩
    · rename_i xs hx
      obtain ⟨p', o, h2, h3, vs, z, rfl, h4⟩ := hR.obj hx
      rw [h1] at h2; cases h2
      exact ⟨"list", _, slot_list_getitem.lookup, ⟨_, h3, rfl⟩⟩
    · rename_i d hx
      obtain ⟨p', o, h2, h3, kvs, h4, h5⟩ := hR.obj hx
      rw [h1] at h2; cases h2
      exact ⟨"dict", _, slot_dict_getitem.lookup, (Heap.dictOf_iff.mpr ⟨o, h3, h4⟩ : s.heap.DictOf (intKind X.prog X.w) p kvs).typeIs⟩
    · cases hg
  · cases hg
theorem ev_sub {value slice : Expr} {pos : Pos} {fv fs : AS → Option (AV × AS)} (hv : EVJ X n D value fv) (hs : EVJ X n D slice fs) (hsub : ∀ o i, subscripted slice false o i = operate [o, i] (getItem o i)) :
    EVJ X n D (.Subscript value slice pos) (b2A fv fs subG) := by
  intro c ok ρ ex σ v σ' s Q E hR hf k
  obtain ⟨a, σ₁, b, σ₂, h1, h2, h3⟩ := b2A_some hf
  refine Subscript_ (hv c ok ρ ex σ a σ₁ s _ E hR h1 fun a' s₁ ρ₁ p₁ v₁ R₁ S₁ => hs c ok ρ₁ ex σ₁ b σ₂ s₁ _ E R₁ h2 fun b' s₂ ρ₂ p₂ v₂ R₂ S₂ => ?_)
  obtain ⟨T, id, hl, hT⟩ := subG_typed R₂ (v₁.mono p₂) h3
  refine tail_any hT hl ?_ (hsub _ _)
  exact sub_item c ok ρ₂ ex σ₂ a b a' b' v σ' s₂ Q E R₂ (v₁.mono p₂) v₂ h3 fun v' s₃ ρ₃ p₃ v₃ R₃ S₃ => k v' s₃ ρ₃ (p₁.trans (p₂.trans p₃)) v₃ R₃ (S₁.trans (S₂.trans S₃))

noncomputable def PTJ (X : Wd) (n : Nat) (D : FD) (e : Option Expr) (f : AS → Option (Option Int × AS)) : Prop :=
  ∀ c : Cx, c.OK X D n → WJ X c D (evalPart e c.env) (fun _ b a => match b with | none => a = .none | some i => ∃ t, a = .int i t) f
noncomputable def ptN (σ : AS) : Option (Option Int × AS) := some (none, σ)
noncomputable def ptS (f : AS → Option (AV × AS)) (σ : AS) : Option (Option Int × AS) := match f σ with
  | some (.int i, σ₁) => some (some i, σ₁)
  | _ => none
theorem pt_none : PTJ X n D none ptN := by
  intro c ok ρ ex σ b σ' s Q E hR hf k
  cases hf
  exact evalPart_none_step (k _ s ρ (List.prefix_refl _) rfl hR (.refl s))
theorem pt_some {e : Expr} {f : AS → Option (AV × AS)} (h : EVJ X n D e f) : PTJ X n D (some e) (ptS f) := by
  intro c ok ρ ex σ b σ' s Q E hR hf k
  delta ptS at hf
  split at hf
  · rename_i i σ₁ h1
    cases hf
    exact evalPart_some_step (h c ok ρ ex σ _ σ' s _ E hR h1 fun a s₁ ρ₁ p₁ v₁ R₁ S₁ => k _ s₁ ρ₁ p₁ v₁ R₁ S₁)
  · cases hf

noncomputable def cutL {α : Type} (xs : List α) (lo hi : Option Int) : List α := (xs.drop (lo.elim 0 (clipAt xs.length))).take (hi.elim xs.length (clipAt xs.length) - lo.elim 0 (clipAt xs.length))
noncomputable def OldInts (X : Wd) (a : Addr) (ns : List Int) : Prop := ∃ o vs k, (a, o) ∈ X.olds ∧ o.cls = .type "list" ∧ o.data = .seq vs.toArray k ∧ IntsAre vs ns
noncomputable def cutG (old : Option (Addr × List Int)) (a : AV) (lo hi : Option Int) (σ : AS) : Option (AV × AS) := match a with
  | .ref i => match getFlat σ i with
    | some xs => if xs.length ≤ 100000 then newO (.flat (cutL xs lo hi)) σ else none
    | none => none
  | .str x => if x.length ≤ 100000 then some (.str (Txt.slice x lo hi), σ) else none
  | .adr a => match old with
    | some (b, ns) => if a = b ∧ ns.length ≤ 100000 then newO (.flat ((cutL ns lo hi).map .int)) σ else none
    | none => none
  | _ => none
noncomputable def cutA (old : Option (Addr × List Int)) (fv : AS → Option (AV × AS)) (fl fu : AS → Option (Option Int × AS)) (σ : AS) : Option (AV × AS) := match fv σ with
  | some (a, σ₁) => match fl σ₁ with
    | some (lo, σ₂) => match fu σ₂ with
      | some (hi, σ₃) => cutG old a lo hi σ₃
      | none => none
    | none => none
  | none => none

theorem All2.cut {α β : Type} {R : α → β → Prop} {xs : List α} {ys : List β} (h : All2 R xs ys) (lo hi : Option Int) : All2 R (cutL xs lo hi) (cutL ys lo hi) := by
  delta cutL; rw [h.length]; exact (h.drop _).take _
theorem ints_all2 {vs : List Value} {ns : List Int} (h : IntsAre vs ns) : All2 (VRep []) (ns.map .int) vs := by
  induction h with
  | nil => trivial
  | cons i t r ih => exact ⟨⟨t, rfl⟩, ih⟩
theorem cut_map {α β : Type} (f : α → β) (xs : List α) (lo hi : Option Int) : cutL (xs.map f) lo hi = (cutL xs lo hi).map f := by
  delta cutL; simp [List.map_drop, List.map_take]
theorem part_of {b : Option Int} {a : Value} (h : match b with | none => a = .none | some i => ∃ t, a = .int i t) : IsPart a b := by
  cases b with
  | none => rw [h]; exact .none
  | some i => obtain ⟨t, rfl⟩ := h; exact .int i t

theorem tail_item {A : Around} {s : Shared} {value slice : Expr} {o i : Value} {ops : List Value} {Q : Value → Shared → Prop} {E : Value → Shared → Prop} (h : ItemOn (model X.prog X.w) A E o i Q s)
    (hs : subscripted slice false o i = operate ops (getItem o i)) : wpAny (model X.prog X.w) A (subscriptTail value slice o i) Q E s :=
  let ⟨_, _, hl, hT, hg⟩ := h; tail_any hT hl hg hs
theorem ev_cut {value : Expr} {lower upper : Option Expr} {p pos : Pos} {old : Option (Addr × List Int)} {fv : AS → Option (AV × AS)} {fl fu : AS → Option (Option Int × AS)} (hv : EVJ X n D value fv) (hl : PTJ X n D lower fl) (hu : PTJ X n D upper fu)
    (hold : ∀ a ns, old = some (a, ns) → OldInts X a ns) (hsub : ∀ o i, subscripted (.Slice lower upper none p) false o i = operate [i, o] (getItem o i)) : EVJ X n D (.Subscript value (.Slice lower upper none p) pos) (cutA old fv fl fu) := by
  intro c ok ρ ex σ v σ' s Q E hR hf k
  refine cps fun PG hP => ?_
  delta cutA at hf
  split at hf
  case h_2 => cases hf
  rename_i a σ₁ h1
  split at hf
  case h_2 => cases hf
  rename_i lo σ₂ h2
  split at hf
  case h_2 => cases hf
  rename_i hi σ₃ h3
  refine hP ?_
  clear hP PG
  refine Subscript_ (hv c ok ρ ex σ a σ₁ s _ E hR h1 fun a' s₁ ρ₁ p₁ v₁ R₁ S₁ => wpAny_Slice (hl c ok ρ₁ ex σ₁ lo σ₂ s₁ _ E R₁ h2 fun lo' s₂ ρ₂ p₂ v₂ R₂ S₂ => hu c ok ρ₂ ex σ₂ hi σ₃ s₂ _ E R₂ h3 fun hi' s₃ ρ₃ p₃ v₃ R₃ S₃ =>
    evalPart_none_step ?_))
  have S := S₁.trans (S₂.trans S₃)
  have P := p₁.trans (p₂.trans p₃)
  have RS := R₃.push { cls := .type "slice", data := .fields #[lo', hi', .none] }
  have hsl := Heap.IsSliceOf.new s₃.heap lo' hi' .none
  have va := v₁.mono (p₂.trans p₃)
  have lists : ∀ (l : Addr) (o : Obj) (vs : List Value) (z : Nat) (ao : AO), a' = .ref l → s₃.heap.get? l = some o → o.cls = .type "list" → o.data = .seq vs.toArray z → vs.length ≤ 100000 → newO ao σ₃ = some (v, σ') →
      (∀ z, ORep X ρ₃ ao (listOf (cutL vs lo hi).toArray z)) → wpAny (model X.prog X.w) c.A (subscriptTail value (.Slice lower upper none p) a' (.ref s₃.heap.objs.size)) Q E { s₃ with heap := s₃.heap.push { cls := .type "slice", data := .fields #[lo', hi', .none] } } := by
    intro l o vs z ao ea ho hcls hdat hlen hn hao
    subst ea
    have ho' := Heap.get?_push_of_some { cls := .type "slice", data := .fields #[lo', hi', .none] } ho
    refine tail_any (T := "list") ⟨_, ho', hcls⟩ slot_list_getitem.lookup ?_ (hsub _ _)
    refine wpAny_getItem_list_slice (st := none) ⟨_, ho', hcls, z, hdat⟩ hsl (part_of v₂) (part_of v₃) .none (by simp) ?_ (by rw [List.size_toArray]; exact big_line hlen)
    cases hn
    have e : slicePick vs.toArray lo hi none = (cutL vs lo hi).toArray := by rw [slicePick_plain]; simp [cutL]
    rw [e]
    exact k _ _ (ρ₃ ++ [_]) (P.trans (List.prefix_append ..)) ⟨_, R₃.len' _, rfl⟩ (RS.alloc rfl (hao 0)) (S.trans (.of rfl rfl))
  refine cps fun PG hP => ?_
  delta cutG at hf
  split at hf
  · rename_i i
    split at hf
    · rename_i xs hx
      split at hf
      · rename_i hle
        obtain ⟨b, e1, rfl⟩ := va
        obtain ⟨vs, z, g1, g2⟩ := R₃.listAt hx e1
        have hlen := g2.length
        exact hP (lists b _ vs z _ rfl g1 rfl rfl (by omega) hf fun z => ⟨_, z, rfl, g2.cut lo hi⟩)
      · cases hf
    · cases hf
  · rename_i x
    split at hf
    · rename_i hle
      cases hf
      obtain ⟨t, rfl⟩ := va
      have fin : ∀ (h' : Heap) (t' k' : Nat), Rel X c D ρ₃ ex σ' h' → Q (.str (Txt.slice x lo hi) t') { s₃ with heap := h', toks := k' } := fun h' t' k' r => k _ _ ρ₃ P ⟨_, rfl⟩ r (S.trans (.of rfl rfl))
      have kept : KeptH (fun h => Rel X c D ρ₃ ex σ' h) := fun h ob r => r.push ob
      have hsz := big_line hle
      cases lo with
      | none =>
        cases hi with
        | none => subst v₂; subst v₃; exact hP (tail_item (SBH.sliceItem_nn kept R₃ fin hsz) (hsub _ _))
        | some j => subst v₂; obtain ⟨u, rfl⟩ := v₃; exact hP (tail_item (SBH.sliceItem_ns kept R₃ fin hsz) (hsub _ _))
      | some i =>
        obtain ⟨w, rfl⟩ := v₂
        cases hi with
        | none => subst v₃; exact hP (tail_item (SBH.sliceItem_sn kept R₃ fin hsz) (hsub _ _))
        | some j => obtain ⟨u, rfl⟩ := v₃; exact hP (tail_item (SBH.sliceItem_ss kept R₃ fin hsz) (hsub _ _))
    · cases hf
  · rename_i b
    split at hf
    · rename_i b' ns
      split at hf
      · rename_i hc
        cases va
        obtain ⟨rfl, hle⟩ := hc
        obtain ⟨o, vs, z, hm, hcls, hdat, hi'⟩ := hold _ _ rfl
        have hh := R₃.keep _ _ (ok.old _ hm)
        have hlen := hi'.length
        refine hP (lists b o vs z _ rfl hh hcls hdat (by omega) hf fun z => ⟨_, z, rfl, ?_⟩)
        rw [← cut_map]
        exact (ints_all2 hi').cut lo hi
      · cases hf
    · cases hf
  · cases hf
end Mine
-- part M9
namespace Mine
variable {X : Wd} {n : Nat} {D : FD}

noncomputable def storeD (d : List (Int × AV)) (k : Int) (v : AV) : List (Int × AV) := if d.any (fun kv => kv.1 = k) then d.map (fun kv => if kv.1 = k then (kv.1, v) else kv) else d ++ [(k, v)]
noncomputable def setG (a b v : AV) (σ : AS) : Option AS := match a, b with
  | .ref i, .int k => match σ.objs[i]? with
    | some (.flat xs) => if plainV v = true ∧ 0 ≤ k ∧ k < xs.length ∧ xs.length ≤ 100000 then some { σ with objs := σ.objs.set i (.flat (xs.set k.toNat v)) } else none
    | some (.dict d) => if plainV v = true ∧ d.length ≤ 100000 then some { σ with objs := σ.objs.set i (.dict (storeD d k v)) } else none
    | _ => none
  | _, _ => none

theorem dict_any {d : List (Int × AV)} {kvs : List (Int × Value)} (k : Int) (h : All2 (fun kv p => p.1 = kv.1 ∧ VRep [] kv.2 p.2) d kvs) : d.any (fun kv => kv.1 = k) = kvs.any (fun kv => kv.1 = k) := by
  induction d generalizing kvs with
  | nil => cases kvs with
    | nil => rfl
    | cons _ _ => exact h.elim
  | cons x r ih => cases kvs with
    | nil => exact h.elim
    | cons y s => rw [List.any_cons, List.any_cons, ih h.2, h.1.1]
theorem dict_put {d : List (Int × AV)} {kvs : List (Int × Value)} {k : Int} {v : AV} {v' : Value} (hv : VRep [] v v') (h : All2 (fun kv p => p.1 = kv.1 ∧ VRep [] kv.2 p.2) d kvs) :
    All2 (fun kv p => p.1 = kv.1 ∧ VRep [] kv.2 p.2) (d.map fun kv => if kv.1 = k then (kv.1, v) else kv) (kvs.map fun kv => if kv.1 = k then (kv.1, v') else kv) := by
  induction d generalizing kvs with
  | nil => cases kvs with
    | nil => trivial
    | cons _ _ => exact h.elim
  | cons x r ih => cases kvs with
    | nil => exact h.elim
    | cons y s =>
      refine ⟨?_, ih h.2⟩
      have e := h.1.1
      by_cases hk : x.1 = k
      · simp only [hk, if_true, e.trans hk]; exact ⟨trivial, hv⟩
      · simp only [hk, if_false, show ¬ y.1 = k by rw [e]; exact hk]; exact h.1
theorem dict_store {d : List (Int × AV)} {kvs : List (Int × Value)} {k : Int} {v : AV} {v' : Value} (hv : VRep [] v v') (h : All2 (fun kv p => p.1 = kv.1 ∧ VRep [] kv.2 p.2) d kvs) :
    All2 (fun kv p => p.1 = kv.1 ∧ VRep [] kv.2 p.2) (storeD d k v) (stored kvs k v') := by
  unfold storeD stored
  rw [dict_any k h]
  split
  · exact dict_put hv h
  · exact h.append ⟨⟨rfl, hv⟩, trivial⟩

theorem set_ok {c : Cx} {ρ : List Addr} {ex : List (Addr × Obj)} {σ σ' : AS} {s : Shared} {a b v : AV} {a' b' v' : Value} {Q : Unit → Shared → Prop} {E : Value → Shared → Prop}
    (hR : Rel X c D ρ ex σ s.heap) (ha : VRep ρ a a') (hb : VRep ρ b b') (hv : VRep ρ v v') (hg : setG a b v σ = some σ') (k : ∀ s', Rel X c D ρ ex σ' s'.heap → Same s s' → Q () s') :
    wpAny (model X.prog X.w) c.A (setItem a' b' v') Q E s := by
  delta setG at hg
  split at hg
  · rename_i i j
    obtain ⟨p, h1, rfl⟩ := ha; obtain ⟨t, rfl⟩ := hb
    split at hg
    · rename_i xs hx
      split at hg
      · rename_i hc
        cases hg
        obtain ⟨p', o, h2, h3, vs, z, rfl, h4⟩ := hR.obj hx
        rw [h1] at h2; cases h2
        have hlen := h4.length
        refine ki_setAt h3 hc.2.1 (by omega) (by rw [List.size_toArray]; omega) ?_
        have hu := IsL.update h3 (fun q => q.setIfInBounds j.toNat v')
        refine k _ (hR.update h1 (Heap.SameBut.update ..) hu ⟨vs.set j.toNat v', (if (vs.toArray.setIfInBounds j.toNat v').size == vs.toArray.size then z else z + 1), ?_, h4.set _ (hv.plain hc.1)⟩) (.of rfl rfl)
        have e : vs.toArray.setIfInBounds j.toNat v' = (vs.set j.toNat v').toArray := by simp
        rw [e]
      · cases hg
    · rename_i d hx
      split at hg
      · rename_i hc
        cases hg
        obtain ⟨p', o, h2, h3, kvs, h4, h5⟩ := hR.obj hx
        rw [h1] at h2; cases h2
        have hlen := h5.length
        refine wpAny_setItem_pairs (hsz := big_line (by omega)) (intKind_is _ _ j t) (Heap.dictOf_iff.mpr ⟨o, h3, h4⟩ : s.heap.DictOf (intKind X.prog X.w) p kvs) fun h' hm hs => ?_
        obtain ⟨o', ho', hd'⟩ := Heap.dictOf_iff.mp hm
        exact k _ (hR.update h1 hs ho' ⟨_, hd', dict_store (hv.plain hc.1) h5⟩) (.of rfl rfl)
      · cases hg
    · cases hg
  · cases hg

noncomputable def setA (fv fo fi : AS → Option (AV × AS)) (σ : AS) : Option (AF × AS) := match fv σ with
  | some (v, σ₁) => match fo σ₁ with
    | some (a, σ₂) => match fi σ₂ with
      | some (b, σ₃) => match setG a b v σ₃ with
        | some σ₄ => some (.next, σ₄)
        | none => none
      | none => none
    | none => none
  | none => none
theorem ex_set {o i value : Expr} {pos' pos : Pos} {fv fo fi : AS → Option (AV × AS)} (hv : EVJ X n D value fv) (ho : EVJ X n D o fo) (hi : EVJ X n D i fi) (hs : ∀ env, swapsWith value (some (.Subscript o i pos')) pos.line env = pure false) :
    EXJ X n D (.Assign [.Subscript o i pos'] value pos) (setA fv fo fi) := by
  intro c ok ρ ex σ v σ' s Q E hR hf k
  delta setA at hf
  split at hf
  case h_2 => cases hf
  rename_i w σ₁ h1
  split at hf
  case h_2 => cases hf
  rename_i a σ₂ h2
  split at hf
  case h_2 => cases hf
  rename_i b σ₃ h3
  split at hf
  case h_2 => cases hf
  rename_i σ₄ h4
  cases hf
  refine wpAny_Assign_Subscript (hv c ok ρ ex σ w σ₁ s _ E hR h1 fun w' s₁ ρ₁ p₁ v₁ R₁ S₁ => ho c ok ρ₁ ex σ₁ a σ₂ s₁ _ E R₁ h2 fun a' s₂ ρ₂ p₂ v₂ R₂ S₂ => hi c ok ρ₂ ex σ₂ b σ₃ s₂ _ E R₂ h3 fun b' s₃ ρ₃ p₃ v₃ R₃ S₃ => ?_) (hs _)
  exact set_ok R₃ (v₂.mono p₃) v₃ (v₁.mono (p₂.trans p₃)) h4 fun s₄ R₄ S₄ => k _ s₄ ρ₃ (p₁.trans (p₂.trans p₃)) rfl R₄ (S₁.trans (S₂.trans (S₃.trans S₄)))

noncomputable def augSA (fo fi fv : AS → Option (AV × AS)) (g : AV → AV → AS → Option (AV × AS)) (σ : AS) : Option (AF × AS) := match fo σ with
  | some (a, σ₁) => match fi σ₁ with
    | some (b, σ₂) => match subG a b σ₂ with
      | some (x, σ₃) => match fv σ₃ with
        | some (v, σ₄) => match g x v σ₄ with
          | some (y, σ₅) => match setG a b y σ₅ with
            | some σ₆ => some (.next, σ₆)
            | none => none
          | none => none
        | none => none
      | none => none
    | none => none
  | none => none
theorem ex_augSub {o i value : Expr} {pos' pos : Pos} {op : Operator} {fv fo fi : AS → Option (AV × AS)} {g : AV → AV → AS → Option (AV × AS)} (ho : EVJ X n D o fo) (hi : EVJ X n D i fi) (hv : EVJ X n D value fv) (hg : Op2 X n D (inplaceOp op) g)
    (ha : ∀ ov iv new, augStore i ov iv new = (do holding [new, ov, iv] (setItem ov iv new); release [new, ov, iv] []; pure .next)) :
    EXJ X n D (.AugAssign (.Subscript o i pos') op value pos) (augSA fo fi fv g) := by
  intro c ok ρ ex σ v σ' s Q E hR hf k
  delta augSA at hf
  split at hf
  case h_2 => cases hf
  rename_i a σ₁ h1
  split at hf
  case h_2 => cases hf
  rename_i b σ₂ h2
  split at hf
  case h_2 => cases hf
  rename_i x σ₃ h3
  split at hf
  case h_2 => cases hf
  rename_i w σ₄ h4
  split at hf
  case h_2 => cases hf
  rename_i y σ₅ h5
  split at hf
  case h_2 => cases hf
  rename_i σ₆ h6
  cases hf
  refine wpAny_AugAssign_SubscriptAny (ho c ok ρ ex σ a σ₁ s _ E hR h1 fun a' s₁ ρ₁ p₁ v₁ R₁ S₁ => hi c ok ρ₁ ex σ₁ b σ₂ s₁ _ E R₁ h2 fun b' s₂ ρ₂ p₂ v₂ R₂ S₂ => ?_) ha
  refine sub_item c ok ρ₂ ex σ₂ a b a' b' x σ₃ s₂ _ E R₂ (v₁.mono p₂) v₂ h3 fun x' s₃ ρ₃ p₃ v₃ R₃ S₃ => ?_
  refine hv c ok ρ₃ ex σ₃ w σ₄ s₃ _ E R₃ h4 fun w' s₄ ρ₄ p₄ v₄ R₄ S₄ => ?_
  refine hg c ok ρ₄ ex σ₄ x w x' w' y σ₅ s₄ _ E R₄ (v₃.mono p₄) v₄ h5 fun y' s₅ ρ₅ p₅ v₅ R₅ S₅ => ?_
  refine set_ok R₅ (v₁.mono (p₂.trans (p₃.trans (p₄.trans p₅)))) (v₂.mono (p₃.trans (p₄.trans p₅))) v₅ h6 fun s₆ R₆ S₆ => ?_
  exact k _ s₆ ρ₅ (p₁.trans (p₂.trans (p₃.trans (p₄.trans p₅)))) rfl R₆ (S₁.trans (S₂.trans (S₃.trans (S₄.trans (S₅.trans S₆)))))

noncomputable def pairA (i j : Var) (fa : AS → Option (List AV × AS)) (σ : AS) : Option (AF × AS) := match fa σ with
  | some ([a, b], σ₁) => match stV j b σ₁ with
    | some σ₂ => match stV i a σ₂ with
      | some σ₃ => some (.next, σ₃)
      | none => none
    | none => none
  | _ => none
theorem ex_pair {x y : Str} {px py tp vp pos : Pos} {e1 e2 : Expr} {k1 k2 : Nat} {fa : AS → Option (List AV × AS)} (i j : Var) (ha : ARJ X n D [e1, e2] fa) (hnd : D.names.Nodup) (hx : VarOK D x i = true) (hy : VarOK D y j = true)
    (hs : ∀ env, swapsWithSole [.Tuple [.Name x px, .Name y py] k1 tp] (.Tuple [e1, e2] k2 vp) pos.line env = pure false)
    (hw : ∀ env, env.scope = D.cs → swappedStores [.Tuple [.Name x px, .Name y py] k1 tp] (.Tuple [e1, e2] k2 vp) env = pure (some [x, y])) :
    EXJ X n D (.Assign [.Tuple [.Name x px, .Name y py] k1 tp] (.Tuple [e1, e2] k2 vp) pos) (pairA i j fa) := by
  intro c ok ρ ex σ v σ' s Q E hR hf k
  delta pairA at hf
  split at hf
  · rename_i a b σ₁ h1
    split at hf
    · rename_i σ₂ h2
      split at hf
      · rename_i σ₃ h3
        cases hf
        refine Assign_Tuple_swapped ?_ (hs _) (hw _ ok.escope)
        refine Tuple_ (ha c ok vp ρ ex σ [a, b] σ₁ s _ E hR h1 fun vs s₁ ρ₁ p₁ v₁ R₁ S₁ => ?_)
        match vs, v₁ with
        | [a', b'], ⟨va, vb, _⟩ =>
          obtain ⟨m, news, F, N, q, _⟩ := R₁.news
          refine newTuple_N F N (fun h' F' N' => ?_) (big_line (by show 2 ≤ 100000; decide))
          have hm := N' _ (.head _)
          refine unpackItemsN_ (items := [a', b'].toArray) F' (fun p hp => N' p (.tail _ hp)) ⟨_, hm.1, rfl, 0, rfl⟩ ok.handled rfl fun h'' F'' N'' => ?_
          have RR : Rel X c D ρ₁ ex σ₁ h'' := q h'' F'' N''
          show wpAny _ _ (assignInOrder [fun v => bindName c.env y v, fun v => bindName c.env x v] [b', a']) _ E _
          refine assignInOrder_cons (wpAny_bindName (store_ok ok RR vb hnd hy h2 fun s₂ R₂ S₂ => ?_))
          refine assignInOrder_cons (wpAny_bindName (store_ok ok R₂ va hnd hx h3 fun s₃ R₃ S₃ => ?_))
          exact assignInOrder_nil (k _ s₃ ρ₁ p₁ rfl R₃ (S₁.trans ((⟨S₂.os, S₂.gens, S₂.more, S₂.bare⟩ : Same s₁ s₂).trans S₃)))
      · cases hf
    · cases hf
  · cases hf
end Mine
-- part M10
namespace Mine
variable {X : Wd} {n : Nat} {D : FD}

section
variable {c : Cx} {ρ : List Addr} {ex exI exI' : List (Addr × Obj)} {σ : AS} {h h' : Heap}
theorem Rel.walk (r : Rel X c D ρ (exI ++ ex) σ h) {wr : List Addr} (hwr : ∀ b ∈ wr, b ∈ exI.map (·.1)) (hk : ∀ b o, b ∉ wr → h.get? b = some o → h'.get? b = some o) (hm : exI'.map (·.1) = exI.map (·.1))
    (hn : ∀ p ∈ exI', h'.get? p.1 = some p.2) : Rel X c D ρ (exI' ++ ex) σ h' := by
  obtain ⟨cv, hc, hv⟩ := r.core
  obtain ⟨m, os, F, N, O, hl, nd, lc⟩ := hc.all
  have mem : ∀ b ∈ exI.map (·.1), ∃ p ∈ ρ.zip os ++ (cv ++ (exI ++ ex)), p.1 = b := fun b hb => by
    obtain ⟨p, hp, rfl⟩ := List.mem_map.mp hb
    exact ⟨p, List.mem_append_right _ (List.mem_append_right _ (List.mem_append_left _ hp)), rfl⟩
  have hL : c.L ∉ wr := fun q => by obtain ⟨p, hp, e⟩ := mem _ (hwr _ q); exact (N p hp).2.1 e
  have h0 : ∀ b o, c.h₀.get? b = some o → b ∉ wr := fun b o e q => by
    obtain ⟨p, hp, e'⟩ := mem _ (hwr _ q)
    have := (N p hp).2.2; rw [e', e] at this; cases this
  have F' : Fr c.h₀ c.L h' m := by
    obtain ⟨oL, es, ep, hL', r1, r2, r3⟩ := F.ns
    exact ⟨⟨oL, es, ep, hk _ _ hL hL', r1, r2, r3⟩, fun b o e => hk b o (h0 b o e) (F.keep b o e), F.above⟩
  have nd' : (ρ ++ (cv ++ (exI' ++ ex)).map (·.1)).Nodup := by
    simpa only [List.map_append, hm] using nd
  refine ⟨⟨cv, ⟨⟨m, os, F', fun p hp => ?_, O, hl, nd', lc⟩, hc.big, hc.low⟩, hv⟩, r.cel⟩
  have apart : p.1 ∉ exI.map (·.1) → p ∈ ρ.zip os ++ (cv ++ (exI ++ ex)) → h'.get? p.1 = some p.2 ∧ p.1 ≠ c.L ∧ c.h₀.get? p.1 = none := fun hno hp => by
    have z := N p hp
    exact ⟨hk _ _ (fun q => hno (hwr _ q)) z.1, z.2⟩
  have nd1 := List.nodup_append.mp nd
  simp only [List.map_append] at nd1
  have nd2 := List.nodup_append.mp nd1.2.1
  have nd3 := List.nodup_append.mp nd2.2.1
  rcases List.mem_append.mp hp with hp | hp
  · refine apart (fun q => ?_) (List.mem_append_left _ hp)
    have : p.1 ∈ ρ := by rw [← map_fst_zip hl]; exact List.mem_map_of_mem hp
    exact nd1.2.2 _ this _ (List.mem_append_right _ (List.mem_append_left _ q)) rfl
  · rcases List.mem_append.mp hp with hp | hp
    · refine apart (fun q => ?_) (List.mem_append_right _ (List.mem_append_left _ hp))
      exact nd2.2.2 _ (List.mem_map_of_mem hp) _ (List.mem_append_left _ q) rfl
    · rcases List.mem_append.mp hp with hp | hp
      · have : p.1 ∈ exI.map (·.1) := by rw [← hm]; exact List.mem_map_of_mem hp
        obtain ⟨q, hq, e⟩ := mem _ this
        have z := N q hq
        rw [e] at z
        exact ⟨hn p hp, z.2⟩
      · refine apart (fun q => ?_) (List.mem_append_right _ (List.mem_append_right _ (List.mem_append_right _ hp)))
        exact nd3.2.2 _ q _ (List.mem_map_of_mem hp) rfl
theorem Rel.exDrop (r : Rel X c D ρ (exI ++ ex) σ h) : Rel X c D ρ ex σ h := by
  obtain ⟨cv, hc, hv⟩ := r.core
  obtain ⟨m, os, F, N, O, hl, nd, lc⟩ := hc.all
  refine ⟨⟨cv, ⟨⟨m, os, F, fun p hp => N p ?_, O, hl, ?_, lc⟩, hc.big, hc.low⟩, hv⟩, r.cel⟩
  · rcases List.mem_append.mp hp with hp | hp
    · exact List.mem_append_left _ hp
    · rcases List.mem_append.mp hp with hp | hp
      · exact List.mem_append_right _ (List.mem_append_left _ hp)
      · exact List.mem_append_right _ (List.mem_append_right _ (List.mem_append_right _ hp))
  · refine nd.sublist ?_
    refine List.Sublist.append (.refl _) ?_
    simp only [List.map_append]
    exact List.Sublist.append (.refl _) (List.sublist_append_right _ _)
theorem Rel.exNew (r : Rel X c D ρ ex σ h) {a : Addr} {o : Obj} (ha : h.objs.size ≤ a) (hk : ∀ b o, h.get? b = some o → h'.get? b = some o) (ho : h'.get? a = some o) : Rel X c D ρ ((a, o) :: ex) σ h' := by
  obtain ⟨cv, hc, hv⟩ := r.core
  obtain ⟨m, os, F, N, O, hl, nd, lc⟩ := hc.all
  have hlt : ∀ b ∈ ρ ++ (cv ++ ex).map (·.1), b < h.objs.size := by
    intro b hb
    have : b ∈ (ρ.zip os ++ (cv ++ ex)).map (·.1) := by
      rw [List.map_append, map_fst_zip hl]; exact hb
    obtain ⟨p, hp, rfl⟩ := List.mem_map.mp this
    exact Heap.lt_size (N p hp).1
  refine ⟨⟨cv, ⟨⟨m, os, Fr.keeps' F hk, fun p hp => ?_, O, hl, ?_, lc⟩, hc.big, hc.low⟩, hv⟩, r.cel⟩
  · have old : p ∈ ρ.zip os ++ (cv ++ ex) → h'.get? p.1 = some p.2 ∧ p.1 ≠ c.L ∧ c.h₀.get? p.1 = none := fun hp => ⟨hk _ _ (N p hp).1, (N p hp).2⟩
    simp only [List.mem_append, List.mem_cons] at hp old
    rcases hp with hp | hp | rfl | hp
    · exact old (.inl hp)
    · exact old (.inr (.inl hp))
    · refine ⟨ho, fun e => ?_, ?_⟩
      · have := F.ns.lt; rw [← e] at this; exact Nat.lt_irrefl _ (Nat.lt_of_lt_of_le this ha)
      · cases q : c.h₀.get? a with
        | none => rfl
        | some o' => exact absurd (Nat.lt_of_lt_of_le (Heap.lt_size (F.keep _ _ q)) ha) (Nat.lt_irrefl _)
    · exact old (.inr (.inr hp))
  · have hperm : (ρ ++ (cv ++ (a, o) :: ex).map (·.1)).Perm (a :: (ρ ++ (cv ++ ex).map (·.1))) := by
      simp only [List.map_append, List.map_cons]
      rw [← List.append_assoc, ← List.append_assoc]
      exact List.perm_middle
    rw [hperm.nodup_iff, List.nodup_cons]
    exact ⟨fun hb => Nat.lt_irrefl _ (Nat.lt_of_lt_of_le (hlt _ hb) ha), nd⟩
theorem Rel.walkDrop (r : Rel X c D ρ (exI ++ ex) σ h) {wr : List Addr} (hwr : ∀ b ∈ wr, b ∈ exI.map (·.1)) (hk : ∀ b o, b ∉ wr → h.get? b = some o → h'.get? b = some o) : Rel X c D ρ ex σ h' := by
  obtain ⟨cv, hc, hv⟩ := r.core
  obtain ⟨m, os, F, N, O, hl, nd, lc⟩ := hc.all
  have mem : ∀ b ∈ exI.map (·.1), ∃ p ∈ ρ.zip os ++ (cv ++ (exI ++ ex)), p.1 = b := fun b hb => by
    obtain ⟨p, hp, rfl⟩ := List.mem_map.mp hb
    exact ⟨p, List.mem_append_right _ (List.mem_append_right _ (List.mem_append_left _ hp)), rfl⟩
  have hL : c.L ∉ wr := fun q => by obtain ⟨p, hp, e⟩ := mem _ (hwr _ q); exact (N p hp).2.1 e
  have h0 : ∀ b o, c.h₀.get? b = some o → b ∉ wr := fun b o e q => by
    obtain ⟨p, hp, e'⟩ := mem _ (hwr _ q)
    have := (N p hp).2.2; rw [e', e] at this; cases this
  have F' : Fr c.h₀ c.L h' m := by
    obtain ⟨oL, es, ep, hL', r1, r2, r3⟩ := F.ns
    exact ⟨⟨oL, es, ep, hk _ _ hL hL', r1, r2, r3⟩, fun b o e => hk b o (h0 b o e) (F.keep b o e), F.above⟩
  have nd1 := List.nodup_append.mp nd
  simp only [List.map_append] at nd1
  have nd2 := List.nodup_append.mp nd1.2.1
  have nd3 := List.nodup_append.mp nd2.2.1
  refine ⟨⟨cv, ⟨⟨m, os, F', fun p hp => ?_, O, hl, ?_, lc⟩, hc.big, hc.low⟩, hv⟩, r.cel⟩
  · have apart : p.1 ∉ exI.map (·.1) → p ∈ ρ.zip os ++ (cv ++ (exI ++ ex)) → h'.get? p.1 = some p.2 ∧ p.1 ≠ c.L ∧ c.h₀.get? p.1 = none := fun hno hp => by
      have z := N p hp
      exact ⟨hk _ _ (fun q => hno (hwr _ q)) z.1, z.2⟩
    rcases List.mem_append.mp hp with hp | hp
    · refine apart (fun q => ?_) (List.mem_append_left _ hp)
      have : p.1 ∈ ρ := by rw [← map_fst_zip hl]; exact List.mem_map_of_mem hp
      exact nd1.2.2 _ this _ (List.mem_append_right _ (List.mem_append_left _ q)) rfl
    · rcases List.mem_append.mp hp with hp | hp
      · refine apart (fun q => ?_) (List.mem_append_right _ (List.mem_append_left _ hp))
        exact nd2.2.2 _ (List.mem_map_of_mem hp) _ (List.mem_append_left _ q) rfl
      · refine apart (fun q => ?_) (List.mem_append_right _ (List.mem_append_right _ (List.mem_append_right _ hp)))
        exact nd3.2.2 _ q _ (List.mem_map_of_mem hp) rfl
  · refine nd.sublist ?_
    refine List.Sublist.append (.refl _) ?_
    simp only [List.map_append]
    exact List.Sublist.append (.refl _) (List.sublist_append_right _ _)
theorem Rel.exGet (r : Rel X c D ρ ex σ h) {p : Addr × Obj} (hp : p ∈ ex) : h.get? p.1 = some p.2 := by
  obtain ⟨cv, hc, hv⟩ := r.core
  obtain ⟨m, os, F, N, O, hl, nd, lc⟩ := hc.all
  exact (N p (List.mem_append_right _ (List.mem_append_right _ hp))).1
end

structure ItOK (X : Wd) (c : Cx) (D : FD) (target : Expr) (I : Addr) (ρ₀ : List Addr) (sb : Shared) (its : List (AS → Option AS)) (chk : AS → Bool) (St : Nat → List (Addr × Obj) → Array GenState → Prop) : Prop where
  item : ∀ (i : Nat) (b : AS → Option AS) (ρ : List Addr) (ex exI : List (Addr × Obj)) (σ σ' : AS) (s : Shared) (R : Shared → Prop) (Q : Option Value → Shared → Prop) (E : Value → Shared → Prop), its[i]? = some b → St i exI s.gens → ρ₀ <+: ρ → chk σ = true → b σ = some σ' →
    Rel X c D ρ (exI ++ ex) σ s.heap → Same sb s →
    (∀ v s₁, wpAny (model X.prog X.w) c.A (letOwnedTupleGo target (.ref I) v) (fun _ s₁' => wpAny (model X.prog X.w) c.A (assign target c.env v) (fun _ s₂ => R s₂) E s₁') E s₁ → Q (some v) s₁) →
    (∀ s' exI', St (i + 1) exI' s'.gens → Rel X c D ρ (exI' ++ ex) σ' s'.heap → Same sb s' → R s') →
    wpAny (model X.prog X.w) c.A (pyNext (.ref I)) Q E s
  done : ∀ (ρ : List Addr) (ex exI : List (Addr × Obj)) (σ : AS) (s : Shared) (Q : Option Value → Shared → Prop) (E : Value → Shared → Prop), St its.length exI s.gens → ρ₀ <+: ρ → chk σ = true →
    Rel X c D ρ (exI ++ ex) σ s.heap → Same sb s → (∀ s', Rel X c D ρ ex σ s'.heap → Same sb s' → Q none s') → wpAny (model X.prog X.w) c.A (pyNext (.ref I)) Q E s
  stay : ∀ (i : Nat) (exI : List (Addr × Obj)) (s s' : Shared), St i exI s.gens → Same s s' → St i exI s'.gens

structure ItRaw (X : Wd) (c : Cx) (D : FD) (I : Addr) (ρ₀ : List Addr) (its : List AV) (chk : AS → Bool) (St : Nat → List (Addr × Obj) → Prop) : Prop where
  item : ∀ (i : Nat) (a : AV) (ρ : List Addr) (ex exI : List (Addr × Obj)) (σ : AS) (s : Shared) (Q : Option Value → Shared → Prop) (E : Value → Shared → Prop), its[i]? = some a → St i exI → ρ₀ <+: ρ → chk σ = true → Rel X c D ρ (exI ++ ex) σ s.heap →
    (∀ v s' exI', VRep [] a v → St (i + 1) exI' → Rel X c D ρ (exI' ++ ex) σ s'.heap → Same s s' → Q (some v) s') → wpAny (model X.prog X.w) c.A (pyNext (.ref I)) Q E s
  done : ∀ (ρ : List Addr) (ex exI : List (Addr × Obj)) (σ : AS) (s : Shared) (Q : Option Value → Shared → Prop) (E : Value → Shared → Prop), St its.length exI → ρ₀ <+: ρ → chk σ = true →
    Rel X c D ρ (exI ++ ex) σ s.heap → (∀ s', Rel X c D ρ ex σ s'.heap → Same s s' → Q none s') → wpAny (model X.prog X.w) c.A (pyNext (.ref I)) Q E s
  self : ∀ (i : Nat) (ρ : List Addr) (ex exI : List (Addr × Obj)) (σ : AS) (s : Shared) (Q : Value → Shared → Prop) (E : Value → Shared → Prop), St i exI → Rel X c D ρ (exI ++ ex) σ s.heap → Q (.ref I) s → wpAny (model X.prog X.w) c.A (pyIter (.ref I)) Q E s
noncomputable def RJ (X : Wd) (n : Nat) (D : FD) (e : Expr) (f : AS → Option ((List AV × (AS → Bool)) × AS)) : Prop :=
  ∀ c : Cx, c.OK X D n → ∀ (ρ : List Addr) (ex : List (Addr × Obj)) (σ : AS) (its : List AV) (chk : AS → Bool) (σ' : AS) (s : Shared) (Q : Value → Shared → Prop) (E : Value → Shared → Prop),
    Rel X c D ρ ex σ s.heap → f σ = some ((its, chk), σ') →
    (∀ I s' ρ' exI St, ρ <+: ρ' → ItRaw X c D I ρ' its chk St → St 0 exI → chk σ' = true → Rel X c D ρ' (exI ++ ex) σ' s'.heap → Same s s' → Q (.ref I) s') →
    wpAny (model X.prog X.w) c.A (eval e c.env) (fun x s₁ => wpAny (model X.prog X.w) c.A (pyIter x) Q E s₁) E s

noncomputable def ITJ (X : Wd) (n : Nat) (D : FD) (target e : Expr) (f : AS → Option ((List (AS → Option AS) × (AS → Bool)) × AS)) : Prop :=
  ∀ c : Cx, c.OK X D n → ∀ (ρ : List Addr) (ex : List (Addr × Obj)) (σ : AS) (its : List (AS → Option AS)) (chk : AS → Bool) (σ' : AS) (s : Shared) (Q : Value → Shared → Prop) (E : Value → Shared → Prop),
    Rel X c D ρ ex σ s.heap → f σ = some ((its, chk), σ') →
    (∀ I s' ρ' exI St, ρ <+: ρ' → ItOK X c D target I ρ' s its chk St → St 0 exI s'.gens → chk σ' = true → Rel X c D ρ' (exI ++ ex) σ' s'.heap → Same s s' → Q (.ref I) s') →
    wpAny (model X.prog X.w) c.A (eval e c.env) (fun x s₁ => wpAny (model X.prog X.w) c.A (pyIter x) Q E s₁) E s

noncomputable def forL (chk : AS → Bool) (body orelse : AS → Option (AF × AS)) : List (AS → Option AS) → AS → Option (AF × AS)
  | [], σ => orelse σ
  | b :: r, σ => match b σ with
    | none => none
    | some σ₁ => match body σ₁ with
      | some (.next, σ₂) => if chk σ₂ = true then forL chk body orelse r σ₂ else none
      | some (.cont, σ₂) => if chk σ₂ = true then forL chk body orelse r σ₂ else none
      | some (.brk, σ₂) => some (.next, σ₂)
      | some (.ret v, σ₂) => some (.ret v, σ₂)
      | none => none
noncomputable def forA (fi : AS → Option ((List (AS → Option AS) × (AS → Bool)) × AS)) (body orelse : AS → Option (AF × AS)) (σ : AS) : Option (AF × AS) := match fi σ with
  | some ((its, chk), σ₁) => forL chk body orelse its σ₁
  | none => none

theorem drop_cons {α : Type} {l r : List α} {b : α} {i : Nat} (h : l.drop i = b :: r) : l[i]? = some b ∧ l.drop (i + 1) = r := by
  constructor
  · have := congrArg (·[0]?) h
    simpa using this
  · have := congrArg (List.drop 1) h
    simpa [List.drop_drop, Nat.add_comm] using this

theorem ex_for {target iter : Expr} {b o : List Stmt} {pos : Pos} {fi : AS → Option ((List (AS → Option AS) × (AS → Bool)) × AS)} {fb fo : AS → Option (AF × AS)} (hi : ITJ X n D target iter fi) (hb : EXSJ X n D b fb) (ho : EXSJ X n D o fo)
    (hs : ∀ env x, foldedSetIterable iter env x = pure x) : EXJ X n D (.For target iter b o pos) (forA fi fb fo) := by
  intro c ok ρ ex σ v σ' s Q E hR hf k
  delta forA at hf
  split at hf
  case h_2 => cases hf
  rename_i its chk σ₁ h1
  refine wpAny_For (hi c ok ρ ex σ its chk σ₁ s _ E hR h1 fun I s₁ ρ₁ exI St p₁ hit hst hchk R₁ S₁ => ?_) (hs _)
  refine codeAny_forLoop_any (fun m s' => ∃ (i : Nat) (ρ₂ : List Addr) (exI₂ : List (Addr × Obj)) (σ₂ : AS) (r : List (AS → Option AS)), its.drop i = r ∧ i ≤ its.length ∧ m = r.length ∧ St i exI₂ s'.gens ∧ ρ₁ <+: ρ₂ ∧ chk σ₂ = true ∧ forL chk fb fo r σ₂ = some (v, σ') ∧
    Rel X c D ρ₂ (exI₂ ++ ex) σ₂ s'.heap ∧ Same s s') ?_ its.length ⟨0, ρ₁, exI, σ₁, its, rfl, Nat.zero_le _, rfl, hst, List.prefix_refl _, hchk, hf, R₁, S₁⟩
  rintro m s' ⟨i, ρ₂, exI₂, σ₂, r, hr, hle, rfl, hst₂, p₂, hchk₂, hf₂, R₂, S₂⟩
  cases r with
  | nil =>
    have hi2 : i = its.length := by
      have := congrArg List.length hr; simp only [List.length_drop, List.length_nil] at this; omega
    subst hi2
    refine hit.done ρ₂ ex exI₂ σ₂ s' _ _ hst₂ p₂ hchk₂ R₂ S₂ fun s₃ R₃ S₃ => ?_
    refine ho c ok ρ₂ ex σ₂ v σ' s₃ _ _ R₃ hf₂ fun a s₄ ρ₄ p₄ e R₄ S₄ => ?_
    exact k a s₄ ρ₄ (p₁.trans (p₂.trans p₄)) e R₄ (S₃.trans S₄)
  | cons b r =>
    obtain ⟨hb0, hr'⟩ := drop_cons hr
    simp only [forL] at hf₂
    split at hf₂
    case h_1 => cases hf₂
    rename_i σ₃ h3
    refine hit.item i b ρ₂ ex exI₂ σ₂ σ₃ s' _ _ _ hb0 hst₂ p₂ hchk₂ h3 R₂ S₂ (fun v' s₁' z => z) fun s₃ exI₃ hst₃ R₃ S₃ => ?_
    have again : ∀ σ₄, fb σ₃ = some (.next, σ₄) ∨ fb σ₃ = some (.cont, σ₄) → chk σ₄ = true → forL chk fb fo r σ₄ = some (v, σ') → ∀ s₄ ρ₄, ρ₂ <+: ρ₄ → Rel X c D ρ₄ (exI₃ ++ ex) σ₄ s₄.heap → Same s₃ s₄ →
        ∃ m, m < (b :: r).length ∧ ∃ (i : Nat) (ρ₂ : List Addr) (exI₂ : List (Addr × Obj)) (σ₂ : AS) (r : List (AS → Option AS)), its.drop i = r ∧ i ≤ its.length ∧ m = r.length ∧ St i exI₂ s₄.gens ∧ ρ₁ <+: ρ₂ ∧ chk σ₂ = true ∧ forL chk fb fo r σ₂ = some (v, σ') ∧
          Rel X c D ρ₂ (exI₂ ++ ex) σ₂ s₄.heap ∧ Same s s₄ := fun σ₄ _ hc hl s₄ ρ₄ p₄ R₄ S₄ =>
      ⟨r.length, by simp, i + 1, ρ₄, exI₃, σ₄, r, hr', (List.getElem?_eq_some_iff.mp hb0).1, rfl, hit.stay _ _ _ _ hst₃ S₄, p₂.trans p₄, hc, hl, R₄, S₃.trans S₄⟩
    split at hf₂
    · rename_i σ₄ h4
      split at hf₂
      · rename_i hc
        refine hb c ok ρ₂ (exI₃ ++ ex) σ₃ _ σ₄ s₃ _ _ R₃ h4 fun a s₄ ρ₄ p₄ e R₄ S₄ => ?_
        cases e
        exact again σ₄ (.inl h4) hc hf₂ s₄ ρ₄ p₄ R₄ S₄
      · cases hf₂
    · rename_i σ₄ h4
      split at hf₂
      · rename_i hc
        refine hb c ok ρ₂ (exI₃ ++ ex) σ₃ _ σ₄ s₃ _ _ R₃ h4 fun a s₄ ρ₄ p₄ e R₄ S₄ => ?_
        cases e
        exact again σ₄ (.inr h4) hc hf₂ s₄ ρ₄ p₄ R₄ S₄
      · cases hf₂
    · rename_i σ₄ h4
      cases hf₂
      refine hb c ok ρ₂ (exI₃ ++ ex) σ₃ _ _ s₃ _ _ R₃ h4 fun a s₄ ρ₄ p₄ e R₄ S₄ => ?_
      cases e
      exact k _ s₄ ρ₄ (p₁.trans (p₂.trans p₄)) rfl R₄.exDrop (S₃.trans S₄)
    · rename_i w σ₄ h4
      cases hf₂
      refine hb c ok ρ₂ (exI₃ ++ ex) σ₃ _ _ s₃ _ _ R₃ h4 fun a s₄ ρ₄ p₄ e R₄ S₄ => ?_
      obtain ⟨w', rfl, hw⟩ := e
      exact k _ s₄ ρ₄ (p₁.trans (p₂.trans p₄)) ⟨w', rfl, hw⟩ R₄.exDrop (S₃.trans S₄)
    · cases hf₂
end Mine
-- part M11
namespace Mine
variable {X : Wd} {n : Nat} {D : FD}

theorem bind_name {c : Cx} (ok : c.OK X D n) {ρ : List Addr} {ex : List (Addr × Obj)} {σ σ' : AS} {s : Shared} {x : Str} {px : Pos} {I : Addr} {i : Var} {a : AV} {v : Value} {R : Shared → Prop} {E : Value → Shared → Prop}
    (hR : Rel X c D ρ ex σ s.heap) (hv : VRep ρ a v) (hnd : D.names.Nodup) (hx : VarOK D x i = true) (hs : stV i a σ = some σ') (k : ∀ s', Rel X c D ρ ex σ' s'.heap → Same s s' → R s') :
    wpAny (model X.prog X.w) c.A (letOwnedTupleGo (.Name x px) (.ref I) v) (fun _ s₁' => wpAny (model X.prog X.w) c.A (assign (.Name x px) c.env v) (fun _ s₂ => R s₂) E s₁') E s :=
  wpAny_of_eq (a := ()) rfl (wpAny_assign_Name (store_ok ok hR hv hnd hx hs k))

noncomputable def itA (v : Var) (fi : AS → Option ((List AV × (AS → Bool)) × AS)) (σ : AS) : Option ((List (AS → Option AS) × (AS → Bool)) × AS) := match fi σ with
  | some ((its, chk), σ₁) => some ((its.map (stV v), chk), σ₁)
  | none => none
theorem it_name {x : Str} {px : Pos} {e : Expr} {fi : AS → Option ((List AV × (AS → Bool)) × AS)} (v : Var) (h : RJ X n D e fi) (hnd : D.names.Nodup) (hx : VarOK D x v = true) : ITJ X n D (.Name x px) e (itA v fi) := by
  intro c ok ρ ex σ its chk σ' s Q E hR hf k
  delta itA at hf
  split at hf
  · rename_i its' chk' σ₁ h1
    cases hf
    refine h c ok ρ ex σ its' chk σ' s Q E hR h1 fun I s' ρ' exI St p₁ raw hst hc R₁ S₁ => k I s' ρ' exI (fun i e _ => St i e) p₁ ?_ hst hc R₁ S₁
    constructor
    · intro i b ρ ex' exI σ₂ σ₃ s₂ R Q' E' hb hst hp hc hbs R₂ S₂ hQ hk
      obtain ⟨w, hw, rfl⟩ : ∃ w, its'[i]? = some w ∧ stV v w = b := by
        rw [List.getElem?_map] at hb
        exact Option.map_eq_some_iff.mp hb
      refine raw.item i w ρ ex' exI σ₂ s₂ _ _ hw hst hp hc R₂ fun u s₃ exI' hu hst' R₃ S₃ => hQ _ _ ?_
      exact bind_name ok R₃ hu.of_nil hnd hx hbs fun s₄ R₄ S₄ => hk s₄ _ hst' R₄ (S₂.trans (S₃.trans S₄))
    · intro ρ ex' exI σ₂ s₂ Q' E' hst hp hc R₂ S₂ hk
      exact raw.done ρ ex' exI σ₂ s₂ Q' E' (by rw [List.length_map] at hst; exact hst) hp hc R₂ fun s' R' S' => hk s' R' (S₂.trans S')
    · exact fun _ _ _ _ h _ => h
  · cases hf

noncomputable def itListA (f : AS → Option (AV × AS)) (σ : AS) : Option ((List AV × (AS → Bool)) × AS) := match f σ with
  | some (.ref j, σ₁) => match getFlat σ₁ j with
    | some xs => some ((xs, fun σ => decide (getFlat σ j = some xs)), σ₁)
    | none => none
  | _ => none
theorem it_list {e : Expr} {f : AS → Option (AV × AS)} (he : EVJ X n D e f) : RJ X n D e (itListA f) := by
  intro c ok ρ ex σ its chk σ' s Q E hR hf k
  delta itListA at hf
  split at hf
  · rename_i j σ₁ h1
    split at hf
    · rename_i xs hxs
      cases hf
      refine he c ok ρ ex σ _ σ' s _ E hR h1 fun a s₁ ρ₁ p₁ v₁ R₁ S₁ => ?_
      obtain ⟨ax, e1, rfl⟩ := v₁
      obtain ⟨vs, z, g1, g2⟩ := R₁.listAt hxs e1
      refine wpAny_pyIter_list (isList_of g1) ?_
      refine k s₁.heap.objs.size _ ρ₁ [(s₁.heap.objs.size, { cls := .type "list_iterator", data := .fields #[.ref ax, .int 0 0] })]
        (fun i exI => ∃ o, exI = [(s₁.heap.objs.size, o)] ∧ o.cls = .type "list_iterator" ∧ o.data = .fields #[.ref ax, .int i 0]) p₁ ?_ ⟨_, rfl, rfl, rfl⟩ (by simp [hxs])
        (R₁.exNew (Nat.le_refl _) (fun _ _ e => Heap.get?_push_of_some _ e) (Heap.get?_push_size _ rfl)) (S₁.trans (.of rfl rfl))
      have sub : ∀ {o : Obj} {b : Addr}, b ∈ [s₁.heap.objs.size] → b ∈ ([(s₁.heap.objs.size, o)] : List (Addr × Obj)).map (·.1) := fun h => h
      constructor
      · intro i w ρ ex' exI σ₂ s₂ Q' E' hw hst hp hc R₂ hk
        obtain ⟨o, rfl, hcls, hdat⟩ := hst
        obtain ⟨ws, z', g1', g2'⟩ := R₂.listAt (decide_eq_true_eq.mp hc) (pre_get hp e1)
        obtain ⟨y, hy, hr⟩ := g2'.get hw
        have ho := R₂.exGet (p := (s₁.heap.objs.size, o)) (.head _)
        refine wpAny_pyNext_list_item (i := i) ⟨o, ho, hcls, hdat⟩ (isList_of g1') (by simpa using hy) fun h' hit' hs' => ?_
        obtain ⟨o', ho', hcls', hdat'⟩ := hit'
        have R₃ : Rel X c D ρ ([(s₁.heap.objs.size, o')] ++ ex') σ₂ h' := R₂.walk (exI' := [(s₁.heap.objs.size, o')]) (wr := [s₁.heap.objs.size]) (fun b hb => hb)
          (fun b ob hb e => hs'.extBut b ob (fun q => hb (q ▸ .head _)) e) rfl (fun p hp => by rw [List.mem_singleton.mp hp]; exact ho')
        exact hk _ _ _ hr ⟨o', rfl, hcls', hdat'⟩ R₃ (.of rfl rfl)
      · intro ρ ex' exI σ₂ s₂ Q' E' hst hp hc R₂ hk
        obtain ⟨o, rfl, hcls, hdat⟩ := hst
        obtain ⟨ws, z', g1', g2'⟩ := R₂.listAt (decide_eq_true_eq.mp hc) (pre_get hp e1)
        have ho := R₂.exGet (p := (s₁.heap.objs.size, o)) (.head _)
        have hlen := g2'.length
        refine wpAny_pyNext_list_end ok.handled ⟨o, ho, hcls, hdat⟩ (isList_of g1') (by simp [← hlen]) fun h' he => ?_
        exact hk _ (R₂.walkDrop (exI := [(s₁.heap.objs.size, o)]) (wr := [s₁.heap.objs.size]) (fun b hb => hb) fun b ob hb e => he b ob (fun q => hb (q ▸ .head _)) e) (.of rfl rfl)
      · intro i ρ ex' exI σ₂ s₂ Q' E' hst R₂ hQ
        obtain ⟨o, rfl, hcls, hdat⟩ := hst
        exact wpAny_pyIter_listiter ⟨o, R₂.exGet (p := (s₁.heap.objs.size, o)) (.head _), hcls, hdat⟩ hQ
    · cases hf
  · cases hf

noncomputable def rngOf : List AV → Option (Int × Int × Int)
  | [.int b] => some (0, b, 1)
  | [.int a, .int b] => some (a, b, 1)
  | [.int a, .int b, .int c] => if c = -1 then some (a, b, c) else none
  | _ => none
noncomputable def rngN (r : Int × Int × Int) : Nat := (Builtin.Range.rangeSize r.1 r.2.1 r.2.2).toNat
noncomputable def rngIts (r : Int × Int × Int) : List AV := (List.range (rngN r)).map fun (i : Nat) => .int (r.1 + (i : Int) * r.2.2)
noncomputable def itRangeA (fa : AS → Option (List AV × AS)) (σ : AS) : Option ((List AV × (AS → Bool)) × AS) := match fa σ with
  | some (as, σ₁) => match rngOf as with
    | some r => if Builtin.Range.small r.1 r.2.1 r.2.2 = true ∧ 0 ≤ Builtin.Range.rangeSize r.1 r.2.1 r.2.2 then some ((rngIts r, fun _ => true), σ₁) else none
    | none => none
  | none => none
theorem call_rng {A : Around} {s : Shared} {Q E : Value → Shared → Prop} {ρ : List Addr} {as : List AV} {vs : List Value} {r : Int × Int × Int} (ha : All2 (VRep ρ) as vs) (hr : rngOf as = some r)
    (k : ∀ h' tk a t u v, IsRange h' a r.1 r.2.1 r.2.2 t u v → (∀ b o, s.heap.get? b = some o → h'.get? b = some o) → Q (.ref a) { s with heap := h', toks := tk }) : wpAny (model X.prog X.w) A (call (.type "range") vs) Q E s := by
  delta rngOf at hr
  split at hr
  · cases hr
    obtain ⟨_, rfl, ⟨t, e⟩⟩ := a2_1 ha
    subst e
    exact call_range_1 (k _ _ _ _ _ _ (IsRange.new ..) fun _ _ e => Heap.get?_push_of_some _ e)
  · cases hr
    obtain ⟨_, _, rfl, ⟨t, e⟩, ⟨u, e'⟩⟩ := a2_2 ha
    subst e; subst e'
    exact call_range_2 (k _ _ _ _ _ _ (IsRange.new ..) fun _ _ e => Heap.get?_push_of_some _ e)
  · split at hr
    · rename_i hc
      cases hr
      obtain ⟨_, _, _, rfl, ⟨t, e⟩, ⟨u, e'⟩, ⟨w, e3⟩⟩ := a2_3 ha
      subst e; subst e'; subst e3; subst hc
      exact call_range_3 (by decide) (k _ _ _ _ _ _ (IsRange.new ..) fun _ _ e => Heap.get?_push_of_some _ e) (.inl (PyProof.noPylong_small (by omega)))
    · cases hr
  · cases hr

theorem it_range {func : Expr} {es : List Expr} {pos : Pos} {fa : AS → Option (List AV × AS)} (hf : NmJ X D func (.type "range")) (ha : ARJ X n D es fa)
    (hp : ∀ env, Plainly pos es env)
    (he : ∀ env, eval (.Call func es [] pos) env = (do callWith pos (← eval func env) [] (backTo pos (starEach es env)) (backToKw pos (keywordEach [] env)))) : RJ X n D (.Call func es [] pos) (itRangeA fa) := by
  intro c ok ρ ex σ its chk σ' s Q E hR hf' k
  delta itRangeA at hf'
  split at hf'
  · rename_i as σ₁ h1
    split at hf'
    · rename_i r hr
      split at hf'
      · rename_i hc
        cases hf'
        refine Call_ (hf n c ok ρ ex σ s _ E hR ?_) (he _)
        refine callWith_any ok (.inr (.inl ⟨_, rfl⟩)) (hp _) (ha c ok pos ρ ex σ as σ' s _ E hR h1 fun vs s₁ ρ₁ p₁ v₁ R₁ S₁ => ⟨R₁.keep, ?_⟩)
        refine call_rng v₁ hr fun h' tk a t u w hir hk => ?_
        refine wpAny_pyIter_range hir hc.1 ?_
        have R₁' := R₁.keeps hk
        have hsz : Builtin.Range.rangeSize r.1 r.2.1 r.2.2 = (rngN r : Int) := by delta rngN; rw [Int.toNat_of_nonneg hc.2]
        have hlen : (rngIts r).length = rngN r := by simp [rngIts]
        refine k h'.objs.size _ ρ₁ [(h'.objs.size, { cls := .type "range_iterator", data := .fields #[rawInt r.1, rawInt (Builtin.Range.rangeSize r.1 r.2.1 r.2.2), rawInt r.2.2] })]
          (fun i exI => exI = [(h'.objs.size, { cls := .type "range_iterator", data := .fields #[rawInt (r.1 + (i : Int) * r.2.2), rawInt ((rngN r : Int) - (i : Int)), rawInt r.2.2] })]) p₁ ?_ (by rw [hsz]; simp) rfl
          (R₁'.exNew (Nat.le_refl _) (fun _ _ e => Heap.get?_push_of_some _ e) (Heap.get?_push_size _ rfl)) (S₁.trans (.of rfl rfl))
        constructor
        · intro i b ρ ex' exI σ₂ s₂ Q' E' hb hst hp hc' R₂ hk'
          subst hst
          obtain ⟨hi, rfl⟩ : i < rngN r ∧ AV.int (r.1 + (i : Int) * r.2.2) = b := by
            delta rngIts at hb
            rw [List.getElem?_map] at hb
            obtain ⟨j, hj, e⟩ := Option.map_eq_some_iff.mp hb
            obtain ⟨hj1, hj2⟩ := List.getElem?_eq_some_iff.mp hj
            simp only [List.length_range] at hj1
            simp only [List.getElem_range] at hj2
            subst hj2
            exact ⟨hj1, e⟩
          have ho := R₂.exGet (p := (h'.objs.size, _)) (.head _)
          refine wpAny_pyNext_range_item ho (by omega) fun h₂ hit' hs' => ?_
          have e1 : r.1 + (i : Int) * r.2.2 + r.2.2 = r.1 + ((i + 1 : Nat) : Int) * r.2.2 := by rw [Int.natCast_add, Int.add_mul]; simp [Int.add_assoc]
          have e2 : (rngN r : Int) - (i : Int) - 1 = (rngN r : Int) - ((i + 1 : Nat) : Int) := by omega
          rw [e1, e2] at hit'
          have R₃ := R₂.walk (exI' := [(h'.objs.size, { cls := .type "range_iterator", data := .fields #[rawInt (r.1 + ((i + 1 : Nat) : Int) * r.2.2), rawInt ((rngN r : Int) - ((i + 1 : Nat) : Int)), rawInt r.2.2] })]) (wr := [h'.objs.size]) (h' := h₂) (fun b hb => hb)
            (fun b ob hb e => hs'.extBut b ob (fun q => hb (q ▸ .head _)) e) rfl (fun p hp => by rw [List.mem_singleton.mp hp]; exact hit')
          exact hk' _ _ _ ⟨_, rfl⟩ rfl R₃ (.of rfl rfl)
        · intro ρ ex' exI σ₂ s₂ Q' E' hst hp hc' R₂ hk'
          subst hst
          have ho := R₂.exGet (p := (h'.objs.size, _)) (.head _)
          refine wpAny_pyNext_range_end ok.handled ho (by rw [hlen]; omega) fun h₂ he' => ?_
          exact hk' _ (R₂.walkDrop (wr := [h'.objs.size]) (fun b hb => hb) fun b ob hb e => he' b ob (fun q => hb (q ▸ .head _)) e) (.of rfl rfl)
        · intro i ρ ex' exI σ₂ s₂ Q' E' hst R₂ hQ
          subst hst
          exact wpAny_pyIter_rangeiter (R₂.exGet (p := (h'.objs.size, _)) (.head _)) hQ
      · cases hf'
    · cases hf'
  · cases hf'

noncomputable def itTupA (fa : AS → Option (List AV × AS)) (σ : AS) : Option ((List AV × (AS → Bool)) × AS) := match fa σ with
  | some (as, σ₁) => if as.all plainV = true ∧ as.length ≤ 100000 then some ((as, fun _ => true), σ₁) else none
  | none => none
theorem it_tuple {es : List Expr} {q : Nat} {pos : Pos} {fa : AS → Option (List AV × AS)} (ha : ARJ X n D es fa) : RJ X n D (.Tuple es q pos) (itTupA fa) := by
  intro c ok ρ ex σ its chk σ' s Q E hR hf k
  delta itTupA at hf
  split at hf
  · rename_i its₀ σ₁ h1
    split at hf
    · rename_i hc
      cases hf
      refine wpAny_Tuple (ha c ok pos ρ ex σ its σ' s _ E hR h1 fun vs s₁ ρ₁ p₁ v₁ R₁ S₁ => ⟨big_line (by rw [← v₁.length]; exact hc.2), ?_⟩)
      have vp := plain_all v₁ hc.1
      have hlen := v₁.length
      refine wpAny_pyIter_tuple (items := vs.toArray) ⟨_, Heap.get?_push_size _ rfl, rfl, 0, rfl⟩ ?_
      have RT : Rel X c D ρ₁ ((s₁.heap.objs.size, { cls := .type "tuple", data := .seq vs.toArray }) :: ex) σ' (s₁.heap.push { cls := .type "tuple", data := .seq vs.toArray }) :=
        R₁.exNew (Nat.le_refl _) (fun _ _ e => Heap.get?_push_of_some _ e) (Heap.get?_push_size _ rfl)
      generalize hH : s₁.heap.push { cls := .type "tuple", data := .seq vs.toArray } = H at RT
      have RI := RT.exNew (h' := H.push { cls := .type "tuple_iterator", data := .fields #[.ref s₁.heap.objs.size, .int 0 0] }) (Nat.le_refl _) (fun _ _ e => Heap.get?_push_of_some _ e) (Heap.get?_push_size _ rfl)
      have hne : s₁.heap.objs.size ≠ H.objs.size := by rw [← hH, Heap.size_push]; exact Nat.ne_of_lt (Nat.lt_succ_self _)
      refine k H.objs.size _ ρ₁ [(H.objs.size, _), (s₁.heap.objs.size, { cls := .type "tuple", data := .seq vs.toArray })]
        (fun i exI => ∃ o, exI = [(H.objs.size, o), (s₁.heap.objs.size, { cls := .type "tuple", data := .seq vs.toArray })] ∧ o.cls = .type "tuple_iterator" ∧ o.data = .fields #[.ref s₁.heap.objs.size, .int i 0]) p₁ ?_ ⟨_, rfl, rfl, rfl⟩ rfl RI (S₁.trans (.of rfl rfl))
      constructor
      · intro i w ρ ex' exI σ₂ s₂ Q' E' hw hst hp hc' R₂ hk'
        obtain ⟨o, rfl, hcls, hdat⟩ := hst
        obtain ⟨y, hy, hr⟩ := vp.get hw
        have ho := R₂.exGet (p := (H.objs.size, o)) (.head _)
        have hT := R₂.exGet (p := (s₁.heap.objs.size, { cls := .type "tuple", data := .seq vs.toArray })) (.tail _ (.head _))
        refine wpAny_pyNext_tuple_item (i := i) ⟨o, ho, hcls, hdat⟩ ⟨_, hT, rfl, 0, rfl⟩ (by simpa using hy) fun h' hit' hs' => ?_
        obtain ⟨o', ho', hcls', hdat'⟩ := hit'
        have R₃ := R₂.walk (exI' := [(H.objs.size, o'), (s₁.heap.objs.size, { cls := .type "tuple", data := .seq vs.toArray })]) (wr := [H.objs.size]) (h' := h') (fun b hb => by rw [List.mem_singleton.mp hb]; exact .head _)
          (fun b ob hb e => hs'.extBut b ob (fun q => hb (q ▸ .head _)) e) rfl (fun p hp => by
            rcases List.mem_cons.mp hp with rfl | hp
            · exact ho'
            · rw [List.mem_singleton.mp hp]; exact hs'.extBut _ _ hne hT)
        exact hk' _ _ _ hr ⟨o', rfl, hcls', hdat'⟩ R₃ (.of rfl rfl)
      · intro ρ ex' exI σ₂ s₂ Q' E' hst hp hc' R₂ hk'
        obtain ⟨o, rfl, hcls, hdat⟩ := hst
        have ho := R₂.exGet (p := (H.objs.size, o)) (.head _)
        have hT := R₂.exGet (p := (s₁.heap.objs.size, { cls := .type "tuple", data := .seq vs.toArray })) (.tail _ (.head _))
        refine wpAny_pyNext_tuple_end ok.handled ⟨o, ho, hcls, hdat⟩ ⟨_, hT, rfl, 0, rfl⟩ (by simp [← hlen]) fun h' he => ?_
        exact hk' _ (R₂.walkDrop (wr := [H.objs.size]) (fun b hb => by rw [List.mem_singleton.mp hb]; exact .head _) fun b ob hb e => he b ob (fun q => hb (q ▸ .head _)) e) (.of rfl rfl)
      · intro i ρ ex' exI σ₂ s₂ Q' E' hst R₂ hQ
        obtain ⟨o, rfl, hcls, hdat⟩ := hst
        exact wpAny_pyIter_tupleiter ⟨o, R₂.exGet (p := (H.objs.size, o)) (.head _), hcls, hdat⟩ hQ
    · cases hf
  · cases hf
end Mine
-- part M12
namespace Mine
variable {X : Wd} {n : Nat} {D : FD}

theorem All2.of_idx {α β : Type} {R : α → β → Prop} : ∀ {xs : List α} {ys : List β}, xs.length = ys.length → (∀ (i : Nat) (x : α) (y : β), xs[i]? = some x → ys[i]? = some y → R x y) → All2 R xs ys
  | [], [], _, _ => trivial
  | x :: xs, y :: ys, hl, h => ⟨h 0 x y rfl rfl, All2.of_idx (by simpa using hl) fun i x y h1 h2 => h (i + 1) x y (by simpa using h1) (by simpa using h2)⟩
  | [], _ :: _, hl, _ => by simp at hl
  | _ :: _, [], hl, _ => by simp at hl
theorem All2.idx {α β : Type} {R : α → β → Prop} {xs : List α} {ys : List β} (h : All2 R xs ys) {i : Nat} {x : α} {y : β} (h1 : xs[i]? = some x) (h2 : ys[i]? = some y) : R x y := by
  obtain ⟨y', e, r⟩ := h.get h1
  rw [h2] at e; cases e; exact r

noncomputable def selOf : List AV → List Nat
  | [] => []
  | .ref i :: r => i :: selOf r
  | _ :: r => selOf r
noncomputable def renum (sel : List Nat) : AV → AV
  | .ref i => .ref (sel.idxOf i)
  | a => a
noncomputable def movable : AO → Bool
  | .flat _ => true
  | .dict _ => true
  | _ => false
noncomputable def pick {α : Type} (l : List α) (sel : List Nat) : List α := sel.filterMap fun i => l[i]?
noncomputable def mergeO {α : Type} (sel : List Nat) (new old : List α) : List α := old.mapIdx fun i o => match (new.take sel.length)[sel.idxOf i]? with
  | some o' => o'
  | none => o

theorem pick_get {α : Type} {l : List α} : ∀ {sel : List Nat}, (∀ i ∈ sel, i < l.length) → ∀ (j i : Nat), sel[j]? = some i → (pick l sel)[j]? = l[i]?
  | [], _, _, _, h => by simp at h
  | k :: sel, hl, j, i, h => by
    have hk := hl k (.head _)
    have e : pick l (k :: sel) = l[k] :: pick l sel := by delta pick; rw [List.filterMap_cons, List.getElem?_eq_getElem hk]
    rw [e]
    cases j with
    | zero => simp only [List.getElem?_cons_zero, Option.some.injEq] at h ⊢; subst h; simp [hk]
    | succ j => rw [List.getElem?_cons_succ] at h ⊢; exact pick_get (fun i hi => hl i (.tail _ hi)) j i h
theorem pick_len {α : Type} {l : List α} : ∀ {sel : List Nat}, (∀ i ∈ sel, i < l.length) → (pick l sel).length = sel.length
  | [], _ => rfl
  | k :: sel, hl => by
    have hk := hl k (.head _)
    have e : pick l (k :: sel) = l[k] :: pick l sel := by delta pick; rw [List.filterMap_cons, List.getElem?_eq_getElem hk]
    rw [e, List.length_cons, List.length_cons, pick_len fun i hi => hl i (.tail _ hi)]
theorem merge_get {α : Type} {sel : List Nat} {new old : List α} {i : Nat} : (mergeO sel new old)[i]? = old[i]?.map fun o => match (new.take sel.length)[sel.idxOf i]? with | some o' => o' | none => o := by
  delta mergeO; rw [List.getElem?_mapIdx]

theorem selOf_rep {ρ : List Addr} {sel : List Nat} (hb : ∀ i ∈ sel, i < ρ.length) : ∀ {as : List AV} {vs : List Value}, (∀ i ∈ selOf as, i ∈ sel) → All2 (VRep ρ) as vs → All2 (VRep (pick ρ sel)) (as.map (renum sel)) vs
  | [], [], _, _ => trivial
  | a :: as, v :: vs, hs, ⟨h1, h2⟩ => by
    cases a with
    | ref i =>
      obtain ⟨ad, e, rfl⟩ := h1
      have hi : i ∈ sel := hs i (.head _)
      refine ⟨⟨ad, ?_, rfl⟩, selOf_rep hb (fun j hj => hs j (.tail _ hj)) h2⟩
      have hlt := List.idxOf_lt_length_of_mem hi
      rw [pick_get hb _ i (by rw [List.getElem?_eq_getElem hlt]; simp)]
      exact e
    | none => exact ⟨h1, selOf_rep hb hs h2⟩
    | bool _ => exact ⟨h1, selOf_rep hb hs h2⟩
    | int _ => exact ⟨h1, selOf_rep hb hs h2⟩
    | str _ => exact ⟨h1, selOf_rep hb hs h2⟩
    | adr _ => exact ⟨h1, selOf_rep hb hs h2⟩
  | [], _ :: _, _, h => h.elim
  | _ :: _, [], _, h => h.elim

theorem ORep.move {ρ ρ' : List Addr} {x : AO} {o : Obj} (h : ORep X ρ x o) (hm : movable x = true) : ORep X ρ' x o := by
  cases x with
  | flat _ => exact h
  | dict _ => exact h
  | refs _ => cases hm
  | cell _ => cases hm

theorem Core.select {h₀ : Heap} {L : Addr} {names : List Str} {ρ : List Addr} {ex : List (Addr × Obj)} {σ : AS} {h : Heap} (r : Core X h₀ L names ρ ex σ h) {sel : List Nat} (hb : ∀ i ∈ sel, i < σ.objs.length) (hd : sel.Nodup)
    (hm : (pick σ.objs sel).all movable = true) : ∃ m os, Fr h₀ L h m ∧ News h₀ L h (ρ.zip os ++ ex) ∧ All2 (ORep X ρ) σ.objs os ∧ ρ.length = os.length ∧ (ρ ++ ex.map (·.1)).Nodup ∧ Loc names ρ σ.loc m ∧
      All2 (fun x o => ∀ ρ', ORep X ρ' x o) (pick σ.objs sel) (pick os sel) ∧ (pick ρ sel).Nodup ∧
      (∀ p ∈ (pick ρ sel).zip (pick os sel), p ∈ ρ.zip os) ∧ (pick ρ sel).length = (pick os sel).length := by
  obtain ⟨m, os, F, N, O, hl, nd, lc⟩ := r.all
  have hbo : ∀ i ∈ sel, i < os.length := fun i hi => by rw [← O.length]; exact hb i hi
  have hbr : ∀ i ∈ sel, i < ρ.length := fun i hi => by rw [hl]; exact hbo i hi
  refine ⟨m, os, F, N, O, hl, nd, lc, ?_, ?_, ?_, ?_⟩
  · refine All2.of_idx (by rw [pick_len hb, pick_len hbo]) fun j x o h1 h2 ρ' => ?_
    have hj : j < sel.length := by rw [← pick_len hb]; exact (List.getElem?_eq_some_iff.mp h1).1
    have hs : sel[j]? = some sel[j] := List.getElem?_eq_getElem hj
    have hx := h1
    rw [pick_get hb j _ hs] at h1
    rw [pick_get hbo j _ hs] at h2
    exact (O.idx h1 h2).move (List.all_eq_true.mp hm x (List.mem_of_getElem? hx))
  · refine List.pairwise_iff_getElem.mpr fun i j hi hj hij e => ?_
    have hi' : i < sel.length := by rw [← pick_len hbr]; exact hi
    have hj' : j < sel.length := by rw [← pick_len hbr]; exact hj
    have e1 := pick_get hbr i _ (List.getElem?_eq_getElem hi')
    have e2 := pick_get hbr j _ (List.getElem?_eq_getElem hj')
    rw [List.getElem?_eq_getElem hi] at e1
    rw [List.getElem?_eq_getElem hj] at e2
    rw [e, e2] at e1
    have hs := (List.getElem?_inj (hbr _ (List.getElem_mem hj')) (List.nodup_append.mp nd).1).mp e1
    have := (List.getElem_inj hd).mp hs
    omega
  · intro p hp
    obtain ⟨j, hj⟩ := List.getElem?_of_mem hp
    rw [List.getElem?_zip_eq_some] at hj
    have hj' : j < sel.length := by rw [← pick_len hbr]; exact (List.getElem?_eq_some_iff.mp hj.1).1
    have hs : sel[j]? = some sel[j] := List.getElem?_eq_getElem hj'
    rw [pick_get hbr j _ hs, pick_get hbo j _ hs] at hj
    exact zip_get hj.1 hj.2
  · rw [pick_len hbr, pick_len hbo]

theorem Core.rejoin {h₀ : Heap} {L : Addr} {names : List Str} {ρ : List Addr} {ex : List (Addr × Obj)} {σ : AS} {h h' : Heap} (r : Core X h₀ L names ρ ex σ h) {sel : List Nat} (hb : ∀ i ∈ sel, i < σ.objs.length)
    {m : Str → Option Value} {os : List Obj} (O : All2 (ORep X ρ) σ.objs os) (hl : ρ.length = os.length) (nd : (ρ ++ ex.map (·.1)).Nodup) (lc : Loc names ρ σ.loc m)
    {ρ' : List Addr} {os' : List Obj} {objs' : List AO} (F' : Fr h₀ L h' m) (N' : News h₀ L h' (ρ'.zip os' ++ ((ρ.zip os).filter (fun p => !(pick ρ sel).contains p.1) ++ ex)))
    (hp : pick ρ sel <+: ρ') (O' : All2 (ORep X ρ') objs' os') (hl' : ρ'.length = os'.length) (hm : (objs'.take sel.length).all movable = true) : Core X h₀ L names ρ ex { σ with objs := mergeO sel objs' σ.objs } h' := by
  have hbo : ∀ i ∈ sel, i < os.length := fun i hi => by rw [← O.length]; exact hb i hi
  have hbr : ∀ i ∈ sel, i < ρ.length := fun i hi => by rw [hl]; exact hbo i hi
  have hlen' : sel.length ≤ os'.length := by
    rw [← hl', ← pick_len hbr]; exact hp.length_le
  have lo : objs'.length = os'.length := O'.length
  refine ⟨⟨m, mergeO sel os' os, F', fun p hp' => ?_, ?_, by simp [mergeO, hl], nd, lc⟩, r.big, r.low⟩
  · rcases List.mem_append.mp hp' with hp' | hp'
    · obtain ⟨i, hi⟩ := List.getElem?_of_mem hp'
      rw [List.getElem?_zip_eq_some, merge_get] at hi
      obtain ⟨h1, h2⟩ := hi
      obtain ⟨o, ho, h3⟩ := Option.map_eq_some_iff.mp h2
      by_cases hs : i ∈ sel
      · have hlt := List.idxOf_lt_length_of_mem hs
        have e1 : (os'.take sel.length)[sel.idxOf i]? = some os'[sel.idxOf i] := by
          rw [List.getElem?_take_of_lt hlt, List.getElem?_eq_getElem (by omega)]
        rw [e1] at h3
        have h3' : os'[sel.idxOf i] = p.2 := h3
        refine N' p (List.mem_append_left _ ?_)
        have h4 : ρ'[sel.idxOf i]? = some p.1 := by
          have := pick_get hbr (sel.idxOf i) i (by rw [List.getElem?_eq_getElem hlt]; simp)
          rw [h1] at this
          exact pre_get hp this
        have := zip_get (os := os') h4 (List.getElem?_eq_getElem (by omega))
        rw [h3'] at this; exact this
      · have e1 : (os'.take sel.length)[sel.idxOf i]? = none := by
          rw [List.idxOf_eq_length hs]
          exact List.getElem?_eq_none (by simp; omega)
        rw [e1] at h3
        have h3' : o = p.2 := h3
        subst h3'
        refine N' p (List.mem_append_right _ (List.mem_append_left _ (List.mem_filter.mpr ⟨zip_get h1 ho, ?_⟩)))
        simp only [Bool.not_eq_true', List.contains_eq_mem, decide_eq_false_iff_not]
        intro hmem
        obtain ⟨j, hj⟩ := List.getElem?_of_mem hmem
        have hj' : j < sel.length := by rw [← pick_len hbr]; exact (List.getElem?_eq_some_iff.mp hj).1
        rw [pick_get hbr j _ (List.getElem?_eq_getElem hj')] at hj
        have := (List.getElem?_inj (List.getElem?_eq_some_iff.mp h1).1 (List.nodup_append.mp nd).1).mp (h1.trans hj.symm)
        exact hs (this ▸ List.getElem_mem hj')
    · exact N' p (List.mem_append_right _ (List.mem_append_right _ hp'))
  · refine All2.of_idx (by simp [mergeO, O.length]) fun i x o h1 h2 => ?_
    rw [merge_get] at h1 h2
    obtain ⟨x₀, hx, h1⟩ := Option.map_eq_some_iff.mp h1
    obtain ⟨o₀, ho, h2⟩ := Option.map_eq_some_iff.mp h2
    by_cases hs : i ∈ sel
    · have hlt := List.idxOf_lt_length_of_mem hs
      have e1 : (os'.take sel.length)[sel.idxOf i]? = some os'[sel.idxOf i] := by
        rw [List.getElem?_take_of_lt hlt, List.getElem?_eq_getElem (by omega)]
      have e2 : (objs'.take sel.length)[sel.idxOf i]? = some objs'[sel.idxOf i] := by
        rw [List.getElem?_take_of_lt hlt, List.getElem?_eq_getElem (by omega)]
      rw [e2] at h1; rw [e1] at h2
      have h1' : objs'[sel.idxOf i] = x := h1
      have h2' : os'[sel.idxOf i] = o := h2
      rw [← h1', ← h2']
      have := O'.idx (i := sel.idxOf i) (List.getElem?_eq_getElem (by omega)) (List.getElem?_eq_getElem (by omega))
      exact this.move (List.all_eq_true.mp hm _ (List.mem_of_getElem? e2))
    · have e1 : (os'.take sel.length)[sel.idxOf i]? = none := by
        rw [List.idxOf_eq_length hs]; exact List.getElem?_eq_none (by simp; omega)
      have e2 : (objs'.take sel.length)[sel.idxOf i]? = none := by
        rw [List.idxOf_eq_length hs]; exact List.getElem?_eq_none (by simp; omega)
      rw [e2] at h1; rw [e1] at h2
      have h1' : x₀ = x := h1
      have h2' : o₀ = o := h2
      rw [← h1', ← h2']
      exact O.idx hx ho
end Mine
-- part M13
namespace Mine
variable {X : Wd} {n : Nat} {D : FD}

noncomputable def retG (sel : List Nat) (σ : AS) (v : AV) (σc : AS) : Option (AV × AS) :=
  if (σc.objs.take sel.length).all movable = true then
    match v with
    | .ref j => match σc.objs[j]? with
      | some (.flat xs) => if sel.length ≤ j then some (.ref σ.objs.length, { σ with objs := mergeO sel σc.objs σ.objs ++ [.flat xs] }) else none
      | _ => none
    | v => some (v, { σ with objs := mergeO sel σc.objs σ.objs })
  else none
noncomputable def cellNames (cs : Scope) : List Str := (cellsFrom 0 cs.names []).map (·.1)
noncomputable def iniA (ps : List Str) (cs : Scope) (names : List Str) (as : List AV) (objs : List AO) : AS :=
  ⟨names.map fun x => (ps.zip as).lookup x, none, objs ++ (cellNames cs).map fun x => .cell ((ps.zip as).lookup x)⟩
noncomputable def iniB (slots cslots : List (Option Nat)) (as : List AV) (objs : List AO) : AS :=
  ⟨slots.map fun o => o.bind fun i => as[i]?, none, objs ++ cslots.map fun o => .cell (o.bind fun i => as[i]?)⟩
noncomputable def slotsOf (ps xs : List Str) : List (Option Nat) := xs.map fun x => ps.findIdx? (fun y => x == y)
theorem lookup_idx {x : Str} : ∀ (ps : List Str) (as : List AV), as.length = ps.length → (ps.zip as).lookup x = (ps.findIdx? (fun y => x == y)).bind fun i => as[i]?
  | [], [], _ => rfl
  | p :: ps, a :: as, h => by
    rw [List.zip_cons_cons, List.lookup_cons, List.findIdx?_cons]
    cases e : x == p with
    | true => simp
    | false =>
      simp only [Bool.false_eq_true, if_false]
      rw [lookup_idx ps as (by simpa using h)]
      cases ps.findIdx? (fun y => x == y) <;> simp
  | [], _ :: _, h => by simp at h
  | _ :: _, [], h => by simp at h
theorem iniA_eq {ps names : List Str} {cs : Scope} {as : List AV} {objs : List AO} (h : as.length = ps.length) : iniA ps cs names as objs = iniB (slotsOf ps names) (slotsOf ps (cellNames cs)) as objs := by
  delta iniA iniB slotsOf
  congr 1
  · rw [List.map_map]
    exact List.map_congr_left fun x _ => lookup_idx ps as h
  · congr 1
    rw [List.map_map]
    exact List.map_congr_left fun x _ => by simp only [Function.comp]; rw [lookup_idx ps as h]

noncomputable def defG (np nref : Nat) (slots cslots : List (Option Nat)) (fb : AS → Option (AF × AS)) (as : List AV) (σ : AS) : Option (AV × AS) :=
  if as.length = np ∧ (selOf as).length = nref ∧ (∀ i ∈ selOf as, i < σ.objs.length) ∧ (selOf as).Nodup ∧ (pick σ.objs (selOf as)).all movable = true then
    match fb (iniB slots cslots (as.map (renum (selOf as))) (pick σ.objs (selOf as))) with
    | some (.next, σc) => retG (selOf as) σ .none σc
    | some (.ret v, σc) => retG (selOf as) σ v σc
    | _ => none
  else none

theorem bindL_get {K : Str → Option NameKind} {x : Str} (hx : K x = some .local) : ∀ {binds : List (Str × Value)} {m : Str → Option Value}, (binds.map (·.1)).Nodup → bindL K binds m x = (binds.lookup x).or (m x)
  | [], m, _ => rfl
  | (y, v) :: r, m, hn => by
    rw [bindL, bindL_get hx (List.nodup_cons.mp hn).2, List.lookup_cons]
    by_cases e : x = y
    · subst e
      have : r.lookup x = none := by
        rw [List.lookup_eq_none_iff]; intro p hp
        simp only [bne_iff_ne, ne_eq]
        intro q
        exact (List.nodup_cons.mp hn).1 (by have z := List.mem_map_of_mem (f := (·.1)) hp; rw [← q] at z; exact z)
      simp [this, hx]
    · have e' : (x == y) = false := by simpa using e
      rw [e']
      split
      · simp [e]
      · rfl
theorem bindC_get {K : Str → Option NameKind} {x : Str} (hx : K x ≠ some .local) : ∀ {binds : List (Str × Value)} {m : Str → Option Value}, (binds.map (·.1)).Nodup → bindC K binds m x = (binds.lookup x).or (m x)
  | [], m, _ => rfl
  | (y, v) :: r, m, hn => by
    rw [bindC, bindC_get hx (List.nodup_cons.mp hn).2, List.lookup_cons]
    by_cases e : x = y
    · subst e
      have : r.lookup x = none := by
        rw [List.lookup_eq_none_iff]; intro p hp
        simp only [bne_iff_ne, ne_eq]
        intro q
        exact (List.nodup_cons.mp hn).1 (by have z := List.mem_map_of_mem (f := (·.1)) hp; rw [← q] at z; exact z)
      simp [this, hx]
    · have e' : (x == y) = false := by simpa using e
      rw [e']
      split
      · rfl
      · simp [e]
theorem lookup_rep {ρ : List Addr} {x : Str} : ∀ {ps : List Str} {as : List AV} {vs : List Value} {a : AV}, All2 (VRep ρ) as vs → (ps.zip as).lookup x = some a → ∃ v, (ps.zip vs).lookup x = some v ∧ VRep ρ a v
  | [], _, _, _, _, h => by simp at h
  | p :: ps, [], _, _, _, h => by simp at h
  | p :: ps, a :: as, [], _, h, _ => h.elim
  | p :: ps, a :: as, v :: vs, b, ⟨h1, h2⟩, h => by
    rw [List.zip_cons_cons, List.lookup_cons] at h ⊢
    cases e : x == p with
    | true => rw [e] at h; cases h; exact ⟨v, rfl, h1⟩
    | false => rw [e] at h; exact lookup_rep h2 h

theorem cellsFrom_map (f : Nat → Nat) : ∀ (names : List (Str × NameKind)) (n n' : Nat) (acc acc' : List (Str × Addr)), acc.map (·.1) = acc'.map (·.1) → (cellsFrom n names acc).map (·.1) = (cellsFrom n' names acc').map (·.1)
  | [], _, _, _, _, h => h
  | (y, k) :: r, n, n', acc, acc', h => by
    unfold cellsFrom
    split
    · exact cellsFrom_map f r _ _ _ _ (by simp [h])
    · exact cellsFrom_map f r _ _ _ _ h
theorem cellsFrom_addr : ∀ (names : List (Str × NameKind)) (n lo : Nat) (acc : List (Str × Addr)), lo ≤ n → (∀ p ∈ acc, lo ≤ p.2 ∧ p.2 < n) → (acc.map (·.2)).Nodup → ((cellsFrom n names acc).map (·.2)).Nodup ∧ ∀ p ∈ cellsFrom n names acc, lo ≤ p.2
  | [], _, _, _, _, h, hn => ⟨hn, fun p hp => (h p hp).1⟩
  | (y, k) :: r, n, lo, acc, hlo, h, hn => by
    unfold cellsFrom
    split
    · refine cellsFrom_addr r (n + 1) lo _ (by omega) (fun p hp => ?_) ?_
      · rcases List.mem_cons.mp hp with rfl | hp
        · exact ⟨hlo, Nat.lt_succ_self _⟩
        · exact ⟨(h p hp).1, Nat.lt_succ_of_lt (h p hp).2⟩
      · rw [List.map_cons, List.nodup_cons]
        refine ⟨fun hm => ?_, hn⟩
        obtain ⟨p, hp, e⟩ := List.mem_map.mp hm
        exact absurd (e ▸ (h p hp).2) (Nat.lt_irrefl _)
    · exact cellsFrom_addr r n lo acc hlo h hn
theorem cells_fst {cm : Str → Option Value} {cs : List (Str × Addr)} {cells : List (Addr × Obj)} (h : CellsAre cm cs cells) : cells.map (·.1) = cs.map (·.2) := by
  induction h with
  | nil => rfl
  | cons _ _ ih => rw [List.map_cons, List.map_cons, ih]
theorem cells_rep {ρ : List Addr} {cm : Str → Option Value} {f : Str → Option AV} {cs : List (Str × Addr)} {cells : List (Addr × Obj)} (h : CellsAre cm cs cells) (hr : ∀ p ∈ cs, CRep ρ (f p.1) (cm p.1)) :
    All2 (ORep X ρ) (cs.map fun p => AO.cell (f p.1)) (cells.map (·.2)) := by
  induction h with
  | nil => trivial
  | cons hd _ ih => exact ⟨⟨_, hd, hr _ (.head _)⟩, ih fun p hp => hr p (.tail _ hp)⟩
theorem zip_split {α β : Type} (l : List (α × β)) : (l.map (·.1)).zip (l.map (·.2)) = l := by
  induction l with
  | nil => rfl
  | cons x r ih => simp [ih]
theorem cells_lookup : ∀ {cs : List (Str × Addr)} {j : Nat} {x : Str}, (cs.map (·.1)).Nodup → (cs.map (·.1))[j]? = some x → ∃ a, cs.lookup x = some a ∧ (cs.map (·.2))[j]? = some a
  | [], _, _, _, h => by simp at h
  | (y, a) :: r, 0, x, _, h => by
    simp only [List.map_cons, List.getElem?_cons_zero, Option.some.injEq] at h
    subst h
    exact ⟨a, by simp, by simp⟩
  | (y, a) :: r, j + 1, x, hn, h => by
    rw [List.map_cons, List.getElem?_cons_succ] at h
    obtain ⟨b, h1, h2⟩ := cells_lookup (List.nodup_cons.mp hn).2 h
    refine ⟨b, ?_, by simpa using h2⟩
    have hne : x ≠ y := fun e => (List.nodup_cons.mp hn).1 (e ▸ List.mem_of_getElem? h)
    have : (x == y) = false := by simpa using hne
    rw [List.lookup_cons, this]; exact h1

theorem Core.add {h₀ : Heap} {L : Addr} {names : List Str} {ρ : List Addr} {ex : List (Addr × Obj)} {σ : AS} {h : Heap} (r : Core X h₀ L names ρ ex σ h) {a : Addr} {o : Obj} {ao : AO} (hN : h.get? a = some o ∧ a ≠ L ∧ h₀.get? a = none)
    (hno : a ∉ ρ ++ ex.map (·.1)) (hlow : a ≠ sysModules) (ho : ORep X ρ ao o) : Core X h₀ L names (ρ ++ [a]) ex { σ with objs := σ.objs ++ [ao] } h := by
  obtain ⟨m, os, F, N, O, hl, nd, lc⟩ := r.all
  have pre : ρ <+: ρ ++ [a] := List.prefix_append ..
  have hz : (ρ ++ [a]).zip (os ++ [o]) = ρ.zip os ++ [(a, o)] := by rw [List.zip_append hl]; rfl
  refine ⟨⟨m, os ++ [o], F, fun p hp => ?_, (O.mono fun _ _ z => z.mono pre).append ⟨ho.mono pre, trivial⟩, by simp [hl], ?_, ?_⟩, r.big, fun b hb => ?_⟩
  · rw [hz] at hp
    simp only [List.mem_append, List.mem_cons, List.not_mem_nil, or_false] at hp
    rcases hp with (hp | rfl) | hp
    · exact N p (List.mem_append_left _ hp)
    · exact hN
    · exact N p (List.mem_append_right _ hp)
  · have hperm : (ρ ++ [a] ++ ex.map (·.1)).Perm (a :: (ρ ++ ex.map (·.1))) := by
      rw [List.append_assoc]
      exact List.perm_middle
    rw [hperm.nodup_iff, List.nodup_cons]
    exact ⟨hno, nd⟩
  · intro i x b h1 h2
    obtain ⟨v, e, q⟩ := lc i x b h1 h2
    exact ⟨v, e, q.mono pre⟩
  · rcases List.mem_append.mp hb with hb | hb
    · exact r.low b hb
    · rw [List.mem_singleton.mp hb]; exact hlow

theorem call_def {f : Addr} {m₀ : Nat} {oc : Value} {od : Option Addr} {osl : Array (Option Value)} {name qual : Str} {params : Arguments} {body : List Stmt} {cs : Scope} {dV kV doc pm cdv ct : Value} {an : Option Addr} (ps names : List Str) {np nref : Nat} {slots cslots : List (Option Nat)} {fb : AS → Option (AF × AS)}
    (ho : X.K.lookup f = some ⟨oc, od, .func (fnOf name qual params body cs dV kV doc pm an cdv ct), osl⟩) (hcd : codeIn X.K cdv qual = true)
    (hbind : ∀ (s : Shared) (vs : List Value), vs.length = ps.length → BindsTo s (fnOf name qual params body cs dV kV doc pm an cdv ct) ⟨vs, []⟩ (ps.zip vs))
    (hps : ps.Nodup) (hkind : (ps.all fun y => cs.names.lookup y == some .local || cs.names.lookup y == some .cell) = true) (hnd : (cellNames cs).Nodup) (hcl : ((cellNames cs).all fun x => cs.names.lookup x == some .cell) = true)
    (hnm : (names.all fun x => cs.names.lookup x == some .local) = true)
    (hco : cs.isCoroutine = false) (hgen : cs.isGenerator = false) (hk : cs.kind = .function) (hnp : ps.length = np) (hsl : slotsOf ps names = slots) (hcs : slotsOf ps (cellNames cs) = cslots)
    (hb : EXSJ X m₀ ⟨cs, names, (cellNames cs).zipIdx nref, none⟩ body fb) : CallJ X (m₀ + 1) D (.ref f) (defG np nref slots cslots fb) := by
  subst hnp; subst hsl; subst hcs
  intro c ok ρ ex σ as vs v σ' s Q E hR ha hg k
  delta defG at hg
  split at hg
  case isFalse => cases hg
  rename_i hc
  obtain ⟨hal, hnr, hsb, hsd, hsm⟩ := hc
  rw [← iniA_eq (by rw [List.length_map]; exact hal)] at hg
  obtain ⟨cv, hcore, hcv⟩ := hR.core
  obtain ⟨m, os, F, N, O, hl, nd, lc, OP, npk, sub, hlp⟩ := hcore.select hsb hsd hsm
  have hbr : ∀ i ∈ selOf as, i < ρ.length := fun i hi => by rw [hl, ← O.length]; exact hsb i hi
  have vl : vs.length = ps.length := by rw [← ha.length]; exact hal
  have v1 := selOf_rep hbr (fun i hi => hi) ha
  have ou := ok.units
  have od' := ok.depth
  refine wpAny_call ?_
  have hf0 : s.heap.get? f = some _ := hR.keep _ _ (ok.kin _ _ ho)
  have hbinds : ((ps.zip vs).map (·.1)) = ps := map_fst_zip vl.symm
  have hkb : ((ps.zip vs).all fun y => cs.names.lookup y.1 == some .local || cs.names.lookup y.1 == some .cell) = true := by
    rw [List.all_eq_true]; intro p hp
    exact List.all_eq_true.mp hkind p.1 (by rw [← hbinds]; exact List.mem_map_of_mem hp)
  refine callX_cells (B := ok.below (Nat.succ_pos _)) (F := F) (N := (fun p hp => N p (by
      rcases List.mem_append.mp hp with hp | hp
      · exact List.mem_append_left _ (sub p hp)
      · rcases List.mem_append.mp hp with hp | hp
        · exact List.mem_append_left _ ((List.mem_filter.mp hp).1)
        · exact List.mem_append_right _ hp) : News c.h₀ c.L s.heap ((pick ρ (selOf as)).zip (pick os (selOf as)) ++ ((ρ.zip os).filter (fun p => !(pick ρ (selOf as)).contains p.1) ++ (cv ++ ex)))))
    ok.top.nolimit (ok.frames (Nat.succ_pos _)) ok.fframe ok.fkind hf0 rfl (codeRec_of (ok.kin.keeps hR.keep) hcd) (by omega) (hbind s vs vl) (kindsX hkb) hnd ?_ hco hgen hk
  intro g L' h₁ tk cells FG F' N' Y B' st lt
  have hY : ∀ x : Str, x ∈ cellNames cs → bindC (envOfC qual cs L' f cdv).kindOf (ps.zip vs) (fun _ => none) x = (ps.zip vs).lookup x := fun x hx => by
    have hcx : cs.names.lookup x = some .cell := by simpa using List.all_eq_true.mp hcl x hx
    rw [bindC_get (by show cs.names.lookup x ≠ _; rw [hcx]; simp) (by rw [hbinds]; exact hps)]; simp
  have cnames : (cellsFrom (L' + 1) cs.names []).map (·.1) = cellNames cs := cellsFrom_map id _ _ _ _ _ rfl
  have caddr := cellsFrom_addr cs.names (L' + 1) (L' + 1) [] (Nat.le_refl _) (fun _ h => nomatch h) .nil
  have cfst := cells_fst Y
  have ok' : Cx.OK ⟨envOfC qual cs L' f cdv, envOfC qual cs L' f cdv, L', 0, c.fenv :: c.outer, c.A, c.A.deeper (envOfC qual cs L' f cdv), c.base, g⟩ X ⟨cs, names, (cellNames cs).zipIdx nref, none⟩ m₀ :=
    { below := fun _ => B', old := fun p hp => st _ _ (ok.old p hp), frames := fun _ => Around.frames_deeper (ok.frames (Nat.succ_pos _)), fframe := rfl, fkind := hk, handled := ok.handled
      depth := by show c.A.depth + 1 + m₀ < _; omega
      units := by show c.A.units + 3 + 4 * m₀ + 400 < _; omega
      kin := ok.kin.keeps st, top := ok.top.keeps st, escope := rfl, kind := hk, eglob := rfl, ebi := rfl, eloc := rfl }
  have pre1 : pick ρ (selOf as) <+: pick ρ (selOf as) ++ cells.map (·.1) := List.prefix_append ..
  have R0 : Rel X ⟨envOfC qual cs L' f cdv, envOfC qual cs L' f cdv, L', 0, c.fenv :: c.outer, c.A, c.A.deeper (envOfC qual cs L' f cdv), c.base, g⟩ ⟨cs, names, (cellNames cs).zipIdx nref, none⟩
      (pick ρ (selOf as) ++ cells.map (·.1)) ((ρ.zip os).filter (fun p => !(pick ρ (selOf as)).contains p.1) ++ (cv ++ ex)) (iniA ps cs names (as.map (renum (selOf as))) (pick σ.objs (selOf as))) h₁ := by
    have oldlt : ∀ b ∈ pick ρ (selOf as) ++ ((ρ.zip os).filter (fun p => !(pick ρ (selOf as)).contains p.1) ++ (cv ++ ex)).map (·.1), b < L' := by
      intro b hb
      have : b ∈ ((pick ρ (selOf as)).zip (pick os (selOf as)) ++ ((ρ.zip os).filter (fun p => !(pick ρ (selOf as)).contains p.1) ++ (cv ++ ex))).map (·.1) := by
        rw [List.map_append, map_fst_zip hlp]; exact hb
      obtain ⟨p, hp, rfl⟩ := List.mem_map.mp this
      exact lt p hp
    have cge : ∀ b ∈ cells.map (·.1), L' + 1 ≤ b := by
      intro b hb
      rw [cfst] at hb
      obtain ⟨p, hp, rfl⟩ := List.mem_map.mp hb
      exact caddr.2 p hp
    refine ⟨⟨[], ⟨⟨_, pick os (selOf as) ++ cells.map (·.2), F', ?_, ?_, by simp [hlp], ?_, ?_⟩, ?_, ?_⟩, rfl⟩, ?_⟩
    · intro p hp
      rw [List.zip_append hlp, zip_split] at hp
      refine N' p ?_
      simp only [List.mem_append, List.nil_append] at hp ⊢
      rcases hp with (hp | hp) | hp
      · exact .inr (.inl hp)
      · exact .inl hp
      · exact .inr (.inr hp)
    · refine All2.append (OP.mono fun _ _ z => z _) ?_
      have := cells_rep (X := X) (ρ := pick ρ (selOf as) ++ cells.map (·.1)) (f := fun x => (ps.zip (as.map (renum (selOf as)))).lookup x) Y (fun p hp => by
        have hx : p.1 ∈ cellNames cs := by rw [← cnames]; exact List.mem_map_of_mem hp
        rw [hY p.1 hx]
        cases hq : (ps.zip (as.map (renum (selOf as)))).lookup p.1 with
        | none => trivial
        | some a =>
          obtain ⟨u, hu, hr⟩ := lookup_rep v1 hq
          exact ⟨u, hu, hr.mono pre1⟩)
      rw [← cnames]
      rw [List.map_map]
      exact this
    · simp only [List.nil_append]
      refine List.nodup_append.mpr ⟨List.nodup_append.mpr ⟨npk, cfst ▸ caddr.1, fun a ha b hb e => ?_⟩, ?_, fun a ha b hb e => ?_⟩
      · have h1 := oldlt a (List.mem_append_left _ ha)
        have h2 := cge b hb
        subst e; exact absurd h1 (Nat.not_lt.mpr (Nat.le_of_succ_le h2))
      · refine nd.sublist ?_ |> fun z => z
        rw [List.map_append]
        refine List.Sublist.append ?_ (.refl _)
        have z := List.Sublist.map (·.1) (List.filter_sublist (p := fun p => !(pick ρ (selOf as)).contains p.1) (l := ρ.zip os))
        exact z.trans (by rw [map_fst_zip hl]; exact .refl _)
      · rcases List.mem_append.mp ha with ha | ha
        · subst e
          rw [List.map_append] at hb
          rcases List.mem_append.mp hb with hb | hb
          · obtain ⟨p, hp, rfl⟩ := List.mem_map.mp hb
            have := (List.mem_filter.mp hp).2
            simp only [Bool.not_eq_true', List.contains_eq_mem, decide_eq_false_iff_not] at this
            exact this ha
          · have hin : a ∈ ρ := by
              obtain ⟨j, hj⟩ := List.getElem?_of_mem ha
              have hj' : j < (selOf as).length := by rw [← pick_len hbr]; exact (List.getElem?_eq_some_iff.mp hj).1
              rw [pick_get hbr j _ (List.getElem?_eq_getElem hj')] at hj
              exact List.mem_of_getElem? hj
            exact (List.nodup_append.mp nd).2.2 a hin a hb rfl
        · have h1 := cge a ha
          have h2 := oldlt b (List.mem_append_right _ hb)
          subst e; exact absurd h2 (Nat.not_lt.mpr (Nat.le_of_succ_le h1))
    · intro i x a hx ha'
      simp only [iniA, List.getElem?_map, hx, Option.map_some, Option.some.injEq] at ha'
      obtain ⟨u, hu, hr⟩ := lookup_rep v1 ha'
      refine ⟨u, ?_, hr.mono pre1⟩
      have hlx : cs.names.lookup x = some .local := by simpa using List.all_eq_true.mp hnm x (List.mem_of_getElem? hx)
      rw [bindL_get (by exact hlx) (by rw [hbinds]; exact hps), hu]; rfl
    · exact Nat.lt_of_lt_of_le hcore.big (by
        have h1 := FG.keep
        have h2 : c.h₀.objs.size ≤ c.L := F.above
        exact Nat.le_trans h2 (Nat.le_of_lt FG.ns.lt))
    · intro b hb
      rcases List.mem_append.mp hb with hb | hb
      · obtain ⟨j, hj⟩ := List.getElem?_of_mem hb
        have hj' : j < (selOf as).length := by rw [← pick_len hbr]; exact (List.getElem?_eq_some_iff.mp hj).1
        rw [pick_get hbr j _ (List.getElem?_eq_getElem hj')] at hj
        exact hcore.low b (List.mem_of_getElem? hj)
      · have h1 := cge b hb
        intro e
        have h2 : c.h₀.objs.size ≤ c.L := F.above
        have h3 : c.L < g.objs.size := FG.ns.lt
        have h4 : g.objs.size ≤ L' := F'.above
        have h5 : sysModules < c.h₀.objs.size := hcore.big
        have h6 : L' < b := h1
        have h7 : c.h₀.objs.size ≤ L' := Nat.le_trans h2 (Nat.le_trans (Nat.le_of_lt h3) h4)
        have h8 : sysModules < b := Nat.lt_of_lt_of_le (Nat.lt_of_lt_of_le h5 h7) (Nat.le_of_lt h6)
        rw [e] at h8
        exact Nat.lt_irrefl _ h8
    · intro p hp
      obtain ⟨x, i⟩ := p
      obtain ⟨hi, hlt, hxi⟩ := List.mem_zipIdx hp
      have hq : (cellNames cs)[i - nref]? = some x := by
        rw [List.getElem?_eq_getElem (by omega)]; rw [hxi]
      rw [← cnames] at hq
      obtain ⟨a, h1, h2⟩ := cells_lookup (by rw [cnames]; exact hnd) hq
      refine ⟨a, h1, ?_⟩
      rw [← cfst] at h2
      have hpl : (pick ρ (selOf as)).length = nref := by rw [pick_len hbr]; exact hnr
      show (pick ρ (selOf as) ++ cells.map (·.1))[i]? = some a
      rw [List.getElem?_append_right (by rw [hpl]; exact hi), hpl]
      exact h2
  have fin : ∀ (w : AV) (σc : AS) (w' : Value) (s' : Shared) (ρ' : List Addr), retG (selOf as) σ w σc = some (v, σ') → VRep ρ' w w' → pick ρ (selOf as) ++ cells.map (·.1) <+: ρ' →
      Rel X ⟨envOfC qual cs L' f cdv, envOfC qual cs L' f cdv, L', 0, c.fenv :: c.outer, c.A, c.A.deeper (envOfC qual cs L' f cdv), c.base, g⟩ ⟨cs, names, (cellNames cs).zipIdx nref, none⟩ ρ'
        ((ρ.zip os).filter (fun p => !(pick ρ (selOf as)).contains p.1) ++ (cv ++ ex)) σc s'.heap → Same { s with heap := h₁, toks := tk } s' →
      LeaveK c.h₀ c.L m g (fun r s' => match r with | .ok (.ret v) => Q v s' | .ok _ => False | .error e => E e s') w' s' := by
    intro w σc w' s' ρ' hret hw hpre hR' hS
    obtain ⟨cv', hcore', hcv'⟩ := hR'.core
    have e0 : cv' = [] := hcv'
    subst e0
    obtain ⟨m2, os2, F2, N2, O2, hl2, nd2, lc2⟩ := hcore'.all
    have hS' : Same s s' := ⟨hS.os, hS.gens, hS.more, hS.bare⟩
    refine leaveK_ F2 N2 fun F3 N3 => ?_
    have hpp : pick ρ (selOf as) <+: ρ' := pre1.trans hpre
    delta retG at hret
    split at hret
    case isFalse => cases hret
    rename_i hmv
    have CJ := hcore.rejoin hsb O hl nd lc F3 N3 hpp O2 hl2 hmv
    split at hret
    · rename_i j
      split at hret
      · rename_i xs hxs
        split at hret
        · rename_i hj
          cases hret
          obtain ⟨a, ha', rfl⟩ := hw
          obtain ⟨o, ho2, hro⟩ := O2.get hxs
          have hmem : (a, o) ∈ ρ'.zip os2 := zip_get ha' ho2
          have hno : a ∉ ρ ++ (cv ++ ex).map (·.1) := by
            intro hin
            simp only [List.nil_append] at nd2
            have nd2' := List.nodup_append.mp nd2
            have ain : a ∈ ρ' := List.mem_of_getElem? ha'
            have hnf : a ∉ ((ρ.zip os).filter (fun p => !(pick ρ (selOf as)).contains p.1) ++ (cv ++ ex)).map (·.1) := fun q => nd2'.2.2 a ain a q rfl
            rw [List.map_append] at hnf
            rcases List.mem_append.mp hin with hin | hin
            · by_cases hpk : a ∈ pick ρ (selOf as)
              · obtain ⟨t, ht⟩ := hpp
                obtain ⟨j', hj'⟩ := List.getElem?_of_mem hpk
                have hlt' := (List.getElem?_eq_some_iff.mp hj').1
                rw [pick_len hbr] at hlt'
                have h2 : ρ'[j']? = some a := pre_get ⟨t, ht⟩ hj'
                have := (List.getElem?_inj (List.getElem?_eq_some_iff.mp h2).1 nd2'.1).mp (h2.trans ha'.symm)
                omega
              · refine hnf (List.mem_append_left _ ?_)
                obtain ⟨i, hi⟩ := List.getElem?_of_mem hin
                have hio : i < os.length := by rw [← hl]; exact (List.getElem?_eq_some_iff.mp hi).1
                have hz : (a, os[i]) ∈ ρ.zip os := zip_get hi (List.getElem?_eq_getElem hio)
                exact List.mem_map_of_mem (f := (·.1)) (a := (a, os[i])) (l := (ρ.zip os).filter (fun p => !(pick ρ (selOf as)).contains p.1)) (List.mem_filter.mpr ⟨hz, by show (!(pick ρ (selOf as)).contains a) = true; simp [hpk]⟩)
            · exact hnf (List.mem_append_right _ hin)
          have CA := CJ.add (ao := .flat xs) (N3 _ (List.mem_append_left _ hmem)) hno (hR'.low a (List.mem_of_getElem? ha')) hro
          have pq : ρ <+: ρ ++ [a] := List.prefix_append ..
          refine k _ s' (ρ ++ [a]) pq ⟨a, hR.len' a, rfl⟩ ⟨⟨cv, CA, hcv.mono pq⟩, fun p hp => ?_⟩ hS'
          obtain ⟨b, h1, h2⟩ := hR.cel p hp
          exact ⟨b, h1, pre_get pq h2⟩
        · cases hret
      · cases hret
    · rename_i hne
      cases hret
      refine k _ s' ρ (List.prefix_refl _) ?_ ⟨⟨cv, CJ, hcv⟩, hR.cel⟩ hS'
      cases v with
      | ref j => exact (hne j rfl).elim
      | none => exact hw
      | bool _ => exact hw
      | int _ => exact hw
      | str _ => exact hw
      | adr _ => exact hw
  split at hg
  · rename_i σc h1
    refine hb _ ok' _ _ _ _ _ _ _ _ R0 h1 fun fl s' ρ' p' e R' S' => ?_
    cases e
    exact fin .none σc .none s' ρ' hg rfl p' R' S'
  · rename_i w σc h1
    refine hb _ ok' _ _ _ _ _ _ _ _ R0 h1 fun fl s' ρ' p' e R' S' => ?_
    obtain ⟨w', rfl, hw⟩ := e
    exact fin w σc w' s' ρ' hg hw p' R' S'
  · cases hg
end Mine
-- part M14
namespace Mine
variable {X : Wd} {n : Nat} {D : FD}

noncomputable def relabD (scope cs : Scope) : Scope := { scope with names := scope.names.map fun (n, k) => if (k == .free && cs.kind == .function && cs.names.lookup n == some .cell) then (n, .cell) else (n, k) }
noncomputable def freeOf (names : List (Str × NameKind)) : List Str := (names.filter fun p => p.2 == .free).map (·.1)
noncomputable def freeCl (cells : List (Str × Addr)) : List (Str × NameKind) → List (Str × Addr) → List (Str × Addr)
  | [], acc => acc
  | (n, k) :: r, acc => freeCl cells r (if k == .free then (n, (cells.lookup n).getD 0) :: acc else acc)

theorem closure_is {env : Env} : ∀ (names : List (Str × NameKind)) (acc : List (Str × Addr)), (∀ p ∈ names, p.2 = .free → ∃ a, env.cells.lookup p.1 = some a) →
    (forIn names acc fun (x : Str × NameKind) (cs : List (Str × Addr)) => (if (x.2 == .free) = true then (do let a ← cellOf env x.1; pure (ForInStep.yield ((x.1, a) :: cs))) else pure (ForInStep.yield cs) : Sem (ForInStep (List (Str × Addr))))) = pure (freeCl env.cells names acc)
  | [], acc, _ => rfl
  | (n, k) :: r, acc, h => by
    rw [List.forIn_cons]
    have ih := fun acc => closure_is r acc fun p hp => h p (.tail _ hp)
    by_cases hk : k = .free
    · subst hk
      obtain ⟨a, ha⟩ := h (n, .free) (.head _) rfl
      have e : cellOf env n = pure a := by unfold cellOf; rw [ha]
      simp only [beq_self_eq_true, if_true, e, freeCl, ha, Option.getD_some]
      exact ih _
    · have hb : (k == NameKind.free) = false := by simpa using hk
      simp only [hb, Bool.false_eq_true, if_false, freeCl]
      exact ih _
theorem closureFor_is {scope : Scope} {env : Env} (h : ∀ p ∈ scope.names, p.2 = .free → ∃ a, env.cells.lookup p.1 = some a) : closureFor scope env = pure (freeCl env.cells scope.names []) := by
  simp only [closureFor]
  show (forIn scope.names [] _ >>= fun s => pure s) = _
  rw [closure_is scope.names [] h]; rfl
theorem freeCl_lookup {cells : List (Str × Addr)} {x : Str} : ∀ (names : List (Str × NameKind)) (acc : List (Str × Addr)), (x ∈ freeOf names ∨ ∃ a, acc.lookup x = some a ∧ a = (cells.lookup x).getD 0) → (freeCl cells names acc).lookup x = some ((cells.lookup x).getD 0)
  | [], acc, h => by
    rcases h with h | ⟨a, h, rfl⟩
    · simp [freeOf] at h
    · exact h
  | (n, k) :: r, acc, h => by
    rw [freeCl]
    refine freeCl_lookup r _ ?_
    by_cases hk : k = .free
    · subst hk
      simp only [beq_self_eq_true, if_true]
      by_cases hx : x = n
      · subst hx; exact .inr ⟨_, by simp, rfl⟩
      · have e : (x == n) = false := by simpa using hx
        rcases h with h | ⟨a, h1, h2⟩
        · left
          simpa [freeOf, hx] using h
        · right; exact ⟨a, by rw [List.lookup_cons, e]; exact h1, h2⟩
    · have hb : (k == NameKind.free) = false := by simpa using hk
      simp only [hb, Bool.false_eq_true, if_false]
      rcases h with h | h
      · left; simpa [freeOf, hb] using h
      · exact .inr h

noncomputable def compD (D : FD) (scope : Scope) (x : Str) : FD := ⟨relabD scope D.cs, D.names, D.cells.filter (fun p => (freeOf scope.names).contains p.1), some x⟩

noncomputable def compL (chk : AS → Bool) (k : Nat) (ft : AS → Option (Bool × AS)) (fe : AS → Option (AV × AS)) : List AV → AS → Option AS
  | [], σ => some σ
  | a :: r, σ => match ft { σ with cv := some a } with
    | some (true, σ₁) => match fe σ₁ with
      | some (v, σ₂) => match appendG [.ref k, v] σ₂ with
        | some (_, σ₃) => if chk σ₃ = true then compL chk k ft fe r σ₃ else none
        | none => none
      | none => none
    | some (false, σ₁) => if chk σ₁ = true then compL chk k ft fe r σ₁ else none
    | none => none
noncomputable def compA (fi : AS → Option ((List AV × (AS → Bool)) × AS)) (ft : AS → Option (Bool × AS)) (fe : AS → Option (AV × AS)) (σ : AS) : Option (AV × AS) := match fi σ with
  | some ((its, chk), σ₁) => if chk { σ₁ with objs := σ₁.objs ++ [.flat []] } = true then
      match compL chk σ₁.objs.length ft fe its { σ₁ with objs := σ₁.objs ++ [.flat []] } with
      | some σ₂ => some (.ref σ₁.objs.length, { σ₂ with cv := none })
      | none => none
    else none
  | none => none

noncomputable def IFJ (X : Wd) (n : Nat) (D : FD) (ifs : List Expr) (f : AS → Option (Bool × AS)) : Prop := ∀ c : Cx, c.OK X D n → WJ X c D (forIn ifs true fun t r => if r = true then do let ok ← isTrue t c.env (eval t c.env); pure (ForInStep.yield ok) else pure (ForInStep.yield r) : Sem Bool) (fun _ b a => a = b) f
theorem if_nil : IFJ X n D [] ttT := by
  intro c ok ρ ex σ b σ' s Q E hR hf k
  cases hf
  rw [List.forIn_nil]
  exact wpAny_pure (k _ s ρ (List.prefix_refl _) rfl hR (.refl s))
theorem if_one {t : Expr} {f : AS → Option (Bool × AS)} (h : TJ X n D t f) : IFJ X n D [t] f := by
  intro c ok ρ ex σ b σ' s Q E hR hf k
  rw [List.forIn_cons]
  refine wpAny_bind ?_
  simp only [if_true]
  refine wpAny_bind (h c ok ρ ex σ b σ' s _ E hR hf fun a s₁ ρ₁ p₁ e R₁ S₁ => wpAny_pure ?_)
  subst e
  show wpAny _ _ (forIn [] a _) _ _ _
  rw [List.forIn_nil]
  exact wpAny_pure (k _ s₁ ρ₁ p₁ rfl R₁ S₁)

section
variable {c : Cx} {ρ : List Addr} {ex : List (Addr × Obj)} {σ : AS} {h : Heap} {scope : Scope} {x : Str} {C : Addr} {o : Obj} {m : Str → Option Value}
noncomputable def compC (c : Cx) (scope : Scope) (C : Addr) : Cx := { c with env := compEnvC scope (freeCl c.env.cells scope.names []) C c.env, C := C }

theorem Rel.enterC (hcv : D.cvn = none) (r : Rel X c D ρ ((C, o) :: ex) σ h) (hn : ∀ h : Heap, h.get? C = some o → h.Ns C m) (hv : CRep ρ σ.cv (m x)) : Rel X (compC c scope C) (compD D scope x) ρ ex σ h := by
  obtain ⟨cv, hc, hq⟩ := r.core
  rw [hcv] at hq
  have e : cv = [] := hq
  subst e
  refine ⟨⟨[(C, o)], hc, ⟨o, m, rfl, hn, hv⟩⟩, fun p hp => ?_⟩
  obtain ⟨hp1, hp2⟩ := List.mem_filter.mp hp
  obtain ⟨a, h1, h2⟩ := r.cel p hp1
  refine ⟨a, ?_, h2⟩
  show (freeCl c.env.cells scope.names []).lookup p.1 = some a
  rw [freeCl_lookup scope.names [] (.inl (by simpa using hp2)), h1]; rfl
theorem Rel.leaveC (hcv : D.cvn = none) (hcel : ∀ p ∈ D.cells, ∃ a, c.env.cells.lookup p.1 = some a ∧ ρ[p.2]? = some a) (r : Rel X (compC c scope C) (compD D scope x) ρ ex σ h) : ∃ o m, Rel X c D ρ ((C, o) :: ex) σ h ∧ (∀ h : Heap, h.get? C = some o → h.Ns C m) := by
  obtain ⟨cv, hc, hq⟩ := r.core
  obtain ⟨o, m, rfl, hn, _⟩ := (hq : ∃ o m, cv = [(C, o)] ∧ _)
  exact ⟨o, m, ⟨⟨[], hc, by rw [hcv]; rfl⟩, hcel⟩, hn⟩
theorem Rel.withCv (hcv : D.cvn = none) (a : Option AV) (r : Rel X c D ρ ex σ h) : Rel X c D ρ ex { σ with cv := a } h := by
  obtain ⟨cv, hc, hq⟩ := r.core
  exact ⟨⟨cv, ⟨hc.all, hc.big, hc.low⟩, by rw [hcv] at hq ⊢; exact hq⟩, r.cel⟩
theorem Rel.swapEx {e : Addr × Obj} {exI : List (Addr × Obj)} (r : Rel X c D ρ (e :: (exI ++ ex)) σ h) : Rel X c D ρ (exI ++ e :: ex) σ h := by
  obtain ⟨cv, hc, hq⟩ := r.core
  obtain ⟨m, os, F, N, O, hl, nd, lc⟩ := hc.all
  refine ⟨⟨cv, ⟨⟨m, os, F, fun p hp => N p ?_, O, hl, ?_, lc⟩, hc.big, hc.low⟩, hq⟩, r.cel⟩
  · simp only [List.mem_append, List.mem_cons] at hp ⊢
    rcases hp with hp | hp | hp | hp | hp
    · exact .inl hp
    · exact .inr (.inl hp)
    · exact .inr (.inr (.inr (.inl hp)))
    · exact .inr (.inr (.inl hp))
    · exact .inr (.inr (.inr (.inr hp)))
  · refine (List.Perm.nodup_iff ?_).mpr nd
    refine List.Perm.append_left _ (List.Perm.map _ (List.Perm.append_left _ ?_))
    exact List.perm_middle
theorem Rel.swapEx' {e : Addr × Obj} {exI : List (Addr × Obj)} (r : Rel X c D ρ (exI ++ e :: ex) σ h) : Rel X c D ρ (e :: (exI ++ ex)) σ h := by
  obtain ⟨cv, hc, hq⟩ := r.core
  obtain ⟨m, os, F, N, O, hl, nd, lc⟩ := hc.all
  refine ⟨⟨cv, ⟨⟨m, os, F, fun p hp => N p ?_, O, hl, ?_, lc⟩, hc.big, hc.low⟩, hq⟩, r.cel⟩
  · simp only [List.mem_append, List.mem_cons] at hp ⊢
    rcases hp with hp | hp | hp | hp | hp
    · exact .inl hp
    · exact .inr (.inl hp)
    · exact .inr (.inr (.inr (.inl hp)))
    · exact .inr (.inr (.inl hp))
    · exact .inr (.inr (.inr (.inr hp)))
  · refine (List.Perm.nodup_iff ?_).mpr nd
    refine List.Perm.append_left _ (List.Perm.map _ (List.Perm.append_left _ ?_))
    exact List.perm_middle.symm
end

noncomputable def CompOK (D : FD) (scope : Scope) (x : Str) : Bool :=
  decide (D.cvn = none) && decide (scope.kind = .function) && scope.names.all (fun y => y.2 != .cell) && scope.names.all (fun y => y.2 != .local || scope.names.lookup y.1 == some .local) && (scope.names.lookup x == some .local) &&
    (freeOf scope.names).all (fun y => D.cells.any fun p => p.1 == y)

theorem comp_core {c : Cx} (ok : c.OK X D n) {elt iter : Expr} {x : Str} {px : Pos} {ifs : List Expr} {scope : Scope} {pos : Pos} {fi : AS → Option ((List AV × (AS → Bool)) × AS)} {ft : AS → Option (Bool × AS)} {fe : AS → Option (AV × AS)}
    (hco : CompOK D scope x = true) (hi : RJ X n D iter fi) (ht : IFJ X n (compD D scope x) ifs ft) (he : EVJ X n (compD D scope x) elt fe) {ρ : List Addr} {ex : List (Addr × Obj)} {σ σ' : AS} {v : AV} {s : Shared} {E : Value → Shared → Prop} {RR : Value → Addr → Result → Shared → Prop}
    (hR : Rel X c D ρ ex σ s.heap) (hf : compA fi ft fe σ = some (v, σ'))
    (k : ∀ acc C o m s' ρ', ρ <+: ρ' → VRep ρ' v acc → Rel X c D ρ' ((C, o) :: ex) σ' s'.heap → (∀ h : Heap, h.get? C = some o → h.Ns C m) → Same s s' → RR acc C (.ok .next) s') :
    wpAny (model X.prog X.w) c.A (eval iter c.env) (fun xv s₁ => wpAny (model X.prog X.w) c.A (pyIter xv) (fun it s₂ => wpAny (model X.prog X.w) c.A (newList []) (fun acc s₃ =>
      wpAny (model X.prog X.w) c.A (newFunctionEnv scope c.env.globals (freeCl c.env.cells scope.names []) [] c.env.qual none .none (some c.env)) (fun cenv s₄ =>
        codeAny (model X.prog X.w) c.A (.compStart (.ListComp elt [⟨.Name x px, iter, ifs, 0⟩] scope pos) 0 it acc { cenv with scope := relabel scope c.env }) (RR acc cenv.locals) s₄) E s₃) E s₂) E s₁) E s := by
  refine cps fun PG hP => ?_
  delta compA at hf
  split at hf
  case h_2 => cases hf
  rename_i its chk σ₁ h1
  split at hf
  case isFalse => cases hf
  rename_i hchk1
  split at hf
  case h_2 => cases hf
  rename_i σ₂ h2
  cases hf
  simp only [CompOK, Bool.and_eq_true, decide_eq_true_eq, List.all_eq_true, bne_iff_ne, ne_eq, Bool.or_eq_true, beq_iff_eq] at hco
  obtain ⟨⟨⟨⟨⟨hcv, hkd⟩, hcell⟩, hloc⟩, hx⟩, hfree⟩ := hco
  refine hP ?_
  refine hi c ok ρ ex σ its chk σ₁ s _ E hR h1 fun I s₁ ρ₁ exI St p₁ raw hst hchk R₁ S₁ => ?_
  refine wpAny_newList ?_ (by decide)
  have Racc : Rel X c D (ρ₁ ++ [s₁.heap.objs.size]) (exI ++ ex) { σ₁ with objs := σ₁.objs ++ [.flat []] } (s₁.heap.push { cls := .type "list", data := .seq ([] : List Value).toArray }) := R₁.alloc rfl ⟨[], 0, rfl, trivial⟩
  generalize hH : s₁.heap.push { cls := .type "list", data := .seq ([] : List Value).toArray } = H at Racc ⊢
  refine wpAny_newFunctionEnv (fun y hy => hcell y hy) (fun y hy => by simp at hy) (fun h₁ hns hsb => ?_) hkd
  obtain ⟨o, es, ep, ho, hod, hok, hof⟩ := id hns
  have keepH : ∀ b ob, H.get? b = some ob → h₁.get? b = some ob := fun b ob e => hsb.extBut b ob (Nat.ne_of_lt (Heap.lt_size e)) (Heap.get?_push_of_some _ e)
  have Rc : Rel X c D (ρ₁ ++ [s₁.heap.objs.size]) ((H.objs.size, o) :: (exI ++ ex)) { σ₁ with objs := σ₁.objs ++ [.flat []] } h₁ := Racc.exNew (Nat.le_refl _) keepH ho
  have hnsO : ∀ h : Heap, h.get? H.objs.size = some o → h.Ns H.objs.size (fun x => ([] : List (Str × Value)).reverse.lookup x) := fun h e => ⟨o, es, ep, e, hod, hok, hof⟩
  have hesc : (compC c scope H.objs.size).env.scope = (compD D scope x).cs := by
    show relabel scope c.env = relabD scope D.cs
    unfold relabel relabD Env.kindOf
    rw [ok.escope]
  have ok' : (compC c scope H.objs.size).OK X (compD D scope x) n := ⟨ok.below, ok.old, ok.frames, ok.fframe, ok.fkind, ok.handled, ok.depth, ok.units, ok.kin, ok.top, hesc, hkd, ok.eglob, ok.ebi, rfl⟩
  have loop : ∀ s₃ : Shared, s₃ = { s₁ with heap := h₁, toks := s₁.toks + ([] : List (Str × Value)).length } →
      codeAny (model X.prog X.w) c.A (.compLoop (.ListComp elt [⟨.Name x px, iter, ifs, 0⟩] scope pos) 0 (.ref I) (.ref s₁.heap.objs.size) (compC c scope H.objs.size).env) (RR (.ref s₁.heap.objs.size) H.objs.size) s₃ := by
    rintro s₃ rfl
    refine codeAny_compLoop_tests (fun mm s' => ∃ (i : Nat) (ρ₂ : List Addr) (exI₂ : List (Addr × Obj)) (σ₃ : AS) (r : List AV) (o' : Obj) (m' : Str → Option Value), its.drop i = r ∧ i ≤ its.length ∧ mm = r.length ∧ St i exI₂ ∧ ρ₁ ++ [s₁.heap.objs.size] <+: ρ₂ ∧ chk σ₃ = true ∧
      compL chk σ₁.objs.length ft fe r σ₃ = some σ₂ ∧ Rel X c D ρ₂ ((H.objs.size, o') :: (exI₂ ++ ex)) σ₃ s'.heap ∧ (∀ h : Heap, h.get? H.objs.size = some o' → h.Ns H.objs.size m') ∧ Same s₁ s')
      ?_ its.length ⟨0, _, exI, _, its, o, _, rfl, Nat.zero_le _, rfl, hst, List.prefix_refl _, hchk1, h2, Rc, hnsO, .of rfl rfl⟩
    rintro mm s' ⟨i, ρ₂, exI₂, σ₃, r, o', m', hr, hle, rfl, hst₂, p₂, hchk₂, hf₂, R₂, hn₂, S₂⟩
    have pp : ρ₁ <+: ρ₂ := (List.prefix_append ..).trans p₂
    cases r with
    | nil =>
      have hi2 : i = its.length := by
        have := congrArg List.length hr; simp only [List.length_drop, List.length_nil] at this; omega
      subst hi2
      cases hf₂
      refine raw.done ρ₂ _ exI₂ _ s' _ _ hst₂ pp hchk₂ R₂.swapEx fun s₃ R₃ S₃ => ?_
      refine k _ _ o' m' s₃ ρ₂ (p₁.trans pp) ?_ (R₃.withCv hcv none) hn₂ (S₁.trans (S₂.trans S₃))
      exact ⟨_, pre_get p₂ (R₁.len' _), rfl⟩
    | cons a r =>
      obtain ⟨ha0, hr'⟩ := drop_cons hr
      refine raw.item i a ρ₂ _ exI₂ σ₃ s' _ _ ha0 hst₂ pp hchk₂ R₂.swapEx fun u s₃ exI₃ hu hst₃ R₃ S₃ => ?_
      have R₃' := R₃.swapEx'
      have hC := R₃'.exGet (p := (H.objs.size, o')) (.head _)
      have hkx : (compC c scope H.objs.size).env.kindOf x = some .local := lookup_relabel_local hx
      refine wpAny_assign_Name (wpAny_storeName_local hkx (hn₂ _ hC) (fun h' hn' hs' => ?_) (by show (scope.kind == .class || (scope.kind == .module && _)) = false; rw [hkd]; rfl))
      obtain ⟨o₄, es₄, ep₄, ho₄, hod₄, hok₄, hof₄⟩ := id hn'
      have ho₄' : h'.get? H.objs.size = some o₄ := ho₄
      have R₄ : Rel X c D ρ₂ ((H.objs.size, o₄) :: (exI₃ ++ ex)) σ₃ h' := R₃'.walk (exI := [(H.objs.size, o')]) (exI' := [(H.objs.size, o₄)]) (wr := [H.objs.size]) (fun b hb => hb)
        (fun b ob hb e => hs'.extBut b ob (fun q => hb (q ▸ .head _)) e) rfl (fun p hp => by rw [List.mem_singleton.mp hp]; exact ho₄')
      have R₅ : Rel X (compC c scope H.objs.size) (compD D scope x) ρ₂ (exI₃ ++ ex) { σ₃ with cv := some a } h' := (R₄.withCv hcv (some a)).enterC hcv (fun h e => ⟨o₄, es₄, ep₄, e, hod₄, hok₄, hof₄⟩) ⟨u, by simp, hu.of_nil⟩
      have again : ∀ σ₆, chk σ₆ = true → compL chk σ₁.objs.length ft fe r σ₆ = some σ₂ → ∀ s₆ ρ₆, ρ₂ <+: ρ₆ → Rel X (compC c scope H.objs.size) (compD D scope x) ρ₆ (exI₃ ++ ex) σ₆ s₆.heap → Same s₃ s₆ →
          ∃ m, m < (a :: r).length ∧ ∃ (i : Nat) (ρ₂ : List Addr) (exI₂ : List (Addr × Obj)) (σ₃ : AS) (r : List AV) (o' : Obj) (m' : Str → Option Value), its.drop i = r ∧ i ≤ its.length ∧ m = r.length ∧ St i exI₂ ∧ ρ₁ ++ [s₁.heap.objs.size] <+: ρ₂ ∧ chk σ₃ = true ∧
            compL chk σ₁.objs.length ft fe r σ₃ = some σ₂ ∧ Rel X c D ρ₂ ((H.objs.size, o') :: (exI₂ ++ ex)) σ₃ s₆.heap ∧ (∀ h : Heap, h.get? H.objs.size = some o' → h.Ns H.objs.size m') ∧ Same s₁ s₆ := by
        intro σ₆ hc6 hl6 s₆ ρ₆ p₆ R₆ S₆
        obtain ⟨o₇, m₇, R₇, hn₇⟩ := Rel.leaveC (D := D) (c := c) hcv (fun p hp => by
          obtain ⟨b, g1, g2⟩ := R₁.cel p hp
          exact ⟨b, g1, pre_get (pp.trans p₆) g2⟩) R₆
        exact ⟨r.length, by simp, i + 1, ρ₆, exI₃, σ₆, r, o₇, m₇, hr', (List.getElem?_eq_some_iff.mp ha0).1, rfl, hst₃, p₂.trans p₆, hc6, hl6, R₇, hn₇, S₂.trans (S₃.trans S₆)⟩
      refine cps fun PG hP => ?_
      simp only [compL] at hf₂
      split at hf₂
      · rename_i σ₆ h6
        split at hf₂
        case h_2 => cases hf₂
        rename_i w σ₇ h7
        split at hf₂
        case h_2 => cases hf₂
        rename_i w' σ₈ h8
        split at hf₂
        case isFalse => cases hf₂
        rename_i hc8
        refine hP ?_
        refine ht _ ok' ρ₂ (exI₃ ++ ex) _ true σ₆ _ _ _ R₅ h6 fun b s₆ ρ₆ p₆ e R₆ S₆ => ?_
        subst e
        simp only [if_true]
        refine he _ ok' ρ₆ (exI₃ ++ ex) σ₆ w σ₇ s₆ _ _ R₆ h7 fun w₀ s₇ ρ₇ p₇ v₇ R₇ S₇ => ?_
        refine call_append (n := n) (D := compD D scope x) _ ok' ρ₇ (exI₃ ++ ex) σ₇ [.ref σ₁.objs.length, w] [.ref s₁.heap.objs.size, w₀] w' σ₈ s₇ _ _ R₇ ⟨⟨_, pre_get (p₂.trans (p₆.trans p₇)) (R₁.len' _), rfl⟩, v₇, trivial⟩ h8 fun _ s₈ ρ₈ p₈ _ R₈ S₈ => ?_
        exact again σ₈ hc8 hf₂ s₈ ρ₈ (p₆.trans (p₇.trans p₈)) R₈ ((⟨S₆.os, S₆.gens, S₆.more, S₆.bare⟩ : Same s₃ s₆).trans (S₇.trans S₈))
      · rename_i σ₆ h6
        split at hf₂
        case isFalse => cases hf₂
        rename_i hc6
        refine hP ?_
        refine ht _ ok' ρ₂ (exI₃ ++ ex) _ false σ₆ _ _ _ R₅ h6 fun b s₆ ρ₆ p₆ e R₆ S₆ => ?_
        subst e
        simp only [Bool.false_eq_true, if_false]
        exact again σ₆ hc6 hf₂ s₆ ρ₆ p₆ R₆ ⟨S₆.os, S₆.gens, S₆.more, S₆.bare⟩
      · cases hf₂
  have iterSelf : ∀ s₃ : Shared, s₃ = { s₁ with heap := h₁, toks := s₁.toks + ([] : List (Str × Value)).length } → ∀ (Q : Value → Shared → Prop) (E' : Value → Shared → Prop), Q (.ref I) s₃ → wpAny (model X.prog X.w) c.A (pyIter (.ref I)) Q E' s₃ := by
    rintro s₃ rfl Q E' hQ
    exact raw.self 0 _ _ exI _ _ Q E' hst Rc.swapEx hQ
  exact codeAny_compStart_list (loop _ rfl) (iterSelf _ rfl _ _ (loop _ rfl))

theorem ev_comp {elt iter : Expr} {x : Str} {px : Pos} {ifs : List Expr} {scope : Scope} {pos : Pos} {fi : AS → Option ((List AV × (AS → Bool)) × AS)} {ft : AS → Option (Bool × AS)} {fe : AS → Option (AV × AS)}
    (hco : CompOK D scope x = true) (hi : RJ X n D iter fi) (ht : IFJ X n (compD D scope x) ifs ft) (he : EVJ X n (compD D scope x) elt fe) (hs : ∀ env x, foldedSetIterable iter env x = pure x) : EVJ X n D (.ListComp elt [⟨.Name x px, iter, ifs, 0⟩] scope pos) (compA fi ft fe) := by
  intro c ok ρ ex σ v σ' s Q E hR hf k
  have hco' := hco
  simp only [CompOK, Bool.and_eq_true, decide_eq_true_eq, List.all_eq_true, bne_iff_ne, ne_eq, Bool.or_eq_true, beq_iff_eq] at hco'
  obtain ⟨⟨⟨⟨⟨hcv, hkd⟩, hcell⟩, hloc⟩, hx⟩, hfree⟩ := hco'
  rw [eval_ListComp]
  refine wpAny_comprehension_free (use := none) rfl (hs _) (closureFor_is fun p hp hk => ?_) hkd (fun y hy e => (hloc y hy).resolve_left (fun q => q e)) ?_
  · have : p.1 ∈ freeOf scope.names := List.mem_map.mpr ⟨p, List.mem_filter.mpr ⟨hp, by simp [hk]⟩, rfl⟩
    obtain ⟨q, hq, e⟩ := List.any_eq_true.mp (hfree _ this)
    obtain ⟨a, h1, _⟩ := hR.cel q hq
    exact ⟨a, by rw [← (beq_iff_eq.mp e : q.1 = p.1)]; exact h1⟩
  · refine comp_core (RR := fun acc C => compPost (model X.prog X.w) c.A E none Q acc C) ok hco hi ht he hR hf fun acc C o m s' ρ' p' va R' hn S' => ?_
    refine ⟨m, hn _ (R'.exGet (p := (C, o)) (.head _)), fun h' hs' => ?_⟩
    exact k acc _ ρ' p' va (R'.walkDrop (exI := [(C, o)]) (wr := [C]) (fun b hb => hb) fun b ob hb e => hs'.extBut b ob (fun q => hb (q ▸ .head _)) e) ⟨S'.os, S'.gens, S'.more, S'.bare⟩

theorem ex_assignComp {y : Str} {pos' apos : Pos} {elt iter : Expr} {x : Str} {px : Pos} {ifs : List Expr} {scope : Scope} {pos : Pos} {fi : AS → Option ((List AV × (AS → Bool)) × AS)} {ft : AS → Option (Bool × AS)} {fe : AS → Option (AV × AS)} (i : Var)
    (hco : CompOK D scope x = true) (hi : RJ X n D iter fi) (ht : IFJ X n (compD D scope x) ifs ft) (he : EVJ X n (compD D scope x) elt fe) (hs : ∀ env x, foldedSetIterable iter env x = pure x) (hnd : D.names.Nodup) (hy : VarOK D y i = true)
    (hsw : ∀ env, env.scope = D.cs → swapsWith (.ListComp elt [⟨.Name x px, iter, ifs, 0⟩] scope pos) (some (.Name y pos')) apos.line env = pure true) :
    EXJ X n D (.Assign [.Name y pos'] (.ListComp elt [⟨.Name x px, iter, ifs, 0⟩] scope pos) apos) (asgA i (compA fi ft fe)) := by
  intro c ok ρ ex σ v σ' s Q E hR hf k
  have hco' := hco
  simp only [CompOK, Bool.and_eq_true, decide_eq_true_eq, List.all_eq_true, bne_iff_ne, ne_eq, Bool.or_eq_true, beq_iff_eq] at hco'
  obtain ⟨⟨⟨⟨⟨hcv, hkd⟩, hcell⟩, hloc⟩, hx⟩, hfree⟩ := hco'
  delta asgA at hf
  split at hf
  case h_2 => cases hf
  rename_i a σ₁ h1
  split at hf
  case h_2 => cases hf
  rename_i σ₂ h2
  cases hf
  rw [exec_Assign_Name_used _ _ _ _ (hsw _ ok.escope), arm_evalThenUse_ListComp]
  refine wpAny_bind (wpAny_standAt (wpAny_bind ?_))
  refine wpAny_bind ?_
  refine wpAny_comprehension_free (use := some _) rfl (hs _) (closureFor_is fun p hp hk => ?_) hkd (fun y hy e => (hloc y hy).resolve_left (fun q => q e)) ?_
  · have : p.1 ∈ freeOf scope.names := List.mem_map.mpr ⟨p, List.mem_filter.mpr ⟨hp, by simp [hk]⟩, rfl⟩
    obtain ⟨q, hq, e⟩ := List.any_eq_true.mp (hfree _ this)
    obtain ⟨b, g1, _⟩ := hR.cel q hq
    exact ⟨b, by rw [← (beq_iff_eq.mp e : q.1 = p.1)]; exact g1⟩
  · refine comp_core (RR := fun acc C => compPost (model X.prog X.w) c.A E (some _) _ acc C) ok hco hi ht he hR h1 fun acc C o m s' ρ' p' va R' hn S' => ?_
    refine wpAny_assign_Name (store_ok ok R' va hnd hy h2 fun s₂ R₂ S₂ => ?_)
    refine ⟨m, hn _ (R₂.exGet (p := (C, o)) (.head _)), fun h' hs' => ?_⟩
    refine wpAny_pure (wpAny_pure ?_)
    exact k _ _ ρ' p' rfl (R₂.walkDrop (exI := [(C, o)]) (wr := [C]) (fun b hb => hb) fun b ob hb e => hs'.extBut b ob (fun q => hb (q ▸ .head _)) e) (S'.trans ⟨S₂.os, S₂.gens, S₂.more, S₂.bare⟩)
end Mine
-- part M15
open PySem.Sem (wp)
namespace Mine

section
variable {M : Model} {A : Around} {R : GenEnd} {Y : Protocol} {n : Nat} {s₀ : Shared} {c : Code} {fs : List Frame} {s : Shared} {env : Env}
  {K : Flow → Sem Fin} {H : Value → Sem Fin} {gd : Bool → Bool} {lv : List Value → List Value}
theorem gseg_stmt {st : Stmt} (h : wpAny M (A.over c fs) (exec st env) (fun f s' => Seg M A R Y n s₀ c (K f) fs s') (fun x s' => Seg M A R Y n s₀ c (H x) fs s') s) :
    Seg M A R Y n s₀ c ((exec st env).wrap K H gd lv) fs s := seg_wrap h
theorem gseg_If {test : Expr} {b o : List Stmt} {pos : Pos}
    (h : wpAny M (A.over c fs) (isTrue test env (eval test env)) (fun r s' => Seg M A R Y n s₀ c ((execs (if r = true then b else o) env).wrap K H gd lv) fs s') (fun x s' => Seg M A R Y n s₀ c (H x) fs s') s) :
    Seg M A R Y n s₀ c ((exec (.If test b o pos) env).wrap K H gd lv) fs s := by
  have e : exec (.If test b o pos) env = (do standAt pos; if ← isTrue test env (eval test env) then execs b env else execs o env) := rfl
  rw [e]
  refine seg_bind_wrap (wpAny_standAt (seg_bind_wrap (wpAny_mono h (fun r s' hr => ?_) fun _ _ z => z)))
  cases r with
  | true => exact hr
  | false => exact hr
theorem gseg_For {target iter : Expr} {body orelse : List Stmt} {pos : Pos} (hs : ∀ x, foldedSetIterable iter env x = pure x)
    (h : wpAny M (A.over c fs) (eval iter env) (fun x s₁ => wpAny M (A.over c fs) (pyIter x) (fun it s₂ => ∀ p, Seg M A R Y n s₀ (.forLoop target it body orelse env) (M.den (.forLoop target it body orelse env))
      (.ret (fun r => ((match r with | .ok f => (.pure f : Sem Flow) | .error e => .raise e).onRaise fun (x : Value) => do
        if (← field x 1) == Value.none then unsupported "frame.own-activation:exception-without-traceback"
        setFlight x env.frame).wrap K H gd lv) none (gd false) (lv []) c p [] :: fs) s₂) (fun x s' => Seg M A R Y n s₀ c (H x) fs s') s₁) (fun x s' => Seg M A R Y n s₀ c (H x) fs s') s) :
    Seg M A R Y n s₀ c ((exec (.For target iter body orelse pos) env).wrap K H gd lv) fs s := by
  rw [exec_For]
  refine seg_bind_wrap (wpAny_standAt (seg_bind_wrap (wpAny_mono h (fun x s₁ h₁ => seg_bind_wrap (wpAny_of_eq (hs x) (seg_bind_wrap (wpAny_standAt ?_)))) fun _ _ z => z)))
  refine seg_bind_wrap (wpAny_holding (wpAny_mono h₁ (fun it s₂ h₂ => ?_) fun _ _ z => z))
  exact seg_call h₂
end
section
variable {prog : Program} {w : World} {A : Around} {R : GenEnd} {Y : Protocol} {n : Nat} {s₀ : Shared} {fs : List Frame} {s : Shared} {env : Env}
theorem gseg_forLoop {target : Expr} {it : Value} {body orelse : List Stmt}
    (h : wpAny (model prog w) (A.over (.forLoop target it body orelse env) fs) (pyNext it) (fun r s₁ => match r with
      | none => Seg (model prog w) A R Y n s₀ (.block orelse env) ((model prog w).den (.block orelse env)) fs s₁
      | some v => wpAny (model prog w) (A.over (.forLoop target it body orelse env) fs) (letOwnedTupleGo target it v) (fun _ s₂ => wpAny (model prog w) (A.over (.forLoop target it body orelse env) fs) (assign target env v) (fun _ s₃ =>
          Seg (model prog w) A R Y n s₀ (.forLoop target it body orelse env) ((execs body env).wrap (fun f => match f with
            | .next | .cont => .pure (.again (.forLoop target it body orelse env))
            | .brk => .pure (.done .next)
            | .ret v => .pure (.done (.ret v))) (fun e => (do noteFrame e env; theTreesLotGoes e : Sem Unit).wrap (fun _ => .raise e) .raise id id) id id) fs s₃)
        (fun x s' => Seg (model prog w) A R Y n s₀ (.forLoop target it body orelse env) ((do noteFrame x env; theTreesLotGoes x : Sem Unit).wrap (fun _ => .raise x) .raise id id) fs s') s₂)
        (fun x s' => Seg (model prog w) A R Y n s₀ (.forLoop target it body orelse env) ((do noteFrame x env; theTreesLotGoes x : Sem Unit).wrap (fun _ => .raise x) .raise id id) fs s') s₁)
      (fun x s' => Seg (model prog w) A R Y n s₀ (.forLoop target it body orelse env) ((do noteFrame x env; theTreesLotGoes x : Sem Unit).wrap (fun _ => .raise x) .raise id id) fs s') s)
    (hq : Code.quiet (.block orelse env) = true) : Seg (model prog w) A R Y n s₀ (.forLoop target it body orelse env) ((model prog w).den (.forLoop target it body orelse env)) fs s := by
  show Seg _ A R Y n s₀ _ ((forTurn target it body orelse env).onRaise (fun x => do noteFrame x env; theTreesLotGoes x)) fs s
  unfold forTurn
  have hraise : ∀ (x : Value) (s' : Shared), Seg (model prog w) A R Y n s₀ (.forLoop target it body orelse env) ((do noteFrame x env; theTreesLotGoes x : Sem Unit).wrap (fun _ => .raise x) .raise id id) fs s' →
      Seg (model prog w) A R Y n s₀ (.forLoop target it body orelse env) ((do noteFrame x env; theTreesLotGoes x : Sem Unit).bind fun _ => .raise x) fs s' := fun x s' hx => by rw [Sem.bind_eq_wrap]; exact hx
  rw [Sem.onRaise_eq_wrap]
  refine seg_bind_wrap (wpAny_standAt ?_)
  refine seg_bind_wrap (wpAny_onRaise (wpAny_mono h (fun r s₁ h₁ => ?_) fun x s' hx => wpAny_standAt (hraise x s' hx)))
  cases r with
  | none => exact seg_again hq h₁
  | some v =>
    refine seg_bind_wrap (wpAny_mono h₁ (fun _ s₂ h₂ => ?_) hraise)
    refine seg_bind_wrap (wpAny_mono h₂ (fun _ s₃ h₃ => ?_) hraise)
    rw [Sem.bind_eq_wrap', Sem.wrap_wrap]
    rw [Sem.wrap_congr (execs body env) _ _ (K' := fun f => match f with
            | .next | .cont => .pure (.again (.forLoop target it body orelse env))
            | .brk => .pure (.done .next)
            | .ret v => .pure (.done (.ret v))) (H' := (fun e => (do noteFrame e env; theTreesLotGoes e : Sem Unit).wrap (fun _ => .raise e) .raise id id))
        (fun f => by cases f <;> rfl)
        (fun e => by first | exact Sem.bind_eq_wrap _ _ | (show (do noteFrame e env; theTreesLotGoes e : Sem Unit).bind (fun _ => .raise e) = _; rw [Sem.bind_eq_wrap]))]
    exact h₃
theorem gseg_block_nil (h : Seg (model prog w) A R Y n s₀ (.block [] env) (.pure (.done .next)) fs s) :
    Seg (model prog w) A R Y n s₀ (.block [] env) ((model prog w).den (.block [] env)) fs s := by
  show Seg _ A R Y n s₀ _ (_) fs s
  exact h

theorem pyNext_genF {E : Value → Shared → Prop} {a : Addr} {g n : Nat} {gs : GenState} {P : Nat → Shared → Shared → Prop} {Y : Protocol} {Q : Option Value → Shared → Prop} (hh : A.handled = none)
    (hl : s.heap.NoLimit) (hroom : A.depth < recursionLimit)
    (hg : s.heap.IsGen a g) (hgs : s.gens[g]? = some gs)
    (hgo : gs.Goes (model prog w) A.in1 (fun n s₀ r s₁ => r = .ok (.ret .none) ∧ P n s₀ s₁) Y n (.send .none) (s.setGen g .running))
    (hY : ∀ v s₁ gs', gs'.bare = true → Y (n - 1) (s.setGen g .running) v s₁ (fun r' s'' => match n with
        | 0 => False
        | m + 1 => gs'.Goes (model prog w) A.in1 (fun n s₀ r s₁ => r = .ok (.ret .none) ∧ P n s₀ s₁) Y m r' s'') → Q (some v) (s₁.setGen g gs'))
    (hP : ∀ s₁, P n (s.setGen g .running) s₁ → ∀ h', (∀ b o, s₁.heap.get? b = some o → h'.get? b = some o) → Q none { s₁.setGen g .finished with heap := h' }) :
    wpAny (model prog w) A (pyNext (.ref a)) Q E s := by
  unfold pyNext
  refine wpAny_bind (wpAny_attempt (wpAny_callSpecial?_slot (name := Str.ofString "__next__") hg.typeIs slot_gen_next
    (wpAny_call_entry slot_gen_next hg.typeIs entry_gen_next ?_ (args_gen_next _))))
  show wpAny _ A.in1 (Builtin.Generator.genWake (.ref a) (.send .none)) _ _ s
  unfold Builtin.Generator.genWake
  refine wpAny_bind (wpAny_holding (wpAny_genNumber hg (wpAny_bind (wpAny_genState hgs ?_))))
  cases gs with
  | running => exact hgo.elim
  | finished => exact hgo.elim
  | _ =>
    refine wpAny_bind (wpAny_roomToWake hl hroom ?_)
    show wpAny _ A.in1 (.resume g (.send .none) [] _) _ _ s
    refine wpAny_resumeQ hgs hgo (fun x s₁ hx => ?_) (fun v s₁ gs' hb hv => ?_)
    · obtain ⟨rfl, hp⟩ := hx
      show wpAny _ A.in1 (newExc (.type "StopIteration") [] >>= _) _ _ _
      refine wpAny_bind ?_
      simp only [newExc, newTuple]
      refine wpAny_bind (wpAny_newObj_type ?_ (by size_fits))
      refine wpAny_bind (m := firstArgMember _ _) (wpAny_of_eq (a := Value.none) (by first | rfl | (simp only [firstArgMember]; rfl)) ?_)
      refine wpAny_newObj_type ?_ (by size_fits)
      simp only [raiseNew]
      refine wpAny_bind (wpAny_bind (wpAny_handled ?_))
      first | rw [show A.in1.handled = none from hh] | rw [hh]
      refine wpAny_throw ?_
      refine wpAny_bind (wpAny_isInstance (T := "StopIteration") (b := true) ⟨_, Heap.get?_push_size _ rfl, rfl⟩ isSubtype_stop ?_)
      exact wpAny_pure (hP s₁ hp _ fun b o hb => Heap.get?_push_of_some _ (Heap.get?_push_of_some _ hb))
    · exact wpAny_pure ⟨v, rfl, wpAny_pure (hY v s₁ gs' hb hv)⟩
end
end Mine
-- part M16
open PySem.Sem (wp)
namespace Mine

noncomputable def escGo : Bool → Int → List Nat → List (Int × Str)
  | esc, i, [] => if esc then [(i - 1, ⟨#[92]⟩)] else []
  | true, i, c :: r => (i, ⟨#[92, c]⟩) :: escGo false (i + 1) r
  | false, i, c :: r => if c = 92 then escGo true (i + 1) r else (i, ⟨#[c]⟩) :: escGo false (i + 1) r
noncomputable def escPend : Bool → List Nat → Bool
  | esc, [] => esc
  | true, _ :: r => escPend false r
  | false, c :: r => if c = 92 then escPend true r else escPend false r
theorem escPend_pos : ∀ (l : List Nat) (esc : Bool) (i : Int), escPend esc l = true → 0 < (escGo esc i l).length
  | [], esc, i, h => by
    have : esc = true := by simpa [escPend] using h
    subst this; simp [escGo]
  | c :: r, true, i, h => by simp [escGo]
  | c :: r, false, i, h => by
    unfold escGo; unfold escPend at h
    split
    · rename_i hc; rw [if_pos hc] at h; exact escPend_pos r true _ h
    · simp
noncomputable def escOut (x : Str) : List (Int × Str) := escGo false 0 x.cps.toList

noncomputable def escTarget (l : Nat) : Expr := .Tuple [.Name "pos" ⟨l + 3, 8, l + 3, 11⟩, .Name "ch" ⟨l + 3, 13, l + 3, 15⟩] 0 ⟨l + 3, 8, l + 3, 15⟩
noncomputable def escLoopBody (l : Nat) : List Stmt := [.If (.Name "escape" ⟨l + 4, 11, l + 4, 17⟩)
  [.Expr (.Yield (some (.Tuple [.Name "pos" ⟨l + 5, 19, l + 5, 22⟩, .BinOp (.Constant (.str "\\") 0 ⟨l + 5, 24, l + 5, 28⟩) .Add (.Name "ch" ⟨l + 5, 31, l + 5, 33⟩) ⟨l + 5, 24, l + 5, 33⟩] 0 ⟨l + 5, 18, l + 5, 34⟩)) ⟨l + 5, 12, l + 5, 34⟩) ⟨l + 5, 12, l + 5, 34⟩,
   .Assign [.Name "escape" ⟨l + 6, 12, l + 6, 18⟩] (.Constant (.bool false) 0 ⟨l + 6, 21, l + 6, 26⟩) ⟨l + 6, 12, l + 6, 26⟩]
  [.If (.Compare (.Name "ch" ⟨l + 7, 13, l + 7, 15⟩) [.Eq] [.Constant (.str "\\") 0 ⟨l + 7, 19, l + 7, 23⟩] ⟨l + 7, 13, l + 7, 23⟩)
    [.Assign [.Name "escape" ⟨l + 8, 12, l + 8, 18⟩] (.Constant (.bool true) 0 ⟨l + 8, 21, l + 8, 25⟩) ⟨l + 8, 12, l + 8, 25⟩]
    [.Expr (.Yield (some (.Tuple [.Name "pos" ⟨l + 10, 19, l + 10, 22⟩, .Name "ch" ⟨l + 10, 24, l + 10, 26⟩] 0 ⟨l + 10, 18, l + 10, 27⟩)) ⟨l + 10, 12, l + 10, 27⟩) ⟨l + 10, 12, l + 10, 27⟩] ⟨l + 7, 8, l + 10, 27⟩] ⟨l + 4, 8, l + 10, 27⟩]
noncomputable def escLast (l : Nat) : Stmt := .If (.Name "escape" ⟨l + 11, 7, l + 11, 13⟩)
    [.Expr (.Yield (some (.Tuple [.Name "pos" ⟨l + 12, 15, l + 12, 18⟩, .Constant (.str "\\") 0 ⟨l + 12, 20, l + 12, 24⟩] 0 ⟨l + 12, 14, l + 12, 25⟩)) ⟨l + 12, 8, l + 12, 25⟩) ⟨l + 12, 8, l + 12, 25⟩] [] ⟨l + 11, 4, l + 12, 25⟩
noncomputable def escBody (l : Nat) : List Stmt := [
  .Assign [.Name "pos" ⟨l + 1, 4, l + 1, 7⟩] (.Constant (.int 0) 0 ⟨l + 1, 10, l + 1, 11⟩) ⟨l + 1, 4, l + 1, 11⟩,
  .Assign [.Name "escape" ⟨l + 2, 4, l + 2, 10⟩] (.Constant (.bool false) 0 ⟨l + 2, 13, l + 2, 18⟩) ⟨l + 2, 4, l + 2, 18⟩,
  .For (escTarget l) (.Call (.Name "enumerate" ⟨l + 3, 19, l + 3, 28⟩) [.Name "addr" ⟨l + 3, 29, l + 3, 33⟩] [] ⟨l + 3, 19, l + 3, 34⟩) (escLoopBody l) [] ⟨l + 3, 4, l + 10, 27⟩,
  escLast l]
noncomputable def escScope : Scope := { kind := .function, names := [("addr", .local), ("pos", .local), ("escape", .local), ("ch", .local), ("enumerate", .globalImplicit)], isGenerator := true, isCoroutine := false, more := [] }

theorem drawsStr {prog : Program} {w : World} {A : Around} (hh : A.handled = none) (it : Addr) (x : Str) (t : Tok) :
    Draws prog w A it [it] x.cps.size (fun i v => ∃ c u, x.cps[i]? = some c ∧ v = .str ⟨#[c]⟩ u) (fun i h => h.IsStrIter it (strIterType x) x t i) := by
  unfold strIterType
  split
  · exact Draws.strAscii hh it x t
  · exact Draws.strWide hh it x t

noncomputable def escTr (pd : Bool) (Lg e it : Addr) (m : Nat) : List Addr := if m = 0 ∧ pd = true then [Lg] else [Lg, e, it]
noncomputable def escY (x : Str) (pd : Bool) (Lg e it : Addr) : Protocol := fun m s₀ v s kap => ∃ (T : Addr) (i : Int) (tk : Tok) (c : Str) (tc : Tok), (escOut x)[(escOut x).length - 1 - m]? = some (i, c) ∧ v = .ref T ∧ s.heap.IsTuple T #[.int i tk, .str c tc] ∧
  GenSince Lg [e, it] s₀ s ∧ (∀ b ∈ escTr pd Lg e it m, ∃ o, s.heap.get? b = some o) ∧ ∀ s'' : Shared, (∀ b ∈ escTr pd Lg e it m, ∀ o, s.heap.get? b = some o → s''.heap.get? b = some o) → kap (.send .none) s''
noncomputable def escP (pd : Bool) (Lg e it : Addr) : Nat → Shared → Shared → Prop := fun n s₀ s₁ => n = 0 ∧ GenSince Lg (if pd = true then [] else [e, it]) s₀ s₁

section
variable {prog : Program} {w : World} {A : Around} {env : Env} {x : Str} {t : Tok} {e it : Addr} {l : Nat}

structure EscNs (env : Env) (x : Str) (t : Tok) (p : Int) (esc : Bool) (h : Heap) : Prop where
  ns : ∃ m, h.Ns env.locals m ∧ m "addr" = some (.str x t) ∧ m "escape" = some (.bool esc) ∧ ∃ tp, m "pos" = some (.int p tp)
structure EscNs2 (env : Env) (x : Str) (t : Tok) (p : Int) (esc : Bool) (c : Nat) (h : Heap) : Prop where
  ns : ∃ m, h.Ns env.locals m ∧ m "addr" = some (.str x t) ∧ m "escape" = some (.bool esc) ∧ (∃ tp, m "pos" = some (.int p tp)) ∧ ∃ tc, m "ch" = some (.str ⟨#[c]⟩ tc)
theorem EscNs2.drop {p : Int} {esc : Bool} {c : Nat} {h : Heap} (z : EscNs2 env x t p esc c h) : EscNs env x t p esc h := let ⟨m, a, b, d, f, _⟩ := z.ns; ⟨m, a, b, d, f⟩
theorem EscNs.keeps {p : Int} {esc : Bool} {h h' : Heap} (z : EscNs env x t p esc h) (hk : ∀ o, h.get? env.locals = some o → h'.get? env.locals = some o) : EscNs env x t p esc h' := let ⟨m, a, b⟩ := z.ns; ⟨m, a.at' hk, b⟩

section
variable {M : Model} {E : Value → Shared → Prop} {s : Shared}
theorem esc_ld {y : Str} {pos : Pos} {m : Str → Option Value} {v : Value} {Q : Value → Shared → Prop} (hs : env.scope = escScope) (hn : s.heap.Ns env.locals m) (hv : m y = some v) (hy : escScope.names.lookup y = some .local) (hd : (y == ("__debug__" : Str)) = false) (h : Q v s) :
    wpAny M A (eval (.Name y pos) env) Q E s := wpAny_Name (wpAny_loadName_local (by rw [hs]; rfl) (by show env.scope.names.lookup y = _; rw [hs]; exact hy) hn hv h) hd
theorem esc_st {y : Str} {pos' pos : Pos} {b : Bool} {q : Nat} {qp : Pos} {m : Str → Option Value} {Q : Flow → Shared → Prop} (hs : env.scope = escScope) (hn : s.heap.Ns env.locals m) (hy : escScope.names.lookup y = some .local)
    (h : ∀ h', h'.Ns env.locals (fun z => if z = y then some (.bool b) else m z) → Heap.SameBut env.locals s.heap h' → Q .next { s with heap := h', toks := s.toks + 1 }) : wpAny M A (exec (.Assign [.Name y pos'] (.Constant (.bool b) q qp) pos) env) Q E s := by
  refine wpAny_Assign_Name (wpAny_Constant_bool ?_) rfl
  exact wpAny_storeName_local (by show env.scope.names.lookup y = _; rw [hs]; exact hy) hn h (by rw [hs]; rfl)
theorem esc_test {pos : Pos} {p : Int} {esc : Bool} {Q : Bool → Shared → Prop} (hs : env.scope = escScope) (z : EscNs env x t p esc s.heap) (h : Q esc s) : wpAny M A (isTrue (.Name "escape" pos) env (eval (.Name "escape" pos) env)) Q E s := by
  obtain ⟨m, hn, _, he, _⟩ := z.ns
  exact isTrue_plain (esc_ld hs hn he (by decide) (by decide) (wpAny_truthy_bool h)) rfl
end

theorem bs_eq (c : Nat) : ((⟨#[c]⟩ : Str) == ("\\" : Str)) = decide (c = 92) := by
  have e : ("\\" : Str) = ⟨#[92]⟩ := by decide
  rw [e]
  by_cases hc : c = 92
  · subst hc; decide
  · rw [decide_eq_false hc]
    simpa using hc
theorem bs_cat (c : Nat) : (("\\" : Str) ++ (⟨#[c]⟩ : Str)) = ⟨#[92, c]⟩ := by
  have e : ("\\" : Str) = ⟨#[92]⟩ := by decide
  rw [e]; rfl
theorem bs_is : ("\\" : Str) = ⟨#[92]⟩ := by decide

theorem esc_yield {pd : Bool} {s : Shared} {i : Int} {tk tc : Tok} {c : Str} {s₀ : Shared} {n : Nat} {kap : Resume → Shared → Prop} (hi : (escOut x)[(escOut x).length - 1 - n]? = some (i, c)) (hg : GenSince env.locals [e, it] s₀ s)
    (hl : ∀ b ∈ escTr pd env.locals e it n, ∃ o, s.heap.get? b = some o)
    (hk : ∀ s'' : Shared, (∀ b ∈ escTr pd env.locals e it n, ∀ o, s.heap.get? b = some o → s''.heap.get? b = some o) → kap (.send .none) s'') :
    escY x pd env.locals e it n s₀ (.ref s.heap.objs.size) { s with heap := s.heap.push { cls := .type "tuple", data := .seq [Value.int i tk, Value.str c tc].toArray } } kap := by
  refine ⟨_, i, tk, c, tc, hi, rfl, ⟨_, Heap.get?_push_size _ rfl, rfl, 0, rfl⟩, hg.step fun b o _ _ q => Heap.get?_push_of_some _ q, fun b hb => ?_, fun s'' hs => hk s'' fun b hb o ho => hs b hb o (Heap.get?_push_of_some _ ho)⟩
  obtain ⟨o, ho⟩ := hl b hb
  exact ⟨o, Heap.get?_push_of_some _ ho⟩

theorem rem_head {α : Type} {out rem : List α} {a : α} {r : List α} (h : out.drop (out.length - rem.length) = rem) (he : rem = a :: r) (hle : rem.length ≤ out.length) : out[out.length - 1 - r.length]? = some a ∧ out.drop (out.length - r.length) = r ∧ r.length ≤ out.length := by
  subst he
  simp only [List.length_cons] at h hle
  have e1 : out.length - 1 - r.length = out.length - (r.length + 1) := by omega
  have e2 : out.length - r.length = out.length - (r.length + 1) + 1 := by omega
  rw [e1, e2]
  exact ⟨(drop_cons h).1, (drop_cons h).2, by omega⟩

noncomputable abbrev escK : Flow → Sem Fin := fun f => .pure (.done (.ret (match f with | .ret v => v | _ => .none)))
noncomputable abbrev escR (P : Nat → Shared → Shared → Prop) : GenEnd := fun n s₀ r s₁ => r = .ok (.ret .none) ∧ P n s₀ s₁

theorem esc_last {pd : Bool} (hs : env.scope = escScope) {H : Value → Sem Fin} {body : List Stmt} {p : Int} {esc : Bool} {rem : List (Int × Str)} {s₀ s : Shared}
    (z : EscNs env x t p esc s.heap) (hg : GenSince env.locals [e, it] s₀ s) (hpd : esc = pd) (hp : ∃ i : Int, rem = escGo esc i [] ∧ (esc = true → p = i - 1))
    (hr : (escOut x).drop ((escOut x).length - rem.length) = rem) (hle : rem.length ≤ (escOut x).length) :
    Seg (model prog w) A (escR (escP pd env.locals e it)) (escY x pd env.locals e it) rem.length s₀ (.func body env) ((execs [escLast l] env).wrap escK H id id) [] s := by
  refine seg_execs_cons (gseg_If (esc_test hs z ?_))
  subst hpd
  cases esc with
  | false =>
    obtain ⟨i, rfl, _⟩ := hp
    exact seg_execs_nil (seg_execs_nil (seg_end (.ok (.ret .none)) ⟨rfl, rfl, hg⟩))
  | true =>
    obtain ⟨i, hrem, hpi⟩ := hp
    have hpi := hpi rfl
    have hrem' : rem = [(p, ⟨#[92]⟩)] := by rw [hrem, hpi]; rfl
    obtain ⟨g1, g2, g3⟩ := rem_head hr hrem' hle
    rw [hrem']
    obtain ⟨m, hn, _, _, tp, hpos⟩ := z.ns
    refine seg_execs_cons (seg_Expr_Yield (n := 0) rfl rfl rfl ?_ (by rw [hs]; rfl) (by show (env.scope.kind == .module && _) = false; rw [hs]; rfl))
    refine Tuple_ (args_cons (esc_ld hs hn hpos (by decide) (by decide) (args_cons (wpAny_Constant_str (args_nil ?_)))))
    refine wpAny_newTuple (fun kap hkap => ?_) (big_line (by show 2 ≤ 100000; decide))
    rw [bs_is]
    refine esc_yield (s := { s with toks := s.toks + 1 }) (n := 0) g1 (hg.step fun b o _ _ q => q) (fun b hb => ?_) fun s'' hs'' => hkap .none s'' ?_
    · rw [List.mem_singleton.mp (show b ∈ [env.locals] from hb)]
      obtain ⟨o, _, _, ho, _⟩ := hn
      exact ⟨o, ho⟩
    · exact seg_execs_nil (seg_execs_nil (seg_end (.ok (.ret .none)) ⟨rfl, rfl, GenSince.refl _ _ _⟩))


structure EscAt (prog : Program) (w : World) (env : Env) (x : Str) (t : Tok) (e it : Addr) (i : Nat) (p : Int) (esc : Bool) (h : Heap) : Prop where
  ns : EscNs env x t p esc h
  st : (∃ old, IsEnum h e it i old) ∧ h.IsStrIter it (strIterType x) x t i
  bound : i ≤ x.cps.size
  last : esc = true → p = (i : Int) - 1
theorem EscAt.live {i : Nat} {p : Int} {esc : Bool} {h : Heap} (z : EscAt prog w env x t e it i p esc h) : ∀ b ∈ [env.locals, e, it], ∃ o, h.get? b = some o := by
  intro b hb
  rcases List.mem_cons.mp hb with rfl | hb
  · obtain ⟨m, ⟨o, _, _, ho, _⟩, _⟩ := z.ns.ns; exact ⟨o, ho⟩
  · rcases List.mem_cons.mp hb with rfl | hb
    · obtain ⟨⟨old, he⟩, _⟩ := z.st; exact ⟨_, he⟩
    · rw [List.mem_singleton.mp hb]
      obtain ⟨_, o, ho, _⟩ := z.st; exact ⟨o, ho⟩
theorem EscAt.keeps {i : Nat} {p : Int} {esc : Bool} {h h' : Heap} (z : EscAt prog w env x t e it i p esc h) (hk : ∀ b ∈ [env.locals, e, it], ∀ o, h.get? b = some o → h'.get? b = some o) : EscAt prog w env x t e it i p esc h' := by
  refine ⟨z.ns.keeps fun o ho => hk _ (.head _) o ho, ?_, z.bound, z.last⟩
  obtain ⟨⟨old, he⟩, o, ho, r⟩ := z.st
  exact ⟨⟨old, hk e (.tail _ (.head _)) _ he⟩, o, hk it (.tail _ (.tail _ (.head _))) o ho, r⟩

theorem esc_loop {pd : Bool} (hh : A.handled = none) (hs : env.scope = escScope) (hei : e ≠ it) (hLe : env.locals ≠ e) (hLi : env.locals ≠ it) {H₀ : Value → Sem Fin} {k : Result → Sem Fin} {body : List Stmt} {p₀ : Pos} {hd : Option Value → Option Value} {g : Bool} {lv : List Value}
    (hfr : splitAtGen [Frame.ret k none g lv (.func body env) p₀ []] = none) (hgd : [Frame.ret k none g lv (.func body env) p₀ []].any Frame.guarded = false)
    (hk : k (.ok .next) = (execs [escLast l] env).wrap escK H₀ id id) :
    ∀ (d i : Nat) (p : Int) (esc : Bool) (rem : List (Int × Str)) (s₀ s : Shared), x.cps.size - i = d → EscAt prog w env x t e it i p esc s.heap → rem = escGo esc i (x.cps.toList.drop i) →
      (escOut x).drop ((escOut x).length - rem.length) = rem → rem.length ≤ (escOut x).length → escPend esc (x.cps.toList.drop i) = pd → GenSince env.locals [e, it] s₀ s →
      Seg (model prog w) A (escR (escP pd env.locals e it)) (escY x pd env.locals e it) rem.length s₀ (.forLoop (escTarget l) (.ref e) (escLoopBody l) [] env) ((model prog w).den (.forLoop (escTarget l) (.ref e) (escLoopBody l) [] env))
        [Frame.ret k none g lv (.func body env) p₀ []] s := by
  intro d
  induction d with
  | zero =>
    intro i p esc rem s₀ s hd z hrem hr hle hpd hg
    have hi : i = x.cps.size := by have := z.bound; omega
    refine gseg_forLoop ?_ rfl
    have hh' : (A.over (.forLoop (escTarget l) (.ref e) (escLoopBody l) [] env) [Frame.ret k none g lv (.func body env) p₀ []]).handled = none := by
      show (marksOver _ (A.handled, A.handled)).1 = none
      rw [hh]; rfl
    have W := WalksT.enumerateD (fp := [it]) (A := A.over (.forLoop (escTarget l) (.ref e) (escLoopBody l) [] env) [Frame.ret k none g lv (.func body env) p₀ []]) (drawsStr (A := (A.over (.forLoop (escTarget l) (.ref e) (escLoopBody l) [] env) [Frame.ret k none g lv (.func body env) p₀ []]).in1) (prog := prog) (w := w) hh' it x t) e hei (by simpa using hei) (.head _)
    refine W.done s _ _ (hi ▸ z.st) fun h' tk hk' => ?_
    have z' := z.ns.keeps (h' := h') fun o ho => hk' _ o (by simp [hLe, hLi]) ho
    refine gseg_block_nil (seg_leaf (.ok .next) ?_)
    rw [hk]
    exact esc_last hs z' (hg.step fun b o hb hw q => hk' b o (by simpa using hw) q) (by rw [hi, List.drop_of_length_le (by simp)] at hpd; simpa [escPend] using hpd) ⟨i, by rw [hrem, hi]; simp [List.drop_of_length_le], fun q => z.last q⟩ hr hle
  | succ d ih =>
    intro i p esc rem s₀ s hd z hrem hr hle hpd hg
    have hi : i < x.cps.size := by omega
    refine gseg_forLoop ?_ rfl
    have hh' : (A.over (.forLoop (escTarget l) (.ref e) (escLoopBody l) [] env) [Frame.ret k none g lv (.func body env) p₀ []]).handled = none := by
      show (marksOver _ (A.handled, A.handled)).1 = none
      rw [hh]; rfl
    have W := WalksT.enumerateD (fp := [it]) (A := A.over (.forLoop (escTarget l) (.ref e) (escLoopBody l) [] env) [Frame.ret k none g lv (.func body env) p₀ []]) (drawsStr (A := (A.over (.forLoop (escTarget l) (.ref e) (escLoopBody l) [] env) [Frame.ret k none g lv (.func body env) p₀ []]).in1) (prog := prog) (w := w) hh' it x t) e hei (by simpa using hei) (.head _)
    refine W.item i s _ _ hi z.st fun T vals h₁ tk₁ hPt hTs hT hMid hk₁ => ?_
    obtain ⟨ti, cv, ⟨c, tc, hc, rfl⟩, rfl⟩ := hPt
    refine W.go _ _ _ i T _ _ _ hMid fun h₂ hst₂ hk₂ => ?_
    have hT₂ : h₂.IsTuple T #[.int i ti, .str ⟨#[c]⟩ tc] := hT.at fun o ho => hk₂ T o (W.apart i T h₁ hMid) ho
    refine wpAny_assign_Tuple hh' hT₂ rfl rfl fun h₃ hx₃ => ?_
    have up₃ : ∀ b o, h₂.get? b = some o → h₃.get? b = some o := fun b o q => hx₃ b o (Nat.ne_of_lt (Heap.lt_size q)) q
    obtain ⟨m, hn, ha, hesc, tp, hpos⟩ := z.ns.ns
    have hLw : env.locals ∉ [e, it] := by simp [hLe, hLi]
    have hn₃ : h₃.Ns env.locals m := hn.at' fun o ho => up₃ _ o (hk₂ _ o hLw (hk₁ _ o hLw ho))
    have hkd : ∀ y : Str, escScope.names.lookup y = some .local → env.kindOf y = some .local := fun y hy => by show env.scope.names.lookup y = _; rw [hs]; exact hy
    have hpp : (env.scope.kind == .class || (env.scope.kind == .module && env.locals != env.globals)) = false := by rw [hs]; rfl
    refine wpAny_bind (wpAny_holding (wpAny_assign_Name (wpAny_storeName_local (hkd "pos" (by decide)) hn₃ (fun h₄ hn₄ hs₄ => ?_) hpp)))
    refine wpAny_bind (wpAny_holding (wpAny_assign_Name (wpAny_storeName_local (hkd "ch" (by decide)) hn₄ (fun h₅ hn₅ hs₅ => wpAny_pure ?_) hpp)))
    have up₅ : ∀ b o, b ≠ env.locals → b ∉ [e, it] → s.heap.get? b = some o → h₅.get? b = some o := fun b o hb hw q =>
      hs₅.extBut b o hb (hs₄.extBut b o hb (up₃ b o (hk₂ b o hw (hk₁ b o hw q))))
    have z₅ : EscNs2 env x t i esc c h₅ := ⟨_, hn₅, by rw [if_neg (by decide), if_neg (by decide)]; exact ha, by rw [if_neg (by decide), if_neg (by decide)]; exact hesc, ⟨ti, by rw [if_neg (by decide), if_pos rfl]⟩, ⟨tc, by rw [if_pos rfl]⟩⟩
    have hst₅ : (∃ old, IsEnum h₅ e it ((i + 1 : Nat) : Int) old) ∧ h₅.IsStrIter it (strIterType x) x t (i + 1) := W.frame _ _ _ hst₂ fun b hb o q => by
      have hbL : b ≠ env.locals := fun e' => hLw (e' ▸ hb)
      exact hs₅.extBut b o hbL (hs₄.extBut b o hbL (up₃ b o q))
    have hg₅ : GenSince env.locals [e, it] s₀ { s with heap := h₅, toks := tk₁ + 1 + 1 } := hg.step up₅
    have hdrop : x.cps.toList.drop i = c :: x.cps.toList.drop (i + 1) := by
      rw [List.drop_eq_getElem_cons (by simpa using hi)]
      have : x.cps.toList[i]? = some c := by simpa using hc
      rw [List.getElem?_eq_getElem (by simpa using hi)] at this
      cases this; rfl
    have again : ∀ (p' : Int) (esc' : Bool) (rem' : List (Int × Str)) (s₁ s' : Shared), EscNs env x t p' esc' s'.heap → ((∃ old, IsEnum s'.heap e it ((i + 1 : Nat) : Int) old) ∧ s'.heap.IsStrIter it (strIterType x) x t (i + 1)) → (esc' = true → p' = (i : Int)) →
        rem' = escGo esc' ((i : Int) + 1) (x.cps.toList.drop (i + 1)) → (escOut x).drop ((escOut x).length - rem'.length) = rem' → rem'.length ≤ (escOut x).length → escPend esc' (x.cps.toList.drop (i + 1)) = pd → GenSince env.locals [e, it] s₁ s' →
        Seg (model prog w) A (escR (escP pd env.locals e it)) (escY x pd env.locals e it) rem'.length s₁ (.forLoop (escTarget l) (.ref e) (escLoopBody l) [] env) (.pure (.again (.forLoop (escTarget l) (.ref e) (escLoopBody l) [] env))) [Frame.ret k none g lv (.func body env) p₀ []] s' := by
      intro p' esc' rem' s₁ s' zn zs hl' he' hr' hle' hpd' hg'
      exact seg_again rfl (ih (i + 1) p' esc' rem' s₁ s' (by omega) ⟨zn, zs, hi, fun q => by rw [hl' q]; push_cast; omega⟩ (by rw [he']; push_cast; rfl) hr' hle' hpd' hg')
    have zat : EscAt prog w env x t e it (i + 1) i esc h₅ := ⟨z₅.drop, hst₅, hi, fun _ => by push_cast; omega⟩
    have live₅ := zat.live
    have tr : ∀ m, ¬ (m = 0 ∧ pd = true) → escTr pd env.locals e it m = [env.locals, e, it] := fun m hm => if_neg hm
    refine seg_execs_cons (gseg_If (esc_test hs z₅.drop ?_))
    cases esc with
    | true =>
      have hpd1 : escPend false (x.cps.toList.drop (i + 1)) = pd := by rw [hdrop] at hpd; simpa [escPend] using hpd
      have hm := tr (escGo false ((i : Int) + 1) (x.cps.toList.drop (i + 1))).length fun q => by
        have := escPend_pos _ false ((i : Int) + 1) (hpd1.trans q.2); omega
      have hrem' : rem = ((i : Int), (⟨#[92, c]⟩ : Str)) :: escGo false ((i : Int) + 1) (x.cps.toList.drop (i + 1)) := by rw [hrem, hdrop]; rfl
      obtain ⟨g1, g2, g3⟩ := rem_head hr hrem' hle
      rw [hrem', List.length_cons]
      obtain ⟨m₅, hn5, _, _, ⟨tp5, hp5⟩, ⟨tc5, hc5⟩⟩ := z₅.ns
      simp only [if_true]
      refine seg_execs_cons (seg_Expr_Yield hfr rfl hgd ?_ (by rw [hs]; rfl) (by show (env.scope.kind == .module && _) = false; rw [hs]; rfl))
      refine Tuple_ (args_cons (esc_ld hs hn5 hp5 (by decide) (by decide) (args_cons (wpAny_BinOp (wpAny_Constant_str (esc_ld hs hn5 hc5 (by decide) (by decide) (PyProof.Rows.add_str (fun t' tk' => ?_) (by rw [sizeLine_eq, bs_is]; show 1 + 1 ≤ 16777216; decide))))) )))
      refine args_nil ?_
      refine wpAny_newTuple (fun kap hkap => ?_) (big_line (by show 2 ≤ 100000; decide))
      rw [bs_cat]
      refine esc_yield (s := { s with heap := h₅, toks := tk' }) g1 (hg₅.step fun b o _ _ q => q) (hm ▸ live₅) fun s'' hs'' => hkap .none s'' ?_
      rw [hm] at hs''
      have z'' := zat.keeps hs''
      obtain ⟨m6, hn6, ha6, he6, tp6, hp6⟩ := z''.ns.ns
      refine seg_execs_cons (gseg_stmt (esc_st hs hn6 (by decide) fun h₇ hn₇ hs₇ => ?_))
      refine seg_execs_nil (seg_execs_nil ?_)
      refine again i false _ _ _ ⟨_, hn₇, by rw [if_neg (by decide)]; exact ha6, by rw [if_pos rfl], tp6, by rw [if_neg (by decide)]; exact hp6⟩ ?_ (fun q => by cases q) rfl g2 g3 hpd1 ((GenSince.refl _ _ _).step fun b o hb hw q => hs₇.extBut b o hb q)
      exact W.frame _ _ _ z''.st fun b hb o q => hs₇.extBut b o (fun e' => hLw (e' ▸ hb)) q
    | false =>
      simp only [Bool.false_eq_true, if_false]
      refine seg_execs_cons (gseg_If ?_)
      obtain ⟨m₅, hn5, ha5, he5, ⟨tp5, hp5⟩, ⟨tc5, hc5⟩⟩ := z₅.ns
      refine wpAny_isTrue_Compare1 (esc_ld hs hn5 hc5 (by decide) (by decide) (wpAny_Constant_str (PyProof.Rows.eq_str (wpAny_truthy_bool ?_)))) rfl
      rw [bs_eq]
      by_cases hc92 : c = 92
      · have hrem' : rem = escGo true ((i : Int) + 1) (x.cps.toList.drop (i + 1)) := by rw [hrem, hdrop]; simp [escGo, hc92]
        rw [decide_eq_true hc92]
        simp only [if_true]
        refine seg_execs_cons (gseg_stmt (esc_st (s := { s with heap := h₅, toks := tk₁ + 1 + 1 + 1 }) hs hn5 (by decide) fun h₇ hn₇ hs₇ => ?_))
        refine seg_execs_nil (seg_execs_nil (seg_execs_nil ?_))
        refine again i true rem _ _ ⟨_, hn₇, by rw [if_neg (by decide)]; exact ha5, by rw [if_pos rfl], tp5, by rw [if_neg (by decide)]; exact hp5⟩ ?_ (fun _ => rfl) hrem' hr hle (by rw [hdrop] at hpd; simpa [escPend, hc92] using hpd) (hg₅.step fun b o hb hw q => hs₇.extBut b o hb q)
        exact W.frame _ _ _ zat.st fun b hb o q => hs₇.extBut b o (fun e' => hLw (e' ▸ hb)) q
      · have hrem' : rem = ((i : Int), (⟨#[c]⟩ : Str)) :: escGo false ((i : Int) + 1) (x.cps.toList.drop (i + 1)) := by rw [hrem, hdrop]; simp [escGo, hc92]
        obtain ⟨g1, g2, g3⟩ := rem_head hr hrem' hle
        have hpd1 : escPend false (x.cps.toList.drop (i + 1)) = pd := by rw [hdrop] at hpd; simpa [escPend, hc92] using hpd
        have hm := tr (escGo false ((i : Int) + 1) (x.cps.toList.drop (i + 1))).length fun q => by
          have := escPend_pos _ false ((i : Int) + 1) (hpd1.trans q.2); omega
        rw [decide_eq_false hc92, hrem', List.length_cons]
        simp only [Bool.false_eq_true, if_false]
        refine seg_execs_cons (seg_Expr_Yield hfr rfl hgd ?_ (by rw [hs]; rfl) (by show (env.scope.kind == .module && _) = false; rw [hs]; rfl))
        refine Tuple_ (args_cons (esc_ld hs hn5 hp5 (by decide) (by decide) (args_cons (esc_ld hs hn5 hc5 (by decide) (by decide) (args_nil ?_)))))
        refine wpAny_newTuple (fun kap hkap => ?_) (big_line (by show 2 ≤ 100000; decide))
        refine esc_yield (s := { s with heap := h₅, toks := tk₁ + 1 + 1 + 1 }) g1 (hg₅.step fun b o _ _ q => q) (hm ▸ live₅) fun s'' hs'' => hkap .none s'' ?_
        rw [hm] at hs''
        have z'' := zat.keeps hs''
        refine seg_execs_nil (seg_execs_nil (seg_execs_nil ?_))
        exact again i false _ _ _ z''.ns z''.st (fun q => by cases q) rfl g2 g3 hpd1 (GenSince.refl _ _ _)
end
end Mine
-- part M17
open PySem.Sem (wp)
namespace Mine
variable {X : Wd} {n : Nat} {D : FD}

theorem Rel.walkNew {c : Cx} {ρ : List Addr} {ex exI exI' : List (Addr × Obj)} {σ : AS} {h h' : Heap} (r : Rel X c D ρ (exI ++ ex) σ h) {wr : List Addr} (hwr : ∀ b ∈ wr, b ∈ exI.map (·.1)) (hk : ∀ b o, b ∉ wr → h.get? b = some o → h'.get? b = some o)
    (hnd : (exI'.map (·.1)).Nodup) (hn : ∀ p ∈ exI', h'.get? p.1 = some p.2 ∧ (p.1 ∈ exI.map (·.1) ∨ h.objs.size ≤ p.1)) : Rel X c D ρ (exI' ++ ex) σ h' := by
  have rd := r.walkDrop hwr hk
  obtain ⟨cv₀, hc₀, hv₀⟩ := r.core
  obtain ⟨m₀, os₀, F₀, N₀, O₀, hl₀, nd₀, lc₀⟩ := hc₀.all
  obtain ⟨cv, hc, hv⟩ := rd.core
  obtain ⟨m, os, F, N, O, hl, nd, lc⟩ := hc.all
  have hcvs : cv.map (·.1) = cv₀.map (·.1) := by
    cases hq : D.cvn with
    | none => rw [hq] at hv hv₀; rw [show cv = [] from hv, show cv₀ = [] from hv₀]
    | some y =>
      rw [hq] at hv hv₀
      obtain ⟨o, m, rfl, _⟩ := (hv : ∃ o m, cv = [(c.C, o)] ∧ _)
      obtain ⟨o', m', rfl, _⟩ := (hv₀ : ∃ o m, cv₀ = [(c.C, o)] ∧ _)
      rfl
  have nd1 := List.nodup_append.mp nd₀
  simp only [List.map_append] at nd1
  have nd2 := List.nodup_append.mp nd1.2.1
  have nd3 := List.nodup_append.mp nd2.2.1
  have old : ∀ b, (b ∈ ρ ∨ b ∈ cv.map (·.1) ∨ b ∈ ex.map (·.1)) → b ∉ exI.map (·.1) ∧ b < h.objs.size := by
    intro b hb
    rw [hcvs] at hb
    refine ⟨fun q => ?_, ?_⟩
    · rcases hb with hb | hb | hb
      · exact nd1.2.2 _ hb _ (List.mem_append_right _ (List.mem_append_left _ q)) rfl
      · exact nd2.2.2 _ hb _ (List.mem_append_left _ q) rfl
      · exact nd3.2.2 _ q _ hb rfl
    · have : b ∈ (ρ.zip os₀ ++ (cv₀ ++ (exI ++ ex))).map (·.1) := by
        rw [List.map_append, map_fst_zip hl₀]
        simp only [List.map_append, List.mem_append]
        rcases hb with hb | hb | hb
        · exact .inl hb
        · exact .inr (.inl hb)
        · exact .inr (.inr (.inr hb))
      obtain ⟨p, hp, rfl⟩ := List.mem_map.mp this
      exact Heap.lt_size (N₀ p hp).1
  have fresh : ∀ p ∈ exI', p.1 ≠ c.L ∧ c.h₀.get? p.1 = none := by
    intro p hp
    rcases (hn p hp).2 with hq | hq
    · obtain ⟨q, hq1, hq2⟩ := List.mem_map.mp hq
      have := (N₀ q (List.mem_append_right _ (List.mem_append_right _ (List.mem_append_left _ hq1)))).2
      rw [hq2] at this; exact this
    · refine ⟨fun e => ?_, ?_⟩
      · have := F₀.ns.lt; rw [← e] at this; exact Nat.lt_irrefl _ (Nat.lt_of_lt_of_le this hq)
      · cases q : c.h₀.get? p.1 with
        | none => rfl
        | some o' => exact absurd (Nat.lt_of_lt_of_le (Heap.lt_size (F₀.keep _ _ q)) hq) (Nat.lt_irrefl _)
  refine ⟨⟨cv, ⟨⟨m, os, F, fun p hp => ?_, O, hl, ?_, lc⟩, hc.big, hc.low⟩, hv⟩, rd.cel⟩
  · simp only [List.mem_append] at hp
    rcases hp with hp | hp | hp | hp
    · exact N p (List.mem_append_left _ hp)
    · exact N p (List.mem_append_right _ (List.mem_append_left _ hp))
    · exact ⟨(hn p hp).1, fresh p hp⟩
    · exact N p (List.mem_append_right _ (List.mem_append_right _ hp))
  · have apart : ∀ b ∈ exI'.map (·.1), ¬ (b ∈ ρ ∨ b ∈ cv.map (·.1) ∨ b ∈ ex.map (·.1)) := by
      intro b hb q
      obtain ⟨p, hp, rfl⟩ := List.mem_map.mp hb
      have := old _ q
      rcases (hn p hp).2 with z | z
      · exact this.1 z
      · exact absurd this.2 (Nat.not_lt.mpr z)
    have nd' := List.nodup_append.mp nd
    simp only [List.map_append] at nd'
    have nd'' := List.nodup_append.mp nd'.2.1
    simp only [List.map_append]
    refine List.nodup_append.mpr ⟨nd'.1, List.nodup_append.mpr ⟨nd''.1, List.nodup_append.mpr ⟨hnd, nd''.2.1, fun a ha b hb e => ?_⟩, fun a ha b hb e => ?_⟩, fun a ha b hb e => ?_⟩
    · subst e; exact apart _ ha (.inr (.inr hb))
    · subst e
      rcases List.mem_append.mp hb with hb | hb
      · exact apart _ hb (.inr (.inl ha))
      · exact nd''.2.2 _ ha _ hb rfl
    · subst e
      rcases List.mem_append.mp hb with hb | hb
      · exact nd'.2.2 _ ha _ (List.mem_append_left _ hb) rfl
      · rcases List.mem_append.mp hb with hb | hb
        · exact apart _ hb (.inl ha)
        · exact nd'.2.2 _ ha _ (List.mem_append_right _ hb) rfl

theorem esc_start {prog : Program} {w : World} {A : Around} {env : Env} {x : Str} {t : Tok} {l : Nat} (hh : A.handled = none) (hs : env.scope = escScope) {s : Shared} {m : Str → Option Value} (hn : s.heap.Ns env.locals m) (ha : m "addr" = some (.str x t))
    (hen : ∀ (A' : Around) (s' : Shared) (E Q : Value → Shared → Prop), (∀ b o, b ≠ env.locals → s.heap.get? b = some o → s'.heap.get? b = some o) → Q (.type "enumerate") s' → wpAny (model prog w) A' (eval (.Name "enumerate" ⟨l + 3, 19, l + 3, 28⟩) env) Q E s') :
    Seg (model prog w) A (escR (escP (escPend false x.cps.toList) env.locals (s.heap.objs.size + 1) s.heap.objs.size)) (escY x (escPend false x.cps.toList) env.locals (s.heap.objs.size + 1) s.heap.objs.size) (escOut x).length s (.func (escBody l) env)
      ((model prog w).den (.func (escBody l) env)) [] s := by
  have hkd : ∀ y : Str, escScope.names.lookup y = some .local → env.kindOf y = some .local := fun y hy => by show env.scope.names.lookup y = _; rw [hs]; exact hy
  have hpp : (env.scope.kind == .class || (env.scope.kind == .module && env.locals != env.globals)) = false := by rw [hs]; rfl
  have hL : env.locals < s.heap.objs.size := hn.lt
  refine seg_func ?_
  refine seg_execs_cons (gseg_stmt (wpAny_Assign_Name (wpAny_Constant_int ?_) rfl))
  refine wpAny_storeName_local (m := m) (hkd "pos" (by decide)) hn (fun h₁ hn₁ hs₁ => ?_) hpp
  have hs₁' : Heap.SameBut env.locals s.heap h₁ := hs₁
  refine seg_execs_cons (gseg_stmt (esc_st hs hn₁ (by decide) fun h₂ hn₂ hs₂ => ?_))
  have hs₂' : Heap.SameBut env.locals h₁ h₂ := hs₂
  have hsz : h₂.objs.size = s.heap.objs.size := by rw [hs₂'.1, hs₁'.1]
  refine seg_execs_cons (gseg_For (by intro _; rfl) ?_)
  refine Call_ (hen _ _ _ _ (fun b o hb q => hs₂'.extBut b o hb (hs₁'.extBut b o hb q)) ?_)
  refine PySem.callWith_type rfl (Calls.evalArgs_plain (Calls.spliced_cons (esc_ld hs hn₂ (by rw [if_neg (by decide), if_neg (by decide)]; exact ha) (by decide) (by decide) (Calls.spliced_nil ?_))))
  refine call_enumerate_str fun h₃ hE hI hz hk₃ => ?_
  have hE' : IsEnum h₃ (s.heap.objs.size + 1) s.heap.objs.size 0 .none := hsz ▸ hE
  have hI' : h₃.IsStrIter s.heap.objs.size (strIterType x) x t 0 := hsz ▸ hI
  have hh' : (A.over (.func (escBody l) env) []).handled = none := by
    show (marksOver _ (A.handled, A.handled)).1 = none
    rw [hh]; rfl
  have W := WalksT.enumerateD (fp := [s.heap.objs.size]) (A := A.over (.func (escBody l) env) []) (drawsStr (A := (A.over (.func (escBody l) env) []).in1) (prog := prog) (w := w) hh' s.heap.objs.size x t) (s.heap.objs.size + 1) (Nat.succ_ne_self _) (by simp) (.head _)
  show wpAny _ _ (pyIter (.ref (h₂.objs.size + 1))) _ _ _
  rw [hsz]
  refine W.self 0 _ _ _ ⟨⟨_, hE'⟩, hI'⟩ fun p => ?_
  refine esc_loop hh hs (Nat.succ_ne_self _) (Nat.ne_of_lt (Nat.lt_succ_of_lt hL)) (Nat.ne_of_lt hL) (hd := id) rfl rfl rfl x.cps.size 0 0 false (escOut x) s _ (Nat.sub_zero _) ⟨⟨_, hn₂.keeps hk₃, ?_, ?_, ?_⟩, ⟨⟨_, hE'⟩, hI'⟩, Nat.zero_le _, fun q => by cases q⟩ rfl (by simp) (Nat.le_refl _) rfl ?_
  · rw [if_neg (by decide), if_neg (by decide)]; exact ha
  · rw [if_pos rfl]
  · exact ⟨_, by rw [if_neg (by decide), if_pos rfl]⟩
  · exact (GenSince.refl _ _ _).step fun b o hb _ q => hk₃ b o (hs₂'.extBut b o hb (hs₁'.extBut b o hb q))

noncomputable def escBind (vp vc : Var) (q : Int × Str) (σ : AS) : Option AS := match stV vp (.int q.1) σ with
  | some σ₁ => stV vc (.str q.2) σ₁
  | none => none
noncomputable def itEscA (vp vc : Var) (fa : AS → Option (List AV × AS)) (σ : AS) : Option ((List (AS → Option AS) × (AS → Bool)) × AS) := match fa σ with
  | some ([.str x], σ₁) => some (((escOut x).map (escBind vp vc), fun _ => true), σ₁)
  | _ => none

noncomputable abbrev genObj (g : Nat) (name qual : Str) (t1 t2 : Tok) : Obj := { cls := .type "generator", data := .fields #[.int g 0, .str name t1, .str qual t2] }

theorem setGen_same {sb s s₁ : Shared} {g : Nat} {gs : GenState} {h : Heap} {tk : Nat} {Lg : Addr} {wr : List Addr} (hS : Same sb s) (hg : sb.gens.size ≤ g) (hb : gs.bare = true) (hG : GenSince Lg wr (s.setGen g .running) s₁) :
    Same sb { (s₁.setGen g gs) with heap := h, toks := tk } := by
  obtain ⟨h', tk', rfl, _⟩ := hG
  refine ⟨hS.os, fun k hk => ?_, ?_, fun hB y hy => ?_⟩
  · have hne : g ≠ k := by omega
    show ((s.gens.setIfInBounds g .running).setIfInBounds g gs)[k]? = _
    rw [Array.getElem?_setIfInBounds_ne hne, Array.getElem?_setIfInBounds_ne hne]
    exact hS.gens k hk
  · show sb.gens.size ≤ ((s.gens.setIfInBounds g .running).setIfInBounds g gs).size
    simp only [Array.size_setIfInBounds]; exact hS.more
  · have hy' : y ∈ (s.gens.setIfInBounds g .running).setIfInBounds g gs := hy
    obtain ⟨k, hk⟩ := Array.mem_iff_getElem?.mp hy'
    rw [Array.getElem?_setIfInBounds] at hk
    split at hk
    · split at hk
      · cases hk; exact hb
      · cases hk
    · rename_i hne
      rw [Array.getElem?_setIfInBounds_ne hne] at hk
      exact hS.bare hB y (Array.mem_of_getElem? hk)

theorem bind_esc {c : Cx} (ok : c.OK X D n) {ρ : List Addr} {ex : List (Addr × Obj)} {σ σ' : AS} {s : Shared} {x y : Str} {px py tp : Pos} {q : Nat} {a g : Addr} {nm qn : Str} {t1 t2 : Tok} {i j : Var} {pr : Int × Str} {T : Addr} {tk tc : Tok} {R : Shared → Prop} {E : Value → Shared → Prop}
    (hR : Rel X c D ρ ex σ s.heap) (hg : s.heap.get? a = some (genObj g nm qn t1 t2)) (hT : s.heap.IsTuple T #[.int pr.1 tk, .str pr.2 tc]) (hnd : D.names.Nodup) (hx : VarOK D x i = true) (hy : VarOK D y j = true) (hs : escBind i j pr σ = some σ')
    (k : ∀ s', Rel X c D ρ ex σ' s'.heap → Same s s' → R s') :
    wpAny (model X.prog X.w) c.A (letOwnedTupleGo (.Tuple [.Name x px, .Name y py] q tp) (.ref a) (.ref T)) (fun _ s₁' => wpAny (model X.prog X.w) c.A (assign (.Tuple [.Name x px, .Name y py] q tp) c.env (.ref T)) (fun _ s₂ => R s₂) E s₁') E s := by
  unfold letOwnedTupleGo
  refine wpAny_bind (wpAny_load hg ?_)
  show wpAny _ _ (if (["enumerate", "zip", "dict_itemiterator", "dict_reverseitemiterator", "odict_iterator", "itertools.zip_longest", "itertools.pairwise"].contains "generator" && _) = true then _ else pure ()) _ _ s
  rw [if_neg (by
    rw [show (["enumerate", "zip", "dict_itemiterator", "dict_reverseitemiterator", "odict_iterator", "itertools.zip_longest", "itertools.pairwise"].contains "generator") = false from by decide]
    simp)]
  refine wpAny_pure ?_
  refine wpAny_assign_Tuple ok.handled hT rfl rfl fun h₁ he => ?_
  have R₁ : Rel X c D ρ ex σ h₁ := hR.keeps fun b o e => he b o (Nat.ne_of_lt (Heap.lt_size e)) e
  delta escBind at hs
  split at hs
  · rename_i σ₁ h1
    show wpAny _ c.A (do holding [Value.str pr.2 tc] (assign (.Name x px) c.env (.int pr.1 tk)); do holding [] (assign (.Name y py) c.env (.str pr.2 tc)); pure ()) _ _ _
    refine wpAny_bind (wpAny_holding (wpAny_assign_Name (store_ok (a := .int pr.1) (s := { s with heap := h₁ }) ok R₁ ⟨_, rfl⟩ hnd hx h1 fun s₂ R₂ S₂ => ?_)))
    refine wpAny_bind (wpAny_holding (wpAny_assign_Name (store_ok (a := .str pr.2) ok R₂ ⟨_, rfl⟩ hnd hy hs fun s₃ R₃ S₃ => wpAny_pure ?_)))
    exact k s₃ R₃ ((⟨S₂.os, S₂.gens, S₂.more, S₂.bare⟩ : Same s s₂).trans S₃)
  · cases hs

set_option maxHeartbeats 1000000 in
theorem it_gen {f : Addr} {oc : Value} {od : Option Addr} {osl : Array (Option Value)} {name qual : Str} {params : Arguments} {l : Nat} {dV kV doc pm cdv ct : Value} {an : Option Addr} {x y : Str} {px py tp pos : Pos} {q : Nat} {func : Expr} {es : List Expr} {fa : AS → Option (List AV × AS)} (i j : Var)
    (ho : X.K.lookup f = some ⟨oc, od, .func (fnOf name qual params (escBody l) escScope dV kV doc pm an cdv ct), osl⟩) (hcd : codeIn X.K cdv qual = true) (hkp : keepIn X.K (.ref f) = true)
    (hbind : ∀ (s : Shared) (v : Value), BindsTo s (fnOf name qual params (escBody l) escScope dV kV doc pm an cdv ct) ⟨[v], []⟩ [("addr", v)])
    (hen : nsIn X.K mainGlobals "enumerate" = some none) (hbt : bootBuiltins "enumerate" = some (.type "enumerate"))
    (hf : NmJ X D func (.ref f)) (ha : ARJ X n D es fa) (hnd : D.names.Nodup) (hx : VarOK D x i = true) (hy : VarOK D y j = true) (hp : ∀ env, Plainly pos es env)
    (he : ∀ env, eval (.Call func es [] pos) env = (do callWith pos (← eval func env) [] (backTo pos (starEach es env)) (backToKw pos (keywordEach [] env)))) :
    ITJ X n D (.Tuple [.Name x px, .Name y py] q tp) (.Call func es [] pos) (itEscA i j fa) := by
  intro c ok ρ ex σ its chk σ' s Q E hR hf' k
  delta itEscA at hf'
  split at hf'
  case h_2 => cases hf'
  rename_i tx σ₁ h1
  cases hf'
  refine Call_ (hf n c ok ρ ex σ s _ E hR ?_) (he _)
  refine callWith_any ok (.inr (.inr hkp)) (hp _) (ha c ok pos ρ ex σ [.str tx] σ' s _ E hR h1 fun vs s₁ ρ₁ p₁ v₁ R₁ S₁ => ⟨R₁.keep, ?_⟩)
  match vs, v₁ with
  | [_], ⟨⟨tt, e1⟩, _⟩ =>
  subst e1
  have od' := ok.depth
  have kin₁ := ok.kin.keeps R₁.keep
  refine wpAny_call ?_
  refine codeAny_call_generator (by omega) (kin₁ _ _ ho) rfl rfl rfl rfl (codeRec_of kin₁ hcd) ?_
  refine hbind s₁ _ _ _ _ _ ?_
  refine wpAny_newFunctionEnv (by show ∀ x ∈ escScope.names, x.2 ≠ .cell; decide) (fun z hz => by rw [List.mem_singleton.mp hz]; show escScope.names.lookup ("addr" : Str) = _; decide) (fun h₂ hn₂ hs₂ => ?_) rfl
  obtain ⟨oL, es', ep, hoL, hod, hok, hof⟩ := id hn₂
  have hsz₂ : h₂.objs.size = s₁.heap.objs.size + 1 := by rw [hs₂.1, Heap.size_push]
  have keep₂ : ∀ b o, s₁.heap.get? b = some o → h₂.get? b = some o := fun b o e => hs₂.extBut b o (Nat.ne_of_lt (Heap.lt_size e)) (Heap.get?_push_of_some _ e)
  have RL : Rel X c D ρ₁ ((s₁.heap.objs.size, oL) :: ex) σ' h₂ := R₁.exNew (Nat.le_refl _) keep₂ hoL
  have nolim : h₂.NoLimit := ok.top.nolimit.keeps RL.keep
  refine ⟨nolim, ?_⟩
  have RG := RL.exNew (h' := h₂.push (genObj s₁.gens.size name qual (s₁.toks + [(("addr" : Str), Value.str tx tt)].length) (s₁.toks + [(("addr" : Str), Value.str tx tt)].length + 1))) (Nat.le_refl _) (fun _ _ e => Heap.get?_push_of_some _ e) (Heap.get?_push_size _ rfl)
  have hga : (h₂.push (genObj s₁.gens.size name qual (s₁.toks + [(("addr" : Str), Value.str tx tt)].length) (s₁.toks + [(("addr" : Str), Value.str tx tt)].length + 1))).get? h₂.objs.size = some _ := Heap.get?_push_size _ rfl
  refine wpAny_pyIter_gen (g := s₁.gens.size) ⟨_, _, _, hga, rfl, rfl, rfl⟩ ?_
  have hLne : s₁.heap.objs.size ≠ h₂.objs.size := by rw [hsz₂]; exact Nat.ne_of_lt (Nat.lt_succ_self _)
  obtain ⟨go, hgo⟩ : ∃ go, go = genObj s₁.gens.size name qual (s₁.toks + [(("addr" : Str), Value.str tx tt)].length) (s₁.toks + [(("addr" : Str), Value.str tx tt)].length + 1) := ⟨_, rfl⟩
  have RG' : Rel X c D ρ₁ ((h₂.objs.size, go) :: (s₁.heap.objs.size, oL) :: ex) σ' (h₂.push (genObj s₁.gens.size name qual (s₁.toks + [(("addr" : Str), Value.str tx tt)].length) (s₁.toks + [(("addr" : Str), Value.str tx tt)].length + 1))) := by rw [hgo]; exact RG
  generalize hpd : escPend false tx.cps.toList = pd
  generalize henv : newEnv escScope s₁.heap.objs.size mainGlobals [] (qual ++ ".<locals>.") (some f) cdv none builtinsNs = genv
  have hes : genv.scope = escScope := by rw [← henv]; rfl
  have hel : genv.locals = s₁.heap.objs.size := by rw [← henv]; rfl
  have heg : genv.globals = mainGlobals := by rw [← henv]; rfl
  have heb : genv.builtins = builtinsNs := by rw [← henv]; rfl
  have maddr : ([(("addr" : Str), Value.str tx tt)].reverse.lookup ("addr" : Str)) = some (.str tx tt) := by simp
  have hns : ∀ h : Heap, h.get? s₁.heap.objs.size = some oL → h.Ns genv.locals (fun z => [(("addr" : Str), Value.str tx tt)].reverse.lookup z) := fun h e => hel ▸ ⟨oL, es', ep, e, hod, hok, hof⟩
  have hg0 : s.gens.size ≤ s₁.gens.size := S₁.more
  have lenm : ((escOut tx).map (escBind i j)).length = (escOut tx).length := List.length_map _
  refine k h₂.objs.size _ ρ₁ [(h₂.objs.size, go), (s₁.heap.objs.size, oL)]
    (fun jj exI gens => (jj = 0 ∧ exI = [(h₂.objs.size, go), (s₁.heap.objs.size, oL)] ∧ gens[s₁.gens.size]? = some (.fresh (.func (escBody l) genv))) ∨
      (0 < jj ∧ ∃ (e it : Addr) (objs : List (Addr × Obj)) (gs : GenState), exI = (h₂.objs.size, go) :: objs ∧ objs.map (·.1) = escTr pd s₁.heap.objs.size e it ((escOut tx).length - jj) ∧ gens[s₁.gens.size]? = some gs ∧
        ∀ s'' : Shared, (∀ p ∈ objs, s''.heap.get? p.1 = some p.2) → gs.Goes (model X.prog X.w) c.A.in1 (escR (escP pd s₁.heap.objs.size e it)) (escY tx pd s₁.heap.objs.size e it) ((escOut tx).length - jj) (.send .none) s'')) p₁ ?_ (.inl ⟨rfl, rfl, ?_⟩) rfl RG' ?_
  rotate_left
  · exact Array.getElem?_push_size ..
  · refine S₁.trans ⟨rfl, fun k hk => ?_, ?_, fun hB => hB.push rfl⟩
    · show (s₁.gens.push _)[k]? = s₁.gens[k]?
      rw [Array.getElem?_push, if_neg (Nat.ne_of_lt hk)]
    · show s₁.gens.size ≤ (s₁.gens.push _).size
      simp
  constructor
  · intro jj b ρ₂ ex₂ exI σ₂ σ₃ s₂ R Q' E' hb hst hp₂ hc₂ hbs R₂ S₂ hQ hk
    obtain ⟨pr, hpr, rfl⟩ : ∃ pr, (escOut tx)[jj]? = some pr ∧ escBind i j pr = b := by
      rw [List.getElem?_map] at hb
      exact Option.map_eq_some_iff.mp hb
    have hjl : jj < (escOut tx).length := (List.getElem?_eq_some_iff.mp hpr).1
    have nolim₂ : s₂.heap.NoLimit := ok.top.nolimit.keeps R₂.keep
    have fin : ∀ (e it : Addr) (v : Value) (s₃ : Shared) (gs' : GenState), gs'.bare = true → (∀ p ∈ exI, p.1 = h₂.objs.size → p.2 = go) → (h₂.objs.size, go) ∈ exI →
        (∀ b ∈ [s₁.heap.objs.size, e, it], b ∈ exI.map (·.1) ∨ s₂.heap.objs.size ≤ b) → e ≠ it → s₁.heap.objs.size ≠ e → s₁.heap.objs.size ≠ it → h₂.objs.size ≠ e → h₂.objs.size ≠ it → (∃ oo, s₂.gens[s₁.gens.size]? = some oo) →
        escY tx pd s₁.heap.objs.size e it ((escOut tx).length - jj - 1) (s₂.setGen s₁.gens.size .running) v s₃ (fun r' s'' => match (escOut tx).length - jj with
          | 0 => False
          | m + 1 => gs'.Goes (model X.prog X.w) c.A.in1 (escR (escP pd s₁.heap.objs.size e it)) (escY tx pd s₁.heap.objs.size e it) m r' s'') → Q' (some v) (s₃.setGen s₁.gens.size gs') := by
      intro e it v s₃ gs' hbare hgo1 hgo2 haddr n1 n2 n3 n4 n5 hgg hyy
      obtain ⟨T, pi, tk, pc, tc, hout, rfl, hT, hG, hlive, hgoes⟩ := hyy
      have hm : (escOut tx).length - jj = ((escOut tx).length - (jj + 1)) + 1 := by omega
      rw [hm] at hgoes hout hlive
      simp only [Nat.add_sub_cancel] at hgoes hout hlive
      have hidx : (escOut tx).length - 1 - ((escOut tx).length - (jj + 1)) = jj := by omega
      rw [hidx, hpr] at hout
      cases hout
      refine hQ _ _ ?_
      have hG' := hG
      obtain ⟨h', tk', e3, hkeep⟩ := hG
      have e3h : s₃.heap = h' := by rw [e3]
      rw [← e3h] at hkeep
      have hkeep' : ∀ b o, b ∉ [s₁.heap.objs.size, e, it] → s₂.heap.get? b = some o → s₃.heap.get? b = some o := fun b o hb q => hkeep b o (fun z => hb (z ▸ .head _)) (fun z => hb (.tail _ z)) q
      -- the new entries
      have hgen : (h₂.objs.size, go).1 ∉ [s₁.heap.objs.size, e, it] := by simp [Ne.symm hLne, n4, n5]
      have hgo3 : s₃.heap.get? h₂.objs.size = some go := hkeep' _ _ hgen (R₂.exGet (List.mem_append_left _ hgo2))
      obtain ⟨objs, hobj1, hobj2⟩ : ∃ objs : List (Addr × Obj), objs.map (·.1) = escTr pd s₁.heap.objs.size e it ((escOut tx).length - (jj + 1)) ∧ ∀ p ∈ objs, s₃.heap.get? p.1 = some p.2 := by
        generalize escTr pd s₁.heap.objs.size e it ((escOut tx).length - (jj + 1)) = L at hlive
        clear hgoes
        induction L with
        | nil => exact ⟨[], rfl, fun _ h => nomatch h⟩
        | cons a L ih =>
          obtain ⟨o, ho⟩ := hlive a (.head _)
          obtain ⟨objs, h1, h2⟩ := ih fun b hb => hlive b (.tail _ hb)
          exact ⟨(a, o) :: objs, by simp [h1], fun p hp => by
            rcases List.mem_cons.mp hp with rfl | hp
            · exact ho
            · exact h2 p hp⟩
      have hsub : ∀ b ∈ objs.map (·.1), b ∈ [s₁.heap.objs.size, e, it] := by
        rw [hobj1]; intro b hb; delta escTr at hb; split at hb
        · rw [List.mem_singleton.mp hb]; exact .head _
        · exact hb
      have hndo : (objs.map (·.1)).Nodup := by
        rw [hobj1]; delta escTr; split
        · simp
        · simp [n1, n2, n3]
      have R₃ : Rel X c D ρ₂ (((h₂.objs.size, go) :: objs) ++ ex₂) σ₂ s₃.heap := by
        refine R₂.walkNew (exI' := (h₂.objs.size, go) :: objs) (wr := [s₁.heap.objs.size, e, it].filter fun b => (exI.map (·.1)).contains b) (fun b hb => ?_) (fun b o hb q => ?_) ?_ (fun p hp => ?_)
        · have := (List.mem_filter.mp hb).2
          simpa using this
        · refine hkeep' b o (fun z => ?_) q
          rcases haddr b z with z' | z'
          · exact hb (List.mem_filter.mpr ⟨z, by simpa using z'⟩)
          · exact absurd (Heap.lt_size q) (Nat.not_lt.mpr z')
        · rw [List.map_cons, List.nodup_cons]
          exact ⟨fun z => hgen (hsub _ z), hndo⟩
        · rcases List.mem_cons.mp hp with rfl | hp
          · exact ⟨hgo3, .inl (List.mem_map_of_mem (f := (·.1)) hgo2)⟩
          · exact ⟨hobj2 p hp, haddr _ (hsub _ (List.mem_map_of_mem (f := (·.1)) hp))⟩
      have SS : Same s (s₃.setGen s₁.gens.size gs') := setGen_same (h := s₃.heap) (tk := s₃.toks) S₂ hg0 hbare hG'
      rw [hgo] at hgo3
      refine bind_esc (pr := (pi, pc)) (s := s₃.setGen s₁.gens.size gs') ok R₃ hgo3 hT hnd hx hy hbs fun s₄ R₄ S₄ => ?_
      refine hk s₄ _ (.inr ⟨Nat.succ_pos _, e, it, objs, gs', rfl, hobj1, ?_, fun s'' hs'' => ?_⟩) R₄ (SS.trans S₄)
      · have hlt : s₁.gens.size < (s₃.setGen s₁.gens.size gs').gens.size := by
          obtain ⟨oo, hoo⟩ := hgg
          rw [e3]
          show s₁.gens.size < ((s₂.gens.setIfInBounds s₁.gens.size .running).setIfInBounds s₁.gens.size gs').size
          simp only [Array.size_setIfInBounds]
          exact (Array.getElem?_eq_some_iff.mp hoo).1
        rw [S₄.gens _ hlt]
        have : (s₃.gens)[s₁.gens.size]? = some .running := by
          rw [e3]
          obtain ⟨oo, hoo⟩ := hgg
          exact setGen_self hoo
        exact setGen_self this
      · refine hgoes s'' fun b hb o ho' => ?_
        rw [← hobj1] at hb
        obtain ⟨p, hp, rfl⟩ := List.mem_map.mp hb
        have h1 := hobj2 p hp
        rw [ho'] at h1; cases h1
        exact hs'' p hp
    rcases hst with ⟨rfl, rfl, hgs⟩ | ⟨hj, e, it, objs, gs, rfl, hob, hgs, hgoes⟩
    · have hL₂ := R₂.exGet (p := (s₁.heap.objs.size, oL)) (.tail _ (.head _))
      have hG₂ := R₂.exGet (p := (h₂.objs.size, go)) (.head _)
      have l1 := Heap.lt_size hL₂
      have l2 := Heap.lt_size hG₂
      refine pyNext_genF (n := (escOut tx).length) (P := escP pd s₁.heap.objs.size (s₂.heap.objs.size + 1) s₂.heap.objs.size) (Y := escY tx pd s₁.heap.objs.size (s₂.heap.objs.size + 1) s₂.heap.objs.size) ok.handled nolim₂ (by omega) (g := s₁.gens.size) (by rw [hgo] at hG₂; exact ⟨_, _, _, hG₂, rfl, rfl, rfl⟩) hgs ⟨rfl, ?_⟩
        (fun v s₃ gs' hb3 hyy => fin (s₂.heap.objs.size + 1) s₂.heap.objs.size v s₃ gs' hb3 ?_ (.head _) ?_ (Nat.succ_ne_self _) (Nat.ne_of_lt (Nat.lt_succ_of_lt l1)) (Nat.ne_of_lt l1) (Nat.ne_of_lt (Nat.lt_succ_of_lt l2)) (Nat.ne_of_lt l2) ⟨_, hgs⟩ hyy)
        (fun s₃ hp3 h3 _ => absurd hp3.1 (by omega))
      · have := esc_start (prog := X.prog) (w := X.w) (A := c.A.in1) (env := genv) (x := tx) (t := tt) (l := l) ok.handled hes (s := s₂.setGen s₁.gens.size .running) (hns _ hL₂) maddr (fun A' s' E'' Q'' hkk hq => by
          refine Calls.Name_function_global (by rw [hes]; rfl) (by show genv.scope.names.lookup _ = _; rw [hes]; rfl) (Calls.loadGlobal_builtin (mg := X.mg) (mb := X.mb) ?_ (mg_none_of ok.kin ok.top.g hen) ?_ ((ok.top.builtins _ (by decide)).trans hbt) hq) (by decide)
          · rw [heg]
            exact ok.top.g.keeps fun b o e => hkk b o (fun z => by rw [hel] at z; rw [z] at e; have := R₁.keep _ _ e; exact absurd (Heap.lt_size this) (Nat.lt_irrefl _)) (R₂.keep b o e)
          · rw [heb]
            exact ok.top.b.keeps fun b o e => hkk b o (fun z => by rw [hel] at z; rw [z] at e; have := R₁.keep _ _ e; exact absurd (Heap.lt_size this) (Nat.lt_irrefl _)) (R₂.keep b o e))
        rw [hpd, hel] at this
        exact this
      · intro p hp e
        rcases List.mem_cons.mp hp with rfl | hp
        · rfl
        · rw [List.mem_singleton.mp hp] at e; exact absurd e hLne
      · intro b hb
        rcases List.mem_cons.mp hb with rfl | hb
        · exact .inl (by simp)
        · rcases List.mem_cons.mp hb with rfl | hb
          · exact .inr (Nat.le_succ _)
          · rw [List.mem_singleton.mp hb]; exact .inr (Nat.le_refl _)
    · have hG₂ := R₂.exGet (p := (h₂.objs.size, go)) (.head _)
      have hpdn : ¬ ((escOut tx).length - jj = 0 ∧ pd = true) := by omega
      have hob' : objs.map (·.1) = [s₁.heap.objs.size, e, it] := by rw [hob]; exact if_neg hpdn
      have hndx : (((h₂.objs.size, go) :: objs).map (·.1)).Nodup := by
        obtain ⟨cv, hc, _⟩ := R₂.core
        obtain ⟨_, _, _, _, _, _, nd, _⟩ := hc.all
        have := (List.nodup_append.mp nd).2.1
        simp only [List.map_append] at this
        exact (List.nodup_append.mp (List.nodup_append.mp this).2.1).1
      rw [List.map_cons, hob'] at hndx
      simp only [List.nodup_cons, List.mem_cons, List.not_mem_nil, or_false, not_or] at hndx
      refine pyNext_genF (n := (escOut tx).length - jj) (P := escP pd s₁.heap.objs.size e it) (Y := escY tx pd s₁.heap.objs.size e it) ok.handled nolim₂ (by omega) (g := s₁.gens.size) (by rw [hgo] at hG₂; exact ⟨_, _, _, hG₂, rfl, rfl, rfl⟩) hgs (hgoes _ fun p hp => R₂.exGet (.tail _ (List.mem_append_left _ hp)))
        (fun v s₃ gs' hb3 hyy => fin e it v s₃ gs' hb3 ?_ (.head _) ?_ hndx.2.2.1 hndx.2.1.1 hndx.2.1.2 hndx.1.2.1 hndx.1.2.2 ⟨_, hgs⟩ hyy)
        (fun s₃ hp3 h3 _ => absurd hp3.1 (by omega))
      · intro p hp e'
        rcases List.mem_cons.mp hp with rfl | hp
        · rfl
        · have : p.1 ∈ objs.map (·.1) := List.mem_map_of_mem hp
          rw [hob', e'] at this
          simp only [List.mem_cons, List.not_mem_nil, or_false] at this
          rcases this with q | q | q
          · exact absurd q hndx.1.1
          · exact absurd q hndx.1.2.1
          · exact absurd q hndx.1.2.2
      · intro b hb
        left
        rw [List.map_cons, hob']
        exact .tail _ hb
  · intro ρ₂ ex₂ exI σ₂ s₂ Q' E' hst hp₂ hc₂ R₂ S₂ hk
    have nolim₂ : s₂.heap.NoLimit := ok.top.nolimit.keeps R₂.keep
    rw [lenm] at hst
    rcases hst with ⟨h0, rfl, hgs⟩ | ⟨hj, e, it, objs, gs, rfl, hob, hgs, hgoes⟩
    · have hL₂ := R₂.exGet (p := (s₁.heap.objs.size, oL)) (.tail _ (.head _))
      have hG₂ := R₂.exGet (p := (h₂.objs.size, go)) (.head _)
      refine pyNext_genF (n := (escOut tx).length) (P := escP pd s₁.heap.objs.size (s₂.heap.objs.size + 1) s₂.heap.objs.size) (Y := escY tx pd s₁.heap.objs.size (s₂.heap.objs.size + 1) s₂.heap.objs.size) ok.handled nolim₂ (by omega) (g := s₁.gens.size) (by rw [hgo] at hG₂; exact ⟨_, _, _, hG₂, rfl, rfl, rfl⟩) hgs ⟨rfl, ?_⟩
        (fun v s₃ gs' hb3 hyy => ?_) (fun s₃ hp3 h3 hk3 => ?_)
      · have := esc_start (prog := X.prog) (w := X.w) (A := c.A.in1) (env := genv) (x := tx) (t := tt) (l := l) ok.handled hes (s := s₂.setGen s₁.gens.size .running) (hns _ hL₂) maddr (fun A' s' E'' Q'' hkk hq => by
          refine Calls.Name_function_global (by rw [hes]; rfl) (by show genv.scope.names.lookup _ = _; rw [hes]; rfl) (Calls.loadGlobal_builtin (mg := X.mg) (mb := X.mb) ?_ (mg_none_of ok.kin ok.top.g hen) ?_ ((ok.top.builtins _ (by decide)).trans hbt) hq) (by decide)
          · rw [heg]
            exact ok.top.g.keeps fun b o e => hkk b o (fun z => by rw [hel] at z; rw [z] at e; have := R₁.keep _ _ e; exact absurd (Heap.lt_size this) (Nat.lt_irrefl _)) (R₂.keep b o e)
          · rw [heb]
            exact ok.top.b.keeps fun b o e => hkk b o (fun z => by rw [hel] at z; rw [z] at e; have := R₁.keep _ _ e; exact absurd (Heap.lt_size this) (Nat.lt_irrefl _)) (R₂.keep b o e))
        rw [hpd, hel] at this
        exact this
      · obtain ⟨T, pi, tk, pc, tc, hout, _⟩ := hyy
        rw [List.getElem?_eq_none (by omega)] at hout; cases hout
      · have hG := hp3.2
        have S3 := setGen_same (gs := .finished) (h := h3) (tk := s₃.toks) S₂ hg0 rfl hG
        obtain ⟨h', tk', e3, hkeep⟩ := hG
        refine hk _ (R₂.walkDrop (exI := [(h₂.objs.size, go), (s₁.heap.objs.size, oL)]) (wr := [s₁.heap.objs.size]) (fun b hb => by rw [List.mem_singleton.mp hb]; exact .tail _ (.head _)) fun b o hb q => ?_) S3
        have q' : s₃.heap.get? b = some o := by
          rw [e3]
          refine hkeep b o (fun z => hb (z ▸ .head _)) (fun z => ?_) q
          have hlt := Heap.lt_size q
          split at z
          · cases z
          · rcases List.mem_cons.mp z with rfl | z
            · exact absurd hlt (Nat.not_lt.mpr (Nat.le_succ _))
            · rw [List.mem_singleton.mp z] at hlt; exact absurd hlt (Nat.lt_irrefl _)
        exact hk3 b o q'
    · have hG₂ := R₂.exGet (p := (h₂.objs.size, go)) (.head _)
      refine pyNext_genF (n := (escOut tx).length - (escOut tx).length) (P := escP pd s₁.heap.objs.size e it) (Y := escY tx pd s₁.heap.objs.size e it) ok.handled nolim₂ (by omega) (g := s₁.gens.size) (by rw [hgo] at hG₂; exact ⟨_, _, _, hG₂, rfl, rfl, rfl⟩) hgs (hgoes _ fun p hp => R₂.exGet (.tail _ (List.mem_append_left _ hp)))
        (fun v s₃ gs' hb3 hyy => ?_) (fun s₃ hp3 h3 hk3 => ?_)
      · obtain ⟨T, pi, tk, pc, tc, hout, _, _, _, _, hgg⟩ := hyy
        have hz : (escOut tx).length - (escOut tx).length = 0 := Nat.sub_self _
        rw [hz] at hgg
        exact (hgg s₃ fun _ _ _ h => h).elim
      · have hG := hp3.2
        have S3 := setGen_same (gs := .finished) (h := h3) (tk := s₃.toks) S₂ hg0 rfl hG
        obtain ⟨h', tk', e3, hkeep⟩ := hG
        have hmem : ∀ b, (b = s₁.heap.objs.size ∨ b ∈ (if pd = true then [] else [e, it] : List Addr)) → b ∈ objs.map (·.1) := by
          intro b hb
          rw [hob, Nat.sub_self]
          delta escTr
          cases hpdd : pd with
          | true =>
            rw [hpdd] at hb
            simp only [if_true, List.not_mem_nil, or_false] at hb
            simp [hb]
          | false =>
            rw [hpdd] at hb
            simp only [Bool.false_eq_true, if_false, and_false, List.mem_cons, List.not_mem_nil, or_false] at hb ⊢
            exact hb
        refine hk _ (R₂.walkDrop (exI := (h₂.objs.size, go) :: objs) (wr := objs.map (·.1)) (fun b hb => .tail _ hb) fun b o hb q => ?_) S3
        have q' : s₃.heap.get? b = some o := by
          rw [e3]
          exact hkeep b o (fun z => hb (hmem b (.inl z))) (fun z => hb (hmem b (.inr z))) q
        exact hk3 b o q'
  · intro jj exI s₂ s₃ hst hS
    rcases hst with ⟨h0, h1, h2⟩ | ⟨h0, e, it, objs, gs, h1, h2, h3, h4⟩
    · exact .inl ⟨h0, h1, by rw [hS.gens _ (Array.getElem?_eq_some_iff.mp h2).1]; exact h2⟩
    · exact .inr ⟨h0, e, it, objs, gs, h1, h2, by rw [hS.gens _ (Array.getElem?_eq_some_iff.mp h3).1]; exact h3, h4⟩
end Mine
-- part M18
namespace Mine
variable {X : Wd} {n : Nat} {D : FD}

theorem CallJ.le {m : Nat} {f : Value} {g : List AV → AS → Option (AV × AS)} (h : CallJ X m D f g) (hm : m ≤ n) : CallJ X n D f g := fun c ok => h c (ok.le hm)

noncomputable def repA (a : Str) (i : Var) (y z : Str) (σ : AS) : Option (AV × AS) := match ldV i σ with
  | some (.str x) => if (y == z) = false ∧ x.length + (x.length + 1) * z.length ≤ 100000 ∧ a.length + (Txt.replace x y z).length ≤ 100000 then some (.str (a ++ Txt.replace x y z), σ) else none
  | _ => none
theorem ev_rep {a y z w : Str} {q1 q2 q3 : Nat} {p1 p2 p3 pw pa pc pos : Pos} {pl : Env → Sem Bool} (i : Var) (hx : VarOK D w i = true) (hd : (w == ("__debug__" : Str)) = false)
    (he : ∀ env, eval (.Call (.Attribute (.Name w pw) "replace" pa) [.Constant (.str y) q2 p2, .Constant (.str z) q3 p3] [] pc) env = (do
        let ov ← eval (.Name w pw) env
        standAt pa.atName
        let (f, first) ← holding [ov] (getMethod ov "replace" (pl env))
        callWith pc f first (backTo pc (starEach [.Constant (.str y) q2 p2, .Constant (.str z) q3 p3] env)) []))
    (hs : ∀ env, starEach [.Constant (.str y) q2 p2, .Constant (.str z) q3 p3] env = (false, eval (.Constant (.str y) q2 p2) env) :: starEach [.Constant (.str z) q3 p3] env)
    (hs' : ∀ env, starEach [.Constant (.str z) q3 p3] env = (false, eval (.Constant (.str z) q3 p3) env) :: starEach [] env) :
    EVJ X n D (.BinOp (.Constant (.str a) q1 p1) .Add (.Call (.Attribute (.Name w pw) "replace" pa) [.Constant (.str y) q2 p2, .Constant (.str z) q3 p3] [] pc) pos) (repA a i y z) := by
  intro c ok ρ ex σ v σ' s Q E hR hf k
  delta repA at hf
  split at hf
  case h_2 => cases hf
  rename_i x hl
  split at hf
  case isFalse => cases hf
  rename_i hc
  obtain ⟨h1, h2, h3⟩ := hc
  cases hf
  refine wpAny_BinOp (wpAny_Constant_str ?_)
  refine MethodCall_ (wpAny_Name (load_ok (s := { s with toks := s.toks + 1 }) ok hR hx hl fun v hr => ?_) hd) (he _)
  obtain ⟨t, rfl⟩ := hr
  refine GM.replace ?_
  have hpl : Plainly pc [.Constant (.str y) q2 p2, .Constant (.str z) q3 p3] c.env := .inr ⟨_, _, by rw [hs, hs']; rfl, rfl⟩
  have hkeep := hR.keep
  refine callWith_any ok (.inl ⟨_, rfl⟩) hpl ?_
  refine args_cons (wpAny_Constant_str (args_cons (wpAny_Constant_str (args_nil ?_)) (hs' _))) (hs _)
  · refine ⟨hkeep, ?_⟩
    show wpAny _ _ (call (.builtin "str.replace") [.str x t, .str y _, .str z _]) _ E _
    refine SC.replace (by simp) (by simp) (by simp) h1 (by omega) fun t' kk => ?_
    refine pbin_ok .Add c.A ρ (.str a) (.str (Txt.replace x y z)) _ _ _ _ _ E ⟨_, rfl⟩ ⟨_, rfl⟩ (if_pos h3) fun v' tk hv => ?_
    exact k v' _ ρ (List.prefix_refl _) hv.of_nil hR (.of rfl rfl)

noncomputable def whlA (t : AS → Option (Bool × AS)) (b : AS → Option (AF × AS)) : Nat → AS → Option (AF × AS)
  | 0, _ => none
  | k + 1, σ => match t σ with
    | some (true, σ₁) => match b σ₁ with
      | some (.next, σ₂) => whlA t b k σ₂
      | some (.cont, σ₂) => whlA t b k σ₂
      | some (.brk, σ₂) => some (.next, σ₂)
      | some (.ret v, σ₂) => some (.ret v, σ₂)
      | none => none
    | some (false, σ₁) => some (.next, σ₁)
    | none => none
theorem ex_while {t : Expr} {b : List Stmt} {pos : Pos} {ft : AS → Option (Bool × AS)} {fb : AS → Option (AF × AS)} (fuel : Nat) (ht : TJ X n D t ft) (hb : EXSJ X n D b fb) : EXJ X n D (.While t b [] pos) (whlA ft fb fuel) := by
  intro c ok ρ ex σ v σ' s Q E hR hf k
  refine wpAny_While (codeAny_whileLoop (fun m s' => ∃ (ρ₂ : List Addr) (σ₂ : AS), ρ <+: ρ₂ ∧ whlA ft fb m σ₂ = some (v, σ') ∧ Rel X c D ρ₂ ex σ₂ s'.heap ∧ Same s s') ?_ fuel ⟨ρ, σ, List.prefix_refl _, hf, hR, .refl s⟩)
  rintro m s' ⟨ρ₂, σ₂, p₂, hw, R₂, S₂⟩
  cases m with
  | zero => cases hw
  | succ m =>
    simp only [whlA] at hw
    split at hw
    · rename_i σ₃ h3
      refine ht c ok ρ₂ ex σ₂ true σ₃ s' _ _ R₂ h3 fun a s₃ ρ₃ p₃ e R₃ S₃ => ?_
      subst e
      rw [if_pos rfl]
      have again : ∀ σ₄, whlA ft fb m σ₄ = some (v, σ') → ∀ s₄ ρ₄, ρ₃ <+: ρ₄ → Rel X c D ρ₄ ex σ₄ s₄.heap → Same s₃ s₄ →
          ∃ m', m' < m + 1 ∧ ∃ (ρ₂ : List Addr) (σ₂ : AS), ρ <+: ρ₂ ∧ whlA ft fb m' σ₂ = some (v, σ') ∧ Rel X c D ρ₂ ex σ₂ s₄.heap ∧ Same s s₄ := fun σ₄ h s₄ ρ₄ p₄ R₄ S₄ =>
        ⟨m, Nat.lt_succ_self _, ρ₄, σ₄, p₂.trans (p₃.trans p₄), h, R₄, S₂.trans (S₃.trans S₄)⟩
      split at hw
      · rename_i σ₄ h4
        refine hb c ok ρ₃ ex σ₃ _ σ₄ s₃ _ _ R₃ h4 fun a s₄ ρ₄ p₄ e R₄ S₄ => ?_
        cases e
        exact again σ₄ hw s₄ ρ₄ p₄ R₄ S₄
      · rename_i σ₄ h4
        refine hb c ok ρ₃ ex σ₃ _ σ₄ s₃ _ _ R₃ h4 fun a s₄ ρ₄ p₄ e R₄ S₄ => ?_
        cases e
        exact again σ₄ hw s₄ ρ₄ p₄ R₄ S₄
      · rename_i σ₄ h4
        cases hw
        refine hb c ok ρ₃ ex σ₃ _ _ s₃ _ _ R₃ h4 fun a s₄ ρ₄ p₄ e R₄ S₄ => ?_
        cases e
        exact k _ s₄ ρ₄ (p₂.trans (p₃.trans p₄)) rfl R₄ (S₂.trans (S₃.trans S₄))
      · rename_i w σ₄ h4
        cases hw
        refine hb c ok ρ₃ ex σ₃ _ _ s₃ _ _ R₃ h4 fun a s₄ ρ₄ p₄ e R₄ S₄ => ?_
        obtain ⟨w', rfl, hw⟩ := e
        exact k _ s₄ ρ₄ (p₂.trans (p₃.trans p₄)) ⟨w', rfl, hw⟩ R₄ (S₂.trans (S₃.trans S₄))
      · cases hw
    · cases hw
      refine ht c ok ρ₂ ex σ₂ false _ s' _ _ R₂ (by assumption) fun a s₃ ρ₃ p₃ e R₃ S₃ => ?_
      subst e
      rw [if_neg (by simp)]
      exact wpAny_execs_nil (k _ s₃ ρ₃ (p₂.trans p₃) rfl R₃ (S₂.trans S₃))
    · cases hw
end Mine
-- part M19
namespace Mine
variable {X : Wd} {n : Nat} {D : FD}
section
variable {es : List Expr} {env : Env}
theorem se_Constant {c : Const} {q : Nat} {p : Pos} : starEach (.Constant c q p :: es) env = (false, eval (.Constant c q p) env) :: starEach es env := rfl
theorem se_Name {x : Str} {p : Pos} : starEach (.Name x p :: es) env = (false, eval (.Name x p) env) :: starEach es env := rfl
theorem se_BinOp {l r : Expr} {o : Operator} {p : Pos} : starEach (.BinOp l o r p :: es) env = (false, eval (.BinOp l o r p) env) :: starEach es env := rfl
theorem se_UnaryOp {l : Expr} {o : UnaryOp} {p : Pos} : starEach (.UnaryOp o l p :: es) env = (false, eval (.UnaryOp o l p) env) :: starEach es env := rfl
theorem se_Call {l : Expr} {a : List Expr} {p : Pos} : starEach (.Call l a [] p :: es) env = (false, eval (.Call l a [] p) env) :: starEach es env := rfl
theorem se_List {a : List Expr} {p : Pos} : starEach (.List a p :: es) env = (false, eval (.List a p) env) :: starEach es env := rfl
theorem se_Comp {e : Expr} {g : List Comprehension} {s : Scope} {p : Pos} : starEach (.ListComp e g s p :: es) env = (false, eval (.ListComp e g s p) env) :: starEach es env := rfl
theorem se_Sub {a b : Expr} {p : Pos} : starEach (.Subscript a b p :: es) env = (false, eval (.Subscript a b p) env) :: starEach es env := rfl
theorem se_If {a b c : Expr} {p : Pos} : starEach (.IfExp a b c p :: es) env = (false, eval (.IfExp a b c p) env) :: starEach es env := rfl
theorem ce_Name {x : Str} {px pos : Pos} : eval (.Call (.Name x px) es [] pos) env = (do callWith pos (← eval (.Name x px) env) [] (backTo pos (starEach es env)) (backToKw pos (keywordEach [] env))) := rfl
end
noncomputable def NoSt (es : List Expr) : Prop := ∀ env, (starEach es env).any (·.1) = false
theorem st_nil : NoSt [] := fun _ => rfl
theorem st_cons {e : Expr} {es : List Expr} {t : Env → Sem Value} (he : ∀ env, starEach (e :: es) env = (false, t env) :: starEach es env) (h : NoSt es) : NoSt (e :: es) := fun env => by rw [he]; simpa using h env
theorem pl_of {es : List Expr} {pos : Pos} (h : NoSt es) : ∀ env, Plainly pos es env := by
  intro env
  have := h env
  delta Plainly
  cases e : starEach es env with
  | nil => exact .inl rfl
  | cons a r =>
    rw [e] at this
    obtain ⟨b, t⟩ := a
    rw [List.any_cons] at this
    simp only [Bool.or_eq_false_iff] at this
    obtain ⟨rfl, h2⟩ := this
    refine .inr ⟨_, _, rfl, ?_⟩
    rw [List.any_map]
    exact h2
theorem ev_callN {x : Str} {px : Pos} {es : List Expr} {pos : Pos} {f : Value} {fa : AS → Option (List AV × AS)} {g : List AV → AS → Option (AV × AS)} (hf : NmJ X D (.Name x px) f) (hc : Callable X f) (ha : ARJ X n D es fa) (hg : CallJ X n D f g) (hp : NoSt es) :
    EVJ X n D (.Call (.Name x px) es [] pos) (callA fa g) := ev_call hf hc ha hg (pl_of hp) (fun _ => ce_Name)
theorem it_rangeN {x : Str} {px : Pos} {es : List Expr} {pos : Pos} {fa : AS → Option (List AV × AS)} (hf : NmJ X D (.Name x px) (.type "range")) (ha : ARJ X n D es fa) (hp : NoSt es) : RJ X n D (.Call (.Name x px) es [] pos) (itRangeA fa) :=
  it_range hf ha (pl_of hp) (fun _ => ce_Name)
section
variable {es : List Expr} {env : Env} {tg : Option Expr} {l : Nat}
theorem sw_Constant {c : Const} {q : Nat} {p : Pos} : swapsWith (.Constant c q p) tg l env = pure false := rfl
theorem sw_Name {x : Str} {p : Pos} : swapsWith (.Name x p) tg l env = pure false := rfl
theorem sw_BinOp {a r : Expr} {o : Operator} {p : Pos} : swapsWith (.BinOp a o r p) tg l env = pure false := rfl
theorem sw_Call {a : Expr} {es : List Expr} {p : Pos} : swapsWith (.Call a es [] p) tg l env = pure false := rfl
theorem sw_List {a : List Expr} {p : Pos} : swapsWith (.List a p) tg l env = pure false := rfl
theorem sw_Sub {a b : Expr} {p : Pos} : swapsWith (.Subscript a b p) tg l env = pure false := rfl
theorem sb_Constant {c : Const} {q : Nat} {p : Pos} {o i : Value} : subscripted (.Constant c q p) false o i = operate [o, i] (getItem o i) := rfl
theorem sb_Name {x : Str} {p : Pos} {o i : Value} : subscripted (.Name x p) false o i = operate [o, i] (getItem o i) := rfl
theorem sb_BinOp {a r : Expr} {op : Operator} {p : Pos} {o i : Value} : subscripted (.BinOp a op r p) false o i = operate [o, i] (getItem o i) := rfl
theorem sb_UnaryOp {a : Expr} {op : UnaryOp} {p : Pos} {o i : Value} : subscripted (.UnaryOp op a p) false o i = operate [o, i] (getItem o i) := rfl
theorem fs_Name {x : Str} {p : Pos} {v : Value} : foldedSetIterable (.Name x p) env v = pure v := rfl
theorem fs_Call {a : Expr} {es : List Expr} {p : Pos} {v : Value} : foldedSetIterable (.Call a es [] p) env v = pure v := rfl
theorem fs_Sub {a b : Expr} {p : Pos} {v : Value} : foldedSetIterable (.Subscript a b p) env v = pure v := rfl
theorem fs_Tuple {es : List Expr} {q : Nat} {p : Pos} {v : Value} : foldedSetIterable (.Tuple es q p) env v = pure v := rfl
theorem it_Name {x : Str} {p : Pos} {whole : Sem Value} : isTrue (.Name x p) env whole = (do let v ← whole; standAt (Expr.Name x p).pos; holding [v] (truthy v)) := rfl
theorem it_Call {a : Expr} {es : List Expr} {p : Pos} {whole : Sem Value} : isTrue (.Call a es [] p) env whole = (do let v ← whole; standAt (Expr.Call a es [] p).pos; holding [v] (truthy v)) := rfl
theorem it_BinOp {a r : Expr} {op : Operator} {p : Pos} {whole : Sem Value} : isTrue (.BinOp a op r p) env whole = (do let v ← whole; standAt (Expr.BinOp a op r p).pos; holding [v] (truthy v)) := rfl
theorem it_Sub {a r : Expr} {p : Pos} {whole : Sem Value} : isTrue (.Subscript a r p) env whole = (do let v ← whole; standAt (Expr.Subscript a r p).pos; holding [v] (truthy v)) := rfl
end
end Mine
-- part M20
namespace Mine
variable {X : Wd} {n : Nat} {D : FD}
structure Hid (p : Prop) : Prop where
  h : p
noncomputable abbrev cmpG (op : CmpOp) : AV → AV → AS → Option (AV × AS) := fun a b σ => (acmp op a b σ).map fun v => (AV.bool v, σ)
noncomputable abbrev inpG (op : Operator) : AV → AV → AS → Option (AV × AS) := fun a b σ => (pinp op a b).map fun v => (v, σ)
theorem hacmp_ok (op : CmpOp) : Hid (Op2 X n D (compareOp op) (cmpG op)) := ⟨acmp_ok op⟩
theorem hpinp_ok (op : Operator) : Hid (Op2 X n D (inplaceOp op) (inpG op)) := ⟨(pinp_ok op).op⟩
theorem hle {m : Nat} {f : Value} {g : List AV → AS → Option (AV × AS)} (h : Hid (CallJ X m D f g)) (hm : m ≤ n) : Hid (CallJ X n D f g) := ⟨h.h.le hm⟩
theorem hev_name {x : Str} {pos : Pos} (i : Var) (hx : VarOK D x i = true) (hd : (x == ("__debug__" : Str)) = false) : Hid (EVJ X n D (.Name x pos) (ldA i)) := ⟨ev_name i hx hd⟩
theorem hev_int {i : Int} {q : Nat} {pos : Pos} : Hid (EVJ X n D (.Constant (.int i) q pos) (cstA (.int i))) := ⟨ev_int ⟩
theorem hev_str {i : Str} {q : Nat} {pos : Pos} : Hid (EVJ X n D (.Constant (.str i) q pos) (cstA (.str i))) := ⟨ev_str ⟩
theorem hev_bool {i : Bool} {q : Nat} {pos : Pos} : Hid (EVJ X n D (.Constant (.bool i) q pos) (cstA (.bool i))) := ⟨ev_bool ⟩
theorem hev_none {q : Nat} {pos : Pos} : Hid (EVJ X n D (.Constant .none q pos) (cstA .none)) := ⟨ev_none ⟩
theorem hev_binop {l r : Expr} {op : Operator} {pos : Pos} {fl fr : AS → Option (AV × AS)} {g : AV → AV → AS → Option (AV × AS)} (hl : Hid (EVJ X n D l fl)) (hr : Hid (EVJ X n D r fr)) (ho : Hid (Op2 X n D (binaryOp op) g)) : Hid (EVJ X n D (.BinOp l op r pos) (b2A fl fr g)) := ⟨ev_binop hl.h hr.h ho.h⟩
theorem hev_compare {l r : Expr} {op : CmpOp} {pos : Pos} {fl fr : AS → Option (AV × AS)} {g : AV → AV → AS → Option (AV × AS)} (hl : Hid (EVJ X n D l fl)) (hr : Hid (EVJ X n D r fr)) (ho : Hid (Op2 X n D (compareOp op) g)) (hm : behindInMarks op r = false) : Hid (EVJ X n D (.Compare l [op] [r] pos) (b2A fl fr g)) := ⟨ev_compare hl.h hr.h ho.h hm⟩
theorem htj_plain {e : Expr} {f : AS → Option (AV × AS)} (h : Hid (EVJ X n D e f)) (he : ∀ env whole, isTrue e env whole = (do let v ← whole; standAt e.pos; holding [v] (truthy v))) : Hid (TJ X n D e (truA f)) := ⟨tj_plain h.h he⟩
theorem htj_compare {l r : Expr} {op : CmpOp} {pos : Pos} {fl fr : AS → Option (AV × AS)} {g : AV → AV → AS → Option (AV × AS)} (hl : Hid (EVJ X n D l fl)) (hr : Hid (EVJ X n D r fr)) (ho : Hid (Op2 X n D (compareOp op) g)) (hm : behindInMarks op r = false) : Hid (TJ X n D (.Compare l [op] [r] pos) (truA (b2A fl fr g))) := ⟨tj_compare hl.h hr.h ho.h hm⟩
theorem htj_not {e : Expr} {pos : Pos} {f : AS → Option (Bool × AS)} (h : Hid (TJ X n D e f)) : Hid (TJ X n D (.UnaryOp .Not e pos) (notT f)) := ⟨tj_not h.h⟩
theorem htjb_and_nil {pos : Pos} : Hid (TJB X n D .And [] pos ttT) := ⟨tjb_and_nil ⟩
theorem htjb_or_nil {pos : Pos} : Hid (TJB X n D .Or [] pos ffT) := ⟨tjb_or_nil ⟩
theorem htjb_and {e : Expr} {es : List Expr} {pos : Pos} {f g : AS → Option (Bool × AS)} (h : Hid (TJ X n D e f)) (hs : Hid (TJB X n D .And es pos g)) : Hid (TJB X n D .And (e :: es) pos (andT f g)) := ⟨tjb_and h.h hs.h⟩
theorem htjb_or {e : Expr} {es : List Expr} {pos : Pos} {f g : AS → Option (Bool × AS)} (h : Hid (TJ X n D e f)) (hs : Hid (TJB X n D .Or es pos g)) : Hid (TJB X n D .Or (e :: es) pos (orT f g)) := ⟨tjb_or h.h hs.h⟩
theorem htj_boolop {op : BoolOp} {es : List Expr} {pos : Pos} {f : AS → Option (Bool × AS)} (h : Hid (TJB X n D op es pos f)) : Hid (TJ X n D (.BoolOp op es pos) f) := ⟨tj_boolop h.h⟩
theorem hev_ifexp {t b o : Expr} {pos : Pos} {ft : AS → Option (Bool × AS)} {fb fo : AS → Option (AV × AS)} (ht : Hid (TJ X n D t ft)) (hb : Hid (EVJ X n D b fb)) (ho : Hid (EVJ X n D o fo)) : Hid (EVJ X n D (.IfExp t b o pos) (iteA ft fb fo)) := ⟨ev_ifexp ht.h hb.h ho.h⟩
theorem hev_neg {e : Expr} {pos : Pos} {f : AS → Option (AV × AS)} (h : Hid (EVJ X n D e f)) : Hid (EVJ X n D (.UnaryOp .USub e pos) (negA f)) := ⟨ev_neg h.h⟩
theorem hexs_nil  : Hid (EXSJ X n D [] skA) := ⟨exs_nil ⟩
theorem hexs_cons {st : Stmt} {r : List Stmt} {f g : AS → Option (AF × AS)} (h : Hid (EXJ X n D st f)) (hr : Hid (EXSJ X n D r g)) : Hid (EXSJ X n D (st :: r) (seqA f g)) := ⟨exs_cons h.h hr.h⟩
theorem hex_assign {x : Str} {pos' pos : Pos} {e : Expr} {f : AS → Option (AV × AS)} (i : Var) (h : Hid (EVJ X n D e f)) (hnd : D.names.Nodup) (hx : VarOK D x i = true) (hs : ∀ env, env.scope = D.cs → swapsWith e (some (.Name x pos')) pos.line env = pure false) : Hid (EXJ X n D (.Assign [.Name x pos'] e pos) (asgA i f)) := ⟨ex_assign i h.h hnd hx hs⟩
theorem hex_aug {x : Str} {pos' pos : Pos} {e : Expr} {op : Operator} {f : AS → Option (AV × AS)} {g : AV → AV → AS → Option (AV × AS)} (i : Var) (h : Hid (EVJ X n D e f)) (ho : Hid (Op2 X n D (inplaceOp op) g)) (hnd : D.names.Nodup) (hx : VarOK D x i = true) : Hid (EXJ X n D (.AugAssign (.Name x pos') op e pos) (augA i f g)) := ⟨ex_aug i h.h ho.h hnd hx⟩
theorem hex_if {t : Expr} {b o : List Stmt} {pos : Pos} {ft : AS → Option (Bool × AS)} {fb fo : AS → Option (AF × AS)} (ht : Hid (TJ X n D t ft)) (hb : Hid (EXSJ X n D b fb)) (ho : Hid (EXSJ X n D o fo)) : Hid (EXJ X n D (.If t b o pos) (iteA ft fb fo)) := ⟨ex_if ht.h hb.h ho.h⟩
theorem hexs_no {sts : List Stmt} : Hid (EXSJ X n D sts noA) := ⟨exs_no ⟩
theorem hex_return {e : Expr} {pos : Pos} {f : AS → Option (AV × AS)} (h : Hid (EVJ X n D e f)) : Hid (EXJ X n D (.Return (some e) pos) (retA f)) := ⟨ex_return h.h⟩
theorem hex_expr {e : Expr} {pos : Pos} {f : AS → Option (AV × AS)} (h : Hid (EVJ X n D e f)) (hs : ∀ env, swapsWith e none pos.line env = pure false) : Hid (EXJ X n D (.Expr e pos) (dropA f)) := ⟨ex_expr h.h hs⟩
theorem hex_break {pos : Pos} : Hid (EXJ X n D (.Break pos) brkA) := ⟨ex_break ⟩
theorem hex_assert {e : Expr} {pos : Pos} {f : AS → Option (Bool × AS)} (h : Hid (TJ X n D e f)) : Hid (EXJ X n D (.Assert e none pos) (assA f)) := ⟨ex_assert h.h⟩
theorem hnm_global {x : Str} {pos : Pos} {v : Value} (e : nsIn X.K mainGlobals x = some (some v)) (hx : D.cs.names.lookup x = some .globalImplicit) (hd : (x == ("__debug__" : Str)) = false := by decide) : Hid (NmJ X D (.Name x pos) v) := ⟨nm_global e hx hd⟩
theorem hnm_builtin {x : Str} {pos : Pos} {v : Value} (e : nsIn X.K mainGlobals x = some none) (hv : bootBuiltins x = some v) (hx : D.cs.names.lookup x = some .globalImplicit) (hn : x ≠ "__name__" := by decide) (hd : (x == ("__debug__" : Str)) = false := by decide) : Hid (NmJ X D (.Name x pos) v) := ⟨nm_builtin e hv hx hn hd⟩
theorem hev_const {e : Expr} {v : Value} {a : AV} (h : Hid (NmJ X D e v)) (ha : VRep [] a v) : Hid (EVJ X n D e (cstA a)) := ⟨ev_const h.h ha⟩
theorem har_nil  : Hid (ARJ X n D [] argN) := ⟨ar_nil ⟩
theorem har_cons {e : Expr} {es : List Expr} {f : AS → Option (AV × AS)} {g : AS → Option (List AV × AS)} (h : Hid (EVJ X n D e f)) (hs : Hid (ARJ X n D es g)) (he : ∀ env, starEach (e :: es) env = (false, eval e env) :: starEach es env) : Hid (ARJ X n D (e :: es) (argC f g)) := ⟨ar_cons h.h hs.h he⟩
theorem hev_meth {o : Expr} {name : Str} {apos pos : Pos} {es : List Expr} {id : String} {pl : Env → Sem Bool} {fo : AS → Option (AV × AS)} {sel : AV → AS → Bool} {fa : AS → Option (List AV × AS)} {g : List AV → AS → Option (AV × AS)} (ho : Hid (EVJ X n D o fo)) (hm : Hid (GetJ X n D name id sel)) (ha : Hid (ARJ X n D es fa)) (hg : Hid (CallJ X n D (.builtin id) g)) (hp : ∀ env, Plainly pos es env) (he : ∀ env, eval (.Call (.Attribute o name apos) es [] pos) env = (do
        let ov ← eval o env
        standAt apos.atName
        let (f, first) ← holding [ov] (getMethod ov name (pl env))
        callWith pos f first (backTo pos (starEach es env)) [])) : Hid (EVJ X n D (.Call (.Attribute o name apos) es [] pos) (methA fo sel fa g)) := ⟨ev_meth ho.h hm.h ha.h hg.h hp he⟩
theorem hgetj_str {name : Str} {id : String} (slot : Slot "str" name id) (hty : typeOf (.builtin id) = pure (.type "method_descriptor")) : Hid (GetJ X n D name id isStrV) := ⟨getj_str slot hty⟩
theorem hgetj_list {name : Str} {id : String} (slot : Slot "list" name id) (hty : typeOf (.builtin id) = pure (.type "method_descriptor")) (pa : PlainAttrs "list") : Hid (GetJ X n D name id isListV) := ⟨getj_list slot hty pa⟩
theorem hcall_len  : Hid (CallJ X n D (.builtin "len") lenG) := ⟨call_len ⟩
theorem hcall_hex  : Hid (CallJ X n D (.builtin "hex") hexG) := ⟨call_hex ⟩
theorem hcall_chr  : Hid (CallJ X n D (.builtin "chr") chrG) := ⟨call_chr ⟩
theorem hcall_min2  : Hid (CallJ X n D (.builtin "min") min2G) := ⟨call_min2 ⟩
theorem hcall_sum  : Hid (CallJ X n D (.builtin "sum") sumG) := ⟨call_sum ⟩
theorem hcall_min  : Hid (CallJ X n D (.builtin "min") minG) := ⟨call_min ⟩
theorem hcall_join  : Hid (CallJ X n D (.builtin "str.join") joinG) := ⟨call_join ⟩
theorem hcall_split  : Hid (CallJ X n D (.builtin "str.split") splitG) := ⟨call_split ⟩
theorem hcall_find  : Hid (CallJ X n D (.builtin "str.find") findG) := ⟨call_find ⟩
theorem hcall_append  : Hid (CallJ X n D (.builtin "list.append") appendG) := ⟨call_append ⟩
theorem hcall_pop  : Hid (CallJ X n D (.builtin "list.pop") popG) := ⟨call_pop ⟩
theorem hgetj_tab {ad : Addr} {tab : List (Int × AV)} (ht : TabTop X ad tab) : Hid (GetJ X n D "get" "dict.get" (isAdrV ad)) := ⟨getj_tab ht⟩
theorem hcall_tab {ad : Addr} {tab : List (Int × AV)} (ht : TabTop X ad tab) : Hid (CallJ X n D (.builtin "dict.get") (tabG ad tab)) := ⟨call_tab ht⟩
theorem hev_list {es : List Expr} {pos : Pos} {fa : AS → Option (List AV × AS)} (ha : Hid (ARJ X n D es fa)) : Hid (EVJ X n D (.List es pos) (listA fa)) := ⟨ev_list ha.h⟩
theorem habin_ok (op : Operator) : Hid (Op2 X n D (binaryOp op) (abin op)) := ⟨abin_ok op⟩
theorem hev_sub {value slice : Expr} {pos : Pos} {fv fs : AS → Option (AV × AS)} (hv : Hid (EVJ X n D value fv)) (hs : Hid (EVJ X n D slice fs)) (hsub : ∀ o i, subscripted slice false o i = operate [o, i] (getItem o i)) : Hid (EVJ X n D (.Subscript value slice pos) (b2A fv fs subG)) := ⟨ev_sub hv.h hs.h hsub⟩
theorem hpt_none  : Hid (PTJ X n D none ptN) := ⟨pt_none ⟩
theorem hpt_some {e : Expr} {f : AS → Option (AV × AS)} (h : Hid (EVJ X n D e f)) : Hid (PTJ X n D (some e) (ptS f)) := ⟨pt_some h.h⟩
theorem hev_cut {value : Expr} {lower upper : Option Expr} {p pos : Pos} {old : Option (Addr × List Int)} {fv : AS → Option (AV × AS)} {fl fu : AS → Option (Option Int × AS)} (hv : Hid (EVJ X n D value fv)) (hl : Hid (PTJ X n D lower fl)) (hu : Hid (PTJ X n D upper fu)) (hold : ∀ a ns, old = some (a, ns) → OldInts X a ns) (hsub : ∀ o i, subscripted (.Slice lower upper none p) false o i = operate [i, o] (getItem o i)) : Hid (EVJ X n D (.Subscript value (.Slice lower upper none p) pos) (cutA old fv fl fu)) := ⟨ev_cut hv.h hl.h hu.h hold hsub⟩
theorem hex_set {o i value : Expr} {pos' pos : Pos} {fv fo fi : AS → Option (AV × AS)} (hv : Hid (EVJ X n D value fv)) (ho : Hid (EVJ X n D o fo)) (hi : Hid (EVJ X n D i fi)) (hs : ∀ env, swapsWith value (some (.Subscript o i pos')) pos.line env = pure false) : Hid (EXJ X n D (.Assign [.Subscript o i pos'] value pos) (setA fv fo fi)) := ⟨ex_set hv.h ho.h hi.h hs⟩
theorem hex_augSub {o i value : Expr} {pos' pos : Pos} {op : Operator} {fv fo fi : AS → Option (AV × AS)} {g : AV → AV → AS → Option (AV × AS)} (ho : Hid (EVJ X n D o fo)) (hi : Hid (EVJ X n D i fi)) (hv : Hid (EVJ X n D value fv)) (hg : Hid (Op2 X n D (inplaceOp op) g)) (ha : ∀ ov iv new, augStore i ov iv new = (do holding [new, ov, iv] (setItem ov iv new); release [new, ov, iv] []; pure .next)) : Hid (EXJ X n D (.AugAssign (.Subscript o i pos') op value pos) (augSA fo fi fv g)) := ⟨ex_augSub ho.h hi.h hv.h hg.h ha⟩
theorem hex_pair {x y : Str} {px py tp vp pos : Pos} {e1 e2 : Expr} {k1 k2 : Nat} {fa : AS → Option (List AV × AS)} (i j : Var) (ha : Hid (ARJ X n D [e1, e2] fa)) (hnd : D.names.Nodup) (hx : VarOK D x i = true) (hy : VarOK D y j = true) (hs : ∀ env, swapsWithSole [.Tuple [.Name x px, .Name y py] k1 tp] (.Tuple [e1, e2] k2 vp) pos.line env = pure false) (hw : ∀ env, env.scope = D.cs → swappedStores [.Tuple [.Name x px, .Name y py] k1 tp] (.Tuple [e1, e2] k2 vp) env = pure (some [x, y])) : Hid (EXJ X n D (.Assign [.Tuple [.Name x px, .Name y py] k1 tp] (.Tuple [e1, e2] k2 vp) pos) (pairA i j fa)) := ⟨ex_pair i j ha.h hnd hx hy hs hw⟩
theorem hex_for {target iter : Expr} {b o : List Stmt} {pos : Pos} {fi : AS → Option ((List (AS → Option AS) × (AS → Bool)) × AS)} {fb fo : AS → Option (AF × AS)} (hi : Hid (ITJ X n D target iter fi)) (hb : Hid (EXSJ X n D b fb)) (ho : Hid (EXSJ X n D o fo)) (hs : ∀ env x, foldedSetIterable iter env x = pure x) : Hid (EXJ X n D (.For target iter b o pos) (forA fi fb fo)) := ⟨ex_for hi.h hb.h ho.h hs⟩
theorem hit_name {x : Str} {px : Pos} {e : Expr} {fi : AS → Option ((List AV × (AS → Bool)) × AS)} (v : Var) (h : Hid (RJ X n D e fi)) (hnd : D.names.Nodup) (hx : VarOK D x v = true) : Hid (ITJ X n D (.Name x px) e (itA v fi)) := ⟨it_name v h.h hnd hx⟩
theorem hit_list {e : Expr} {f : AS → Option (AV × AS)} (he : Hid (EVJ X n D e f)) : Hid (RJ X n D e (itListA f)) := ⟨it_list he.h⟩
theorem hit_tuple {es : List Expr} {q : Nat} {pos : Pos} {fa : AS → Option (List AV × AS)} (ha : Hid (ARJ X n D es fa)) : Hid (RJ X n D (.Tuple es q pos) (itTupA fa)) := ⟨it_tuple ha.h⟩
theorem hcall_def {f : Addr} {m₀ : Nat} {oc : Value} {od : Option Addr} {osl : Array (Option Value)} {name qual : Str} {params : Arguments} {body : List Stmt} {cs : Scope} {dV kV doc pm cdv ct : Value} {an : Option Addr} (ps names : List Str) {np nref : Nat} {slots cslots : List (Option Nat)} {fb : AS → Option (AF × AS)} (ho : X.K.lookup f = some ⟨oc, od, .func (fnOf name qual params body cs dV kV doc pm an cdv ct), osl⟩) (hcd : codeIn X.K cdv qual = true) (hbind : ∀ (s : Shared) (vs : List Value), vs.length = ps.length → BindsTo s (fnOf name qual params body cs dV kV doc pm an cdv ct) ⟨vs, []⟩ (ps.zip vs)) (hps : ps.Nodup) (hkind : (ps.all fun y => cs.names.lookup y == some .local || cs.names.lookup y == some .cell) = true) (hnd : (cellNames cs).Nodup) (hcl : ((cellNames cs).all fun x => cs.names.lookup x == some .cell) = true) (hnm : (names.all fun x => cs.names.lookup x == some .local) = true) (hco : cs.isCoroutine = false) (hgen : cs.isGenerator = false) (hk : cs.kind = .function) (hnp : ps.length = np) (hsl : slotsOf ps names = slots) (hcs : slotsOf ps (cellNames cs) = cslots) (hb : Hid (EXSJ X m₀ ⟨cs, names, (cellNames cs).zipIdx nref, none⟩ body fb)) : Hid (CallJ X (m₀ + 1) D (.ref f) (defG np nref slots cslots fb)) := ⟨call_def ps names ho hcd hbind hps hkind hnd hcl hnm hco hgen hk hnp hsl hcs hb.h⟩
theorem hif_nil  : Hid (IFJ X n D [] ttT) := ⟨if_nil ⟩
theorem hif_one {t : Expr} {f : AS → Option (Bool × AS)} (h : Hid (TJ X n D t f)) : Hid (IFJ X n D [t] f) := ⟨if_one h.h⟩
theorem hev_comp {elt iter : Expr} {x : Str} {px : Pos} {ifs : List Expr} {scope : Scope} {pos : Pos} {fi : AS → Option ((List AV × (AS → Bool)) × AS)} {ft : AS → Option (Bool × AS)} {fe : AS → Option (AV × AS)} (hco : CompOK D scope x = true) (hi : Hid (RJ X n D iter fi)) (ht : Hid (IFJ X n (compD D scope x) ifs ft)) (he : Hid (EVJ X n (compD D scope x) elt fe)) (hs : ∀ env x, foldedSetIterable iter env x = pure x) : Hid (EVJ X n D (.ListComp elt [⟨.Name x px, iter, ifs, 0⟩] scope pos) (compA fi ft fe)) := ⟨ev_comp hco hi.h ht.h he.h hs⟩
theorem hex_assignComp {y : Str} {pos' apos : Pos} {elt iter : Expr} {x : Str} {px : Pos} {ifs : List Expr} {scope : Scope} {pos : Pos} {fi : AS → Option ((List AV × (AS → Bool)) × AS)} {ft : AS → Option (Bool × AS)} {fe : AS → Option (AV × AS)} (i : Var) (hco : CompOK D scope x = true) (hi : Hid (RJ X n D iter fi)) (ht : Hid (IFJ X n (compD D scope x) ifs ft)) (he : Hid (EVJ X n (compD D scope x) elt fe)) (hs : ∀ env x, foldedSetIterable iter env x = pure x) (hnd : D.names.Nodup) (hy : VarOK D y i = true) (hsw : ∀ env, env.scope = D.cs → swapsWith (.ListComp elt [⟨.Name x px, iter, ifs, 0⟩] scope pos) (some (.Name y pos')) apos.line env = pure true) : Hid (EXJ X n D (.Assign [.Name y pos'] (.ListComp elt [⟨.Name x px, iter, ifs, 0⟩] scope pos) apos) (asgA i (compA fi ft fe))) := ⟨ex_assignComp i hco hi.h ht.h he.h hs hnd hy hsw⟩
theorem hit_gen {f : Addr} {oc : Value} {od : Option Addr} {osl : Array (Option Value)} {name qual : Str} {params : Arguments} {l : Nat} {dV kV doc pm cdv ct : Value} {an : Option Addr} {x y : Str} {px py tp pos : Pos} {q : Nat} {func : Expr} {es : List Expr} {fa : AS → Option (List AV × AS)} (i j : Var) (ho : X.K.lookup f = some ⟨oc, od, .func (fnOf name qual params (escBody l) escScope dV kV doc pm an cdv ct), osl⟩) (hcd : codeIn X.K cdv qual = true) (hkp : keepIn X.K (.ref f) = true) (hbind : ∀ (s : Shared) (v : Value), BindsTo s (fnOf name qual params (escBody l) escScope dV kV doc pm an cdv ct) ⟨[v], []⟩ [("addr", v)]) (hen : nsIn X.K mainGlobals "enumerate" = some none) (hbt : bootBuiltins "enumerate" = some (.type "enumerate")) (hf : Hid (NmJ X D func (.ref f))) (ha : Hid (ARJ X n D es fa)) (hnd : D.names.Nodup) (hx : VarOK D x i = true) (hy : VarOK D y j = true) (hp : ∀ env, Plainly pos es env) (he : ∀ env, eval (.Call func es [] pos) env = (do callWith pos (← eval func env) [] (backTo pos (starEach es env)) (backToKw pos (keywordEach [] env)))) : Hid (ITJ X n D (.Tuple [.Name x px, .Name y py] q tp) (.Call func es [] pos) (itEscA i j fa)) := ⟨it_gen i j ho hcd hkp hbind hen hbt hf.h ha.h hnd hx hy hp he⟩
theorem hev_rep {a y z w : Str} {q1 q2 q3 : Nat} {p1 p2 p3 pw pa pc pos : Pos} {pl : Env → Sem Bool} (i : Var) (hx : VarOK D w i = true) (hd : (w == ("__debug__" : Str)) = false) (he : ∀ env, eval (.Call (.Attribute (.Name w pw) "replace" pa) [.Constant (.str y) q2 p2, .Constant (.str z) q3 p3] [] pc) env = (do
        let ov ← eval (.Name w pw) env
        standAt pa.atName
        let (f, first) ← holding [ov] (getMethod ov "replace" (pl env))
        callWith pc f first (backTo pc (starEach [.Constant (.str y) q2 p2, .Constant (.str z) q3 p3] env)) [])) (hs : ∀ env, starEach [.Constant (.str y) q2 p2, .Constant (.str z) q3 p3] env = (false, eval (.Constant (.str y) q2 p2) env) :: starEach [.Constant (.str z) q3 p3] env) (hs' : ∀ env, starEach [.Constant (.str z) q3 p3] env = (false, eval (.Constant (.str z) q3 p3) env) :: starEach [] env) : Hid (EVJ X n D (.BinOp (.Constant (.str a) q1 p1) .Add (.Call (.Attribute (.Name w pw) "replace" pa) [.Constant (.str y) q2 p2, .Constant (.str z) q3 p3] [] pc) pos) (repA a i y z)) := ⟨ev_rep i hx hd he hs hs'⟩
theorem hex_while {t : Expr} {b : List Stmt} {pos : Pos} {ft : AS → Option (Bool × AS)} {fb : AS → Option (AF × AS)} (fuel : Nat) (ht : Hid (TJ X n D t ft)) (hb : Hid (EXSJ X n D b fb)) : Hid (EXJ X n D (.While t b [] pos) (whlA ft fb fuel)) := ⟨ex_while fuel ht.h hb.h⟩
theorem hev_callN {x : Str} {px : Pos} {es : List Expr} {pos : Pos} {f : Value} {fa : AS → Option (List AV × AS)} {g : List AV → AS → Option (AV × AS)} (hf : Hid (NmJ X D (.Name x px) f)) (hc : Callable X f) (ha : Hid (ARJ X n D es fa)) (hg : Hid (CallJ X n D f g)) (hp : NoSt es) : Hid (EVJ X n D (.Call (.Name x px) es [] pos) (callA fa g)) := ⟨ev_callN hf.h hc ha.h hg.h hp⟩
theorem hit_rangeN {x : Str} {px : Pos} {es : List Expr} {pos : Pos} {fa : AS → Option (List AV × AS)} (hf : Hid (NmJ X D (.Name x px) (.type "range"))) (ha : Hid (ARJ X n D es fa)) (hp : NoSt es) : Hid (RJ X n D (.Call (.Name x px) es [] pos) (itRangeA fa)) := ⟨it_rangeN hf.h ha.h hp⟩
end Mine
-- part M21
namespace Mine
theorem law_go {X : Wd} {cs : Scope} {x : Str} {names : List Str} {env : Env} {L a : Addr} {h₀ : Heap} {m : Str → Option Value} {body : List Stmt} {f : AS → Option (AF × AS)} {s : Shared} {Q : Flow → Shared → Prop} {E : Value → Shared → Prop}
    (hB : Hid (EXSJ X 10 ⟨cs, x :: names, [], none⟩ body f)) (K0 : Below callerA h₀ [] h₀) (F : Fr h₀ L s.heap m) (N : News h₀ L s.heap []) (hm : m x = some (.ref a))
    (KX : X.K.In h₀) (T : Top X.p X.loose X.mean X.mg X.mb h₀) (big : sysModules < h₀.objs.size) (old : ∀ p ∈ X.olds, h₀.get? p.1 = some p.2)
    (hfr : env.frame = some L) (hsc : env.scope = cs) (hk : cs.kind = .function) (hgl : env.globals = mainGlobals) (hbi : env.builtins = builtinsNs) (hlo : env.locals = L)
    (hf : ∃ σ', f ⟨some (.adr a) :: names.map (fun _ => none), none, []⟩ = some (.ret (.bool true), σ'))
    (k : ∀ s' m', Fr h₀ L s'.heap m' → Same s s' → Q (.ret (.bool true)) s') : wpAny (model X.prog X.w) (callerA.deeper env) (execs body env) Q E s := by
  obtain ⟨σ', hf⟩ := hf
  have ok : Cx.OK ⟨env, env, L, 0, [], callerA, callerA.deeper env, h₀, h₀⟩ X ⟨cs, x :: names, [], none⟩ 10 :=
    { below := fun _ => K0, old := old, frames := fun _ => Around.frames_deeper K0.stack, fframe := hfr, fkind := by rw [hsc]; exact hk, handled := rfl, depth := (by show callerA.depth + 1 + 10 < recursionLimit; decide), units := (by show callerA.units + 3 + 4 * 10 + 400 < cLine; decide), kin := KX, top := T, escope := hsc, kind := hk, eglob := hgl, ebi := hbi, eloc := hlo }
  have R : Rel X ⟨env, env, L, 0, [], callerA, callerA.deeper env, h₀, h₀⟩ ⟨cs, x :: names, [], none⟩ [] [] ⟨some (.adr a) :: names.map (fun _ => none), none, []⟩ s.heap := by
    refine ⟨⟨[], ⟨⟨m, [], F, N, trivial, rfl, .nil, fun i y b hy hb => ?_⟩, big, fun b hb => nomatch hb⟩, rfl⟩, fun p hp => nomatch hp⟩
    cases i with
    | zero =>
      simp only [List.getElem?_cons_zero, Option.some.injEq] at hy hb
      subst hy; subst hb
      exact ⟨_, hm, rfl⟩
    | succ i =>
      rw [List.getElem?_cons_succ, List.getElem?_map] at hb
      cases names[i]? <;> simp at hb
  refine hB.h ⟨env, env, L, 0, [], callerA, callerA.deeper env, h₀, h₀⟩ ok [] [] _ _ _ s Q E R hf fun fl s' ρ' p e R' S' => ?_
  obtain ⟨v, rfl, hv⟩ := e
  cases hv
  obtain ⟨m', F'⟩ := R'.fr
  exact k s' m' F' S'
end Mine
-- part M22
namespace Mine
section
variable {σ : AS}
theorem pl_add {a b : Int} : abin .Add (.int a) (.int b) σ = some (.int (a + b), σ) := rfl
theorem pl_sub {a b : Int} : abin .Sub (.int a) (.int b) σ = some (.int (a - b), σ) := rfl
theorem pl_pow2 {b : Nat} (h : b ≤ 1000000) : abin .Pow (.int 2) (.int b) σ = some (.int (2 ^ b), σ) := by
  have : (small 2 && decide (0 ≤ (b : Int)) && decide ((b : Int) ≤ 1000000)) = true := by
    simp only [Bool.and_eq_true, decide_eq_true_eq]; exact ⟨⟨by decide, by omega⟩, by omega⟩
  show Option.map _ (if (small 2 && decide (0 ≤ (b : Int)) && decide ((b : Int) ≤ 1000000)) = true then some (AV.int ((2 : Int) ^ (b : Int).toNat)) else none) = _
  rw [if_pos this, Int.toNat_natCast]; rfl
theorem pl_fdiv {a b : Int} (h : 0 < b) (h' : b < 1073741824) : abin .FloorDiv (.int a) (.int b) σ = some (.int (a.fdiv b), σ) := by
  show Option.map _ (if (decide (0 < b) && decide (b < 1073741824)) = true then some (AV.int (a.fdiv b)) else none) = _
  rw [if_pos (by rw [decide_eq_true h, decide_eq_true h']; rfl)]; rfl
theorem pl_mod {a b : Int} (h : b ≠ 0) : abin .Mod (.int a) (.int b) σ = some (.int (a.fmod b), σ) := by
  show Option.map _ (if (b != 0) = true then some (AV.int (a.fmod b)) else none) = _
  rw [if_pos (bne_iff_ne.mpr h)]; rfl
theorem pl_eq {a b : Int} : cmpG .Eq (.int a) (.int b) σ = some (.bool (a == b), σ) := rfl
theorem pl_ne {a b : Int} : cmpG .NotEq (.int a) (.int b) σ = some (.bool (a != b), σ) := rfl
theorem pl_ge {a b : Int} : cmpG .GtE (.int a) (.int b) σ = some (.bool (decide (b ≤ a)), σ) := rfl
theorem pl_sub_at {i k : Nat} {xs : List AV} {v : AV} (h : σ.objs[i]? = some (.flat xs)) (hk : k < 100000) (hv : xs[k]? = some v) : subG (.ref i) (.int k) σ = some (v, σ) := by
  simp only [subG, h, atI]
  rw [if_pos (by omega), if_pos (by omega), Int.toNat_natCast, hv]; rfl
end

end Mine
-- part M23
namespace Mine
section
variable {σ σ₁ σ₂ σ₃ σ₄ σ₅ σ₆ : AS} {a b v x y : AV}
noncomputable def selB {α : Type} (b : Bool) (x y : α) : α := match b with | true => x | false => y
theorem selB_t {α : Type} {b : Bool} {x y r : α} (hb : b = true) (h : x = r) : selB b x y = r := by subst hb; exact h
theorem selB_f {α : Type} {b : Bool} {x y r : α} (hb : b = false) (h : y = r) : selB b x y = r := by subst hb; exact h
theorem e_fast {i : Nat} {l : List (Option AV)} {c : Option AV} {o : List AO} (h : l[i]? = some (some a)) : ldA (.fast i) ⟨l, c, o⟩ = some (a, ⟨l, c, o⟩) := by simp only [ldA, ldV, h]
theorem e_cell {k : Nat} {l : List (Option AV)} {c : Option AV} {o : List AO} (h : o[k]? = some (.cell (some a))) : ldA (.cell k) ⟨l, c, o⟩ = some (a, ⟨l, c, o⟩) := by simp only [ldA, ldV, h]
theorem e_cv {l : List (Option AV)} {o : List AO} : ldA .cv ⟨l, some a, o⟩ = some (a, ⟨l, some a, o⟩) := rfl
theorem e_cst : cstA a σ = some (a, σ) := rfl
theorem e_b2 {fl fr : AS → Option (AV × AS)} {g : AV → AV → AS → Option (AV × AS)} {r : Option (AV × AS)} (h1 : fl σ = some (a, σ₁)) (h2 : fr σ₁ = some (b, σ₂)) (h3 : g a b σ₂ = r) : b2A fl fr g σ = r := by
  simp only [b2A, h1, h2, h3]
theorem e_neg {f : AS → Option (AV × AS)} {i : Int} (h : f σ = some (.int i, σ₁)) : negA f σ = some (.int (-i), σ₁) := by simp only [negA, h]
theorem e_ite {α : Type} {t : AS → Option (Bool × AS)} {f g : AS → Option (α × AS)} {bb : Bool} {r : Option (α × AS)} (h : t σ = some (bb, σ₁)) (h2 : selB bb (f σ₁) (g σ₁) = r) : iteA t f g σ = r := by
  delta iteA; rw [h]; cases bb <;> exact h2
theorem e_not {f : AS → Option (Bool × AS)} {bb : Bool} (h : f σ = some (bb, σ₁)) : notT f σ = some (!bb, σ₁) := by simp only [notT, h]
theorem e_and {f g : AS → Option (Bool × AS)} {bb : Bool} {r : Option (Bool × AS)} (h : f σ = some (bb, σ₁)) (h2 : selB bb (g σ₁) (some (false, σ₁)) = r) : andT f g σ = r := by
  delta andT; rw [h]; cases bb <;> exact h2
theorem e_argC {f : AS → Option (AV × AS)} {g : AS → Option (List AV × AS)} {as : List AV} (h1 : f σ = some (a, σ₁)) (h2 : g σ₁ = some (as, σ₂)) : argC f g σ = some (a :: as, σ₂) := by simp only [argC, h1, h2]
theorem e_argN : argN σ = some ([], σ) := rfl
theorem e_call {fa : AS → Option (List AV × AS)} {g : List AV → AS → Option (AV × AS)} {as : List AV} {r : Option (AV × AS)} (h1 : fa σ = some (as, σ₁)) (h2 : g as σ₁ = r) : callA fa g σ = r := by simp only [callA, h1, h2]
theorem e_meth {fo : AS → Option (AV × AS)} {sel : AV → AS → Bool} {fa : AS → Option (List AV × AS)} {g : List AV → AS → Option (AV × AS)} {as : List AV} {r : Option (AV × AS)} (h1 : fo σ = some (a, σ₁)) (hs : sel a σ₁ = true) (h2 : fa σ₁ = some (as, σ₂)) (h3 : g (a :: as) σ₂ = r) : methA fo sel fa g σ = r := by
  simp only [methA, h1, hs, h2, h3, if_true]
theorem e_sk : skA σ = some (.next, σ) := rfl
theorem e_ret {f : AS → Option (AV × AS)} (h : f σ = some (v, σ₁)) : retA f σ = some (.ret v, σ₁) := by simp only [retA, h]
theorem e_drop {f : AS → Option (AV × AS)} (h : f σ = some (v, σ₁)) : dropA f σ = some (.next, σ₁) := by simp only [dropA, h]
theorem set0 {α : Type} {a x : α} {l : List α} : (a :: l).set 0 x = x :: l := rfl
theorem setS {α : Type} {a x : α} {l l' : List α} {n : Nat} (h : l.set n x = l') : (a :: l).set (n + 1) x = a :: l' := by subst h; rfl
theorem e_asg {i : Nat} {f : AS → Option (AV × AS)} {l l' : List (Option AV)} {c : Option AV} {o : List AO} (h : f σ = some (a, ⟨l, c, o⟩)) (h2 : l.set i (some a) = l') : asgA (.fast i) f σ = some (.next, ⟨l', c, o⟩) := by
  subst h2; simp only [asgA, h, stV]
theorem e_asgC {i : Nat} {f : AS → Option (AV × AS)} {l : List (Option AV)} {c : Option AV} {o o' : List AO} {w : Option AV} (h : f σ = some (a, ⟨l, c, o⟩)) (h1 : o[i]? = some (.cell w)) (h2 : o.set i (.cell (some a)) = o') : asgA (.cell i) f σ = some (.next, ⟨l, c, o'⟩) := by
  subst h2; simp only [asgA, h, stV, h1]
theorem e_aug {i : Nat} {f : AS → Option (AV × AS)} {g : AV → AV → AS → Option (AV × AS)} {l l' : List (Option AV)} {c : Option AV} {o : List AO} (h : b2A (ldA (.fast i)) f g σ = some (a, ⟨l, c, o⟩)) (h2 : l.set i (some a) = l') : augA (.fast i) f g σ = some (.next, ⟨l', c, o⟩) := by
  subst h2; simp only [augA, h, stV]
theorem e_for {fi : AS → Option ((List (AS → Option AS) × (AS → Bool)) × AS)} {body els : AS → Option (AF × AS)} {its : List (AS → Option AS)} {chk : AS → Bool} {r : Option (AF × AS)} (h1 : fi σ = some ((its, chk), σ₁)) (h2 : forL chk body els its σ₁ = r) : forA fi body els σ = r := by
  simp only [forA, h1, h2]
end
end Mine
-- part M24
namespace Mine
section
variable {σ σ₁ σ₂ σ₃ σ₄ σ₅ σ₆ : AS} {a b v x y : AV}
noncomputable def seqK (q : AF) (x : Option (AF × AS)) (σ : AS) : Option (AF × AS) := match q with
  | .next => x
  | q => some (q, σ)
theorem e_seqK {f g : AS → Option (AF × AS)} {q : AF} {r : Option (AF × AS)} (h1 : f σ = some (q, σ₁)) (h2 : seqK q (g σ₁) σ₁ = r) : seqA f g σ = r := by
  delta seqA; rw [h1]; cases q <;> exact h2
theorem seqK_next {x r : Option (AF × AS)} (h : x = r) : seqK .next x σ = r := h
theorem seqK_ret {x : Option (AF × AS)} : seqK (.ret v) x σ = some (.ret v, σ) := rfl
theorem e_truP {f : AS → Option (AV × AS)} {bb : Bool} (h : f σ = some (a, σ₁)) (h2 : ptru a = some bb) : truA f σ = some (bb, σ₁) := by simp only [truA, h, h2]
theorem ptru_bool {bb : Bool} : ptru (.bool bb) = some bb := rfl
theorem e_tt : ttT σ = some (true, σ) := rfl
theorem e_methK {fo : AS → Option (AV × AS)} {sel : AV → AS → Bool} {fa : AS → Option (List AV × AS)} {g : List AV → AS → Option (AV × AS)} {as : List AV} {r : Option (AV × AS)} (h1 : fo σ = some (a, σ₁)) (hs : sel a σ₁ = true) (h2 : fa σ₁ = some (as, σ₂)) (h3 : g (a :: as) σ₂ = r) : methA fo sel fa g σ = r := e_meth h1 hs h2 h3
theorem sel_str {s : Str} : isStrV (.str s) σ = true := rfl
theorem e_asgK {i : Nat} {f : AS → Option (AV × AS)} {l l' : List (Option AV)} {c : Option AV} {o : List AO} (h : f σ = some (a, ⟨l, c, o⟩)) (h2 : l.set i (some a) = l') : asgA (.fast i) f σ = some (.next, ⟨l', c, o⟩) := e_asg h h2
theorem e_asgCK {i : Nat} {f : AS → Option (AV × AS)} {l : List (Option AV)} {c : Option AV} {o o' : List AO} {w : Option AV} (h : f σ = some (a, ⟨l, c, o⟩)) (h1 : o[i]? = some (.cell w)) (h2 : o.set i (.cell (some a)) = o') : asgA (.cell i) f σ = some (.next, ⟨l, c, o'⟩) := e_asgC h h1 h2
theorem e_augK {i : Nat} {f : AS → Option (AV × AS)} {g : AV → AV → AS → Option (AV × AS)} {l l' : List (Option AV)} {c : Option AV} {o : List AO} (h : b2A (ldA (.fast i)) f g σ = some (a, ⟨l, c, o⟩)) (h2 : l.set i (some a) = l') : augA (.fast i) f g σ = some (.next, ⟨l', c, o⟩) := e_aug h h2
theorem e_negK {f : AS → Option (AV × AS)} {i : Int} (h : f σ = some (.int i, σ₁)) : negA f σ = some (.int (-i), σ₁) := e_neg h
theorem e_assK {t : AS → Option (Bool × AS)} {bb : Bool} (h : t σ = some (bb, σ₁)) (h2 : bb = true) : assA t σ = some (.next, σ₁) := by subst h2; simp only [assA, h]
theorem e_pairK {i j : Nat} {fa : AS → Option (List AV × AS)} {l l₁ l₂ : List (Option AV)} {c : Option AV} {o : List AO} (h : fa σ = some ([a, b], ⟨l, c, o⟩)) (h1 : l.set j (some b) = l₁) (h2 : l₁.set i (some a) = l₂) : pairA (.fast i) (.fast j) fa σ = some (.next, ⟨l₂, c, o⟩) := by
  subst h1 h2; simp only [pairA, h, stV]
theorem e_itL {w : Var} {f : AS → Option (AV × AS)} {j : Nat} {xs : List AV} (h : f σ = some (.ref j, σ₁)) (h2 : getFlat σ₁ j = some xs) : itA w (itListA f) σ = some ((xs.map (stV w), fun σ => decide (getFlat σ j = some xs)), σ₁) := by
  simp only [itA, itListA, h, h2]
theorem pl_iadd {a b : Int} : inpG .Add (.int a) (.int b) σ = some (.int (a + b), σ) := rfl
theorem pl_isub {a b : Int} : inpG .Sub (.int a) (.int b) σ = some (.int (a - b), σ) := rfl
theorem pl_lt {a b : Int} : cmpG .Lt (.int a) (.int b) σ = some (.bool (decide (a < b)), σ) := rfl
theorem pl_gt {a b : Int} : cmpG .Gt (.int a) (.int b) σ = some (.bool (decide (b < a)), σ) := rfl
theorem selB_not {α : Type} {b : Bool} {x y r : α} (h : selB b y x = r) : selB (!b) x y = r := by subst h; cases b <;> rfl
theorem some_rfl {α : Type} {p : α} : some p = some p := rfl
theorem get0 {α : Type} {a : α} {l : List α} : (a :: l)[0]? = some a := rfl
theorem getS {α : Type} {a : α} {l : List α} {n : Nat} {r : Option α} (h : l[n]? = r) : (a :: l)[n + 1]? = r := by rw [List.getElem?_cons_succ]; exact h
end
end Mine
-- part H2
set_option maxRecDepth 100000 in
set_option maxHeartbeats 8000000 in
open_top hf for PySem.Challenge.rw_sc0038_02
-- part G2
namespace Mine
structure Pk where
  w : World
  loose : List Str
  mean : ExcName → Option Value
  mg : Str → Option Value
  mb : Str → Option Value
  olds : List (Addr × Obj)
noncomputable abbrev XX (y : Pk) : Wd := ⟨PySem.Challenge.rw_sc0038_02.row.prog, y.w, hf.heap_39 y.w.params, hf.view_39, y.loose, y.mean, y.mg, y.mb, y.olds⟩

theorem ns__iter_escaped_chars (y : Pk) : nsIn (XX y).K mainGlobals "_iter_escaped_chars" = some (some (.ref 21)) := by kernel_rfl
theorem kp__iter_escaped_chars (y : Pk) : keepIn (XX y).K (.ref 21) = true := by kernel_rfl
theorem ns__strip_quoted_realnames (y : Pk) : nsIn (XX y).K mainGlobals "_strip_quoted_realnames" = some (some (.ref 28)) := by kernel_rfl
theorem kp__strip_quoted_realnames (y : Pk) : keepIn (XX y).K (.ref 28) = true := by kernel_rfl
theorem ns__check_parenthesis (y : Pk) : nsIn (XX y).K mainGlobals "_check_parenthesis" = some (some (.ref 35)) := by kernel_rfl
theorem kp__check_parenthesis (y : Pk) : keepIn (XX y).K (.ref 35) = true := by kernel_rfl
theorem ns_pretty_flags (y : Pk) : nsIn (XX y).K mainGlobals "pretty_flags" = some (some (.ref 43)) := by kernel_rfl
theorem kp_pretty_flags (y : Pk) : keepIn (XX y).K (.ref 43) = true := by kernel_rfl
theorem ns__ellipsis_match (y : Pk) : nsIn (XX y).K mainGlobals "_ellipsis_match" = some (some (.ref 50)) := by kernel_rfl
theorem kp__ellipsis_match (y : Pk) : keepIn (XX y).K (.ref 50) = true := by kernel_rfl
theorem ns__law_numbers (y : Pk) : nsIn (XX y).K mainGlobals "_law_numbers" = some (some (.ref 55)) := by kernel_rfl
theorem kp__law_numbers (y : Pk) : keepIn (XX y).K (.ref 55) = true := by kernel_rfl
theorem ns__law_row (y : Pk) : nsIn (XX y).K mainGlobals "_law_row" = some (some (.ref 62)) := by kernel_rfl
theorem kp__law_row (y : Pk) : keepIn (XX y).K (.ref 62) = true := by kernel_rfl
theorem ns__law_texts (y : Pk) : nsIn (XX y).K mainGlobals "_law_texts" = some (some (.ref 69)) := by kernel_rfl
theorem kp__law_texts (y : Pk) : keepIn (XX y).K (.ref 69) = true := by kernel_rfl
theorem ns__law_outers (y : Pk) : nsIn (XX y).K mainGlobals "_law_outers" = some (some (.ref 76)) := by kernel_rfl
theorem kp__law_outers (y : Pk) : keepIn (XX y).K (.ref 76) = true := by kernel_rfl
theorem ns__law_hung (y : Pk) : nsIn (XX y).K mainGlobals "_law_hung" = some (some (.ref 83)) := by kernel_rfl
theorem kp__law_hung (y : Pk) : keepIn (XX y).K (.ref 83) = true := by kernel_rfl
theorem ns__law_loose (y : Pk) : nsIn (XX y).K mainGlobals "_law_loose" = some (some (.ref 88)) := by kernel_rfl
theorem kp__law_loose (y : Pk) : keepIn (XX y).K (.ref 88) = true := by kernel_rfl
theorem ns__law_holes (y : Pk) : nsIn (XX y).K mainGlobals "_law_holes" = some (some (.ref 95)) := by kernel_rfl
theorem kp__law_holes (y : Pk) : keepIn (XX y).K (.ref 95) = true := by kernel_rfl
theorem ns__law_least (y : Pk) : nsIn (XX y).K mainGlobals "_law_least" = some (some (.ref 100)) := by kernel_rfl
theorem kp__law_least (y : Pk) : keepIn (XX y).K (.ref 100) = true := by kernel_rfl
theorem ns__law_due (y : Pk) : nsIn (XX y).K mainGlobals "_law_due" = some (some (.ref 107)) := by kernel_rfl
theorem kp__law_due (y : Pk) : keepIn (XX y).K (.ref 107) = true := by kernel_rfl
theorem ns_ELLIPSIS_MARKER (y : Pk) : nsIn (XX y).K mainGlobals "ELLIPSIS_MARKER" = some (some (.str "..." 266)) := by kernel_rfl
theorem ns_COMPILER_FLAG_NAMES (y : Pk) : nsIn (XX y).K mainGlobals "COMPILER_FLAG_NAMES" = some (some (.ref 36)) := by kernel_rfl
theorem ns_chr (y : Pk) : nsIn (XX y).K mainGlobals "chr" = some none := by kernel_rfl
theorem ns_enumerate (y : Pk) : nsIn (XX y).K mainGlobals "enumerate" = some none := by kernel_rfl
theorem ns_hex (y : Pk) : nsIn (XX y).K mainGlobals "hex" = some none := by kernel_rfl
theorem ns_len (y : Pk) : nsIn (XX y).K mainGlobals "len" = some none := by kernel_rfl
theorem ns_min (y : Pk) : nsIn (XX y).K mainGlobals "min" = some none := by kernel_rfl
theorem ns_range (y : Pk) : nsIn (XX y).K mainGlobals "range" = some none := by kernel_rfl
theorem ns_sum (y : Pk) : nsIn (XX y).K mainGlobals "sum" = some none := by kernel_rfl
noncomputable def tabL : List (Int × AV) := [(1, .str "OPTIMIZED"), (2, .str "NEWLOCALS"), (4, .str "VARARGS"), (8, .str "VARKEYWORDS"), (16, .str "NESTED"), (32, .str "GENERATOR"), (64, .str "NOFREE"), (128, .str "COROUTINE"), (256, .str "ITERABLE_COROUTINE"), (512, .str "ASYNC_GENERATOR")]
theorem tab_top (y : Pk) : TabTop (XX y) 36 tabL := by
  refine ⟨_, [(1, .str "OPTIMIZED" 224), (2, .str "NEWLOCALS" 226), (4, .str "VARARGS" 228), (8, .str "VARKEYWORDS" 230), (16, .str "NESTED" 232), (32, .str "GENERATOR" 234), (64, .str "NOFREE" 236), (128, .str "COROUTINE" 238), (256, .str "ITERABLE_COROUTINE" 240), (512, .str "ASYNC_GENERATOR" 242)], rfl, ⟨_, _, ⟨rfl, rfl, rfl⟩, rfl, ?_, .cons (intKind_is _ _ _ _) rfl (.cons (intKind_is _ _ _ _) rfl (.cons (intKind_is _ _ _ _) rfl (.cons (intKind_is _ _ _ _) rfl (.cons (intKind_is _ _ _ _) rfl (.cons (intKind_is _ _ _ _) rfl (.cons (intKind_is _ _ _ _) rfl (.cons (intKind_is _ _ _ _) rfl (.cons (intKind_is _ _ _ _) rfl (.cons (intKind_is _ _ _ _) rfl (.nil)))))))))), by decide⟩, ⟨⟨rfl, _, rfl⟩, ⟨⟨rfl, _, rfl⟩, ⟨⟨rfl, _, rfl⟩, ⟨⟨rfl, _, rfl⟩, ⟨⟨rfl, _, rfl⟩, ⟨⟨rfl, _, rfl⟩, ⟨⟨rfl, _, rfl⟩, ⟨⟨rfl, _, rfl⟩, ⟨⟨rfl, _, rfl⟩, ⟨⟨rfl, _, rfl⟩, trivial⟩⟩⟩⟩⟩⟩⟩⟩⟩⟩, by decide⟩
  intro e he
  simp only [List.mem_toArray, List.mem_cons, List.not_mem_nil, or_false] at he
  rcases he with rfl | rfl | rfl | rfl | rfl | rfl | rfl | rfl | rfl | rfl
  all_goals exact ⟨_, intKind_is _ _ _ _, rfl⟩
noncomputable def match_b1 : AS → Option (AF × AS) :=
  (seqA (asgA (.fast 3) (methA (ldA (.fast 1)) isStrV (argC (ldA (.fast 5)) (argC (ldA (.fast 3)) (argC (ldA (.fast 4)) argN))) findG))
  (seqA (iteA (truA (b2A (ldA (.fast 3)) (cstA (.int 0)) (cmpG .Lt)))
  (seqA (retA (cstA (.bool false)))
  skA)
  skA)
  (seqA (augA (.fast 3) (callA (argC (ldA (.fast 5)) argN) lenG) (inpG .Add))
  skA)))
noncomputable def match_f : AS → Option (AF × AS) :=
  (seqA (iteA (truA (b2A (cstA (.str "...")) (ldA (.fast 0)) (cmpG .NotIn)))
  (seqA (retA (b2A (ldA (.fast 0)) (ldA (.fast 1)) (cmpG .Eq)))
  skA)
  skA)
  (seqA (asgA (.fast 2) (methA (ldA (.fast 0)) isStrV (argC (cstA (.str "...")) argN) splitG))
  (seqA (assA (truA (b2A (callA (argC (ldA (.fast 2)) argN) lenG) (cstA (.int 2)) (cmpG .GtE))))
  (seqA (pairA (.fast 3) (.fast 4) (argC (cstA (.int 0)) (argC (callA (argC (ldA (.fast 1)) argN) lenG) argN)))
  (seqA (asgA (.fast 5) (b2A (ldA (.fast 2)) (cstA (.int 0)) subG))
  (seqA (iteA (truA (ldA (.fast 5))) noA skA)
  (seqA (asgA (.fast 5) (b2A (ldA (.fast 2)) (negA (cstA (.int 1))) subG))
  (seqA (iteA (truA (ldA (.fast 5))) noA skA)
  (seqA (iteA (truA (b2A (ldA (.fast 3)) (ldA (.fast 4)) (cmpG .Gt)))
  (seqA (retA (cstA (.bool false)))
  skA)
  skA)
  (seqA (forA (itA (.fast 5) (itListA (ldA (.fast 2))))
  match_b1
  skA)
  (seqA (retA (cstA (.bool true)))
  skA)))))))))))
noncomputable def match_g : List AV → AS → Option (AV × AS) := defG 2 0 [some 0, some 1, none, none, none, none] [] (match_f )
noncomputable def pretty_b1 : AS → Option (AF × AS) :=
  (seqA (asgA (.fast 3) (b2A (cstA (.int 1)) (ldA (.fast 2)) (abin .LShift)))
  (seqA (iteA (truA (b2A (ldA (.fast 0)) (ldA (.fast 3)) (abin .BitAnd)))
  (seqA (dropA (methA (ldA (.fast 1)) isListV (argC (methA (cstA (.adr 36)) (isAdrV 36) (argC (ldA (.fast 3)) (argC (callA (argC (ldA (.fast 3)) argN) hexG) argN)) (tabG 36 tabL)) argN) appendG))
  (seqA (augA (.fast 0) (ldA (.fast 3)) (inpG .BitXor))
  (seqA (iteA (notT (truA (ldA (.fast 0))))
  (seqA brkA
  skA)
  skA)
  skA)))
  skA)
  skA))
noncomputable def pretty_f : AS → Option (AF × AS) :=
  (seqA (asgA (.fast 1) (listA argN))
  (seqA (forA (itA (.fast 2) (itRangeA (argC (cstA (.int 32)) argN)))
  pretty_b1
  (seqA (dropA (methA (ldA (.fast 1)) isListV (argC (callA (argC (ldA (.fast 0)) argN) hexG) argN) appendG))
  skA))
  (seqA (retA (methA (cstA (.str ", ")) isStrV (argC (ldA (.fast 1)) argN) joinG))
  skA)))
noncomputable def pretty_g : List AV → AS → Option (AV × AS) := defG 1 0 [some 0, none, none, none] [] (pretty_f )
noncomputable def strip_b1 : AS → Option (AF × AS) :=
  (seqA (iteA (truA (b2A (ldA (.fast 5)) (cstA (.str "\"")) (cmpG .Eq)))
  (seqA (iteA (truA (b2A (ldA (.fast 2)) (cstA .none) (cmpG .Is)))
  (seqA (asgA (.fast 2) (ldA (.fast 4)))
  skA)
  (seqA (iteA (truA (b2A (ldA (.fast 1)) (ldA (.fast 2)) (cmpG .NotEq)))
  (seqA (dropA (methA (ldA (.fast 3)) isListV (argC (cutA none (ldA (.fast 0)) (ptS (ldA (.fast 1))) (ptS (ldA (.fast 2)))) argN) appendG))
  skA)
  skA)
  (seqA (asgA (.fast 1) (b2A (ldA (.fast 4)) (cstA (.int 1)) (abin .Add)))
  (seqA (asgA (.fast 2) (cstA .none))
  skA))))
  skA)
  skA)
  skA)
noncomputable def strip_f : AS → Option (AF × AS) :=
  (seqA (iteA (truA (b2A (cstA (.str "\"")) (ldA (.fast 0)) (cmpG .NotIn)))
  (seqA (retA (ldA (.fast 0)))
  skA)
  skA)
  (seqA (asgA (.fast 1) (cstA (.int 0)))
  (seqA (asgA (.fast 2) (cstA .none))
  (seqA (asgA (.fast 3) (listA argN))
  (seqA (forA (itEscA (.fast 4) (.fast 5) (argC (ldA (.fast 0)) argN))
  strip_b1
  skA)
  (seqA (iteA (truA (b2A (ldA (.fast 1)) (callA (argC (ldA (.fast 0)) argN) lenG) (cmpG .Lt)))
  (seqA (dropA (methA (ldA (.fast 3)) isListV (argC (cutA none (ldA (.fast 0)) (ptS (ldA (.fast 1))) ptN) argN) appendG))
  skA)
  skA)
  (seqA (retA (methA (cstA (.str "")) isStrV (argC (ldA (.fast 3)) argN) joinG))
  skA)))))))
noncomputable def strip_g : List AV → AS → Option (AV × AS) := defG 1 0 [some 0, none, none, none, none, none] [] (strip_f )
noncomputable def check_b1 : AS → Option (AF × AS) :=
  (seqA (iteA (truA (b2A (ldA (.fast 3)) (cstA (.str "(")) (cmpG .Eq)))
  (seqA (augA (.fast 1) (cstA (.int 1)) (inpG .Add))
  skA)
  (seqA (iteA (truA (b2A (ldA (.fast 3)) (cstA (.str ")")) (cmpG .Eq)))
  (seqA (augA (.fast 1) (cstA (.int 1)) (inpG .Sub))
  (seqA (iteA (truA (b2A (ldA (.fast 1)) (cstA (.int 0)) (cmpG .Lt)))
  (seqA (retA (cstA (.bool false)))
  skA)
  skA)
  skA))
  skA)
  skA))
  skA)
noncomputable def check_f : AS → Option (AF × AS) :=
  (seqA (asgA (.fast 0) (callA (argC (ldA (.fast 0)) argN) strip_g))
  (seqA (asgA (.fast 1) (cstA (.int 0)))
  (seqA (forA (itEscA (.fast 2) (.fast 3) (argC (ldA (.fast 0)) argN))
  check_b1
  skA)
  (seqA (retA (b2A (ldA (.fast 1)) (cstA (.int 0)) (cmpG .Eq)))
  skA))))
noncomputable def check_g : List AV → AS → Option (AV × AS) := defG 1 0 [some 0, none, none, none] [] (check_f )
noncomputable def numbers_f (old : Option (Addr × List Int)) : AS → Option (AF × AS) :=
  (seqA (asgA (.fast 1) (compA (itListA (cutA old (ldA (.fast 0)) ptN (ptS (cstA (.int 5))))) ttT (b2A (ldA .cv) (b2A (cstA (.int 10)) (cstA (.int 6)) (abin .Pow)) (abin .Mod))))
  (seqA (retA (b2A (ldA (.fast 1)) (cutA none (listA (argC (cstA (.int 11)) (argC (cstA (.int 1)) (argC (cstA (.int 4)) (argC (cstA (.int 5)) (argC (cstA (.int 2)) argN)))))) (ptS (callA (argC (ldA (.fast 1)) argN) lenG)) ptN) (abin .Add)))
  skA))
noncomputable def numbers_g (old : Option (Addr × List Int)) : List AV → AS → Option (AV × AS) := defG 1 0 [some 0, none] [] (numbers_f old)
noncomputable def row_b1 : AS → Option (AF × AS) :=
  (seqA (asgA (.fast 3) (b2A (b2A (ldA (.fast 0)) (ldA (.fast 2)) subG) (b2A (b2A (cstA (.int 2)) (ldA (.fast 2)) (abin .Mult)) (cstA (.int 1)) (abin .Add)) (abin .Mod)))
  (seqA (asgA (.fast 1) (b2A (b2A (cutA none (ldA (.fast 1)) ptN (ptS (ldA (.fast 3)))) (listA (argC (ldA (.fast 2)) (argC (negA (cstA (.int 1))) argN))) (abin .Add)) (cutA none (ldA (.fast 1)) (ptS (ldA (.fast 3))) ptN) (abin .Add)))
  skA))
noncomputable def row_f : AS → Option (AF × AS) :=
  (seqA (asgA (.fast 1) (listA argN))
  (seqA (forA (itA (.fast 2) (itRangeA (argC (cstA (.int 5)) argN)))
  row_b1
  skA)
  (seqA (retA (ldA (.fast 1)))
  skA)))
noncomputable def row_g : List AV → AS → Option (AV × AS) := defG 1 1 [some 0, none, none, none] [] (row_f )
noncomputable def texts_b1 : AS → Option (AF × AS) :=
  (seqA (asgA (.fast 5) (cstA (.str ")")))
  (seqA (iteA (truA (b2A (ldA (.fast 4)) (cstA (.int 0)) (cmpG .GtE)))
  (seqA (asgA (.fast 5) (b2A (callA (argC (b2A (cstA (.int 65)) (ldA (.fast 4)) (abin .Add)) argN) chrG) (cstA (.str "(")) (abin .Add)))
  (seqA (iteA (truA (b2A (ldA (.fast 4)) (b2A (ldA (.fast 1)) (cstA (.int 5)) (abin .Mod)) (cmpG .Eq)))
  (seqA (asgA (.fast 5) (b2A (ldA (.fast 2)) (ldA (.fast 5)) (abin .Add)))
  skA)
  skA)
  skA))
  skA)
  (seqA (dropA (methA (ldA (.fast 3)) isListV (argC (ldA (.fast 5)) argN) appendG))
  skA)))
noncomputable def texts_f : AS → Option (AF × AS) :=
  (seqA (asgA (.fast 2) (b2A (listA (argC (cstA (.str "")) (argC (cstA (.str "\"(\"")) (argC (cstA (.str "\")\"")) (argC (cstA (.str "\"\\\")\"")) argN))))) (b2A (b2A (ldA (.fast 1)) (cstA (.int 5)) (abin .FloorDiv)) (cstA (.int 4)) (abin .Mod)) subG))
  (seqA (asgA (.fast 3) (listA argN))
  (seqA (forA (itA (.fast 4) (itListA (ldA (.fast 0))))
  texts_b1
  skA)
  (seqA (retA (ldA (.fast 3)))
  skA))))
noncomputable def texts_g : List AV → AS → Option (AV × AS) := defG 2 1 [some 0, some 1, none, none, none, none] [] (texts_f )
noncomputable def outers_b1 : AS → Option (AF × AS) :=
  (seqA (asgA (.fast 6) (b2A (ldA (.fast 3)) (ldA (.fast 6)) subG))
  skA)
noncomputable def outers_b2 : AS → Option (AF × AS) :=
  (seqA (iteA (truA (b2A (ldA (.fast 5)) (cstA (.str ")")) (cmpG .NotEq)))
  (seqA (asgA (.fast 6) (b2A (callA (argC (ldA (.fast 2)) argN) lenG) (cstA (.int 1)) (abin .Sub)))
  (seqA (whlA (andT (truA (b2A (ldA (.fast 6)) (cstA (.int 0)) (cmpG .GtE))) (andT (notT (truA (callA (argC (b2A (cutA none (ldA (.fast 1)) (ptS (b2A (ldA (.fast 2)) (ldA (.fast 6)) subG)) (ptS (ldA (.fast 4)))) (cstA (.str ")")) (abin .Add)) argN) check_g))) ttT)) outers_b1 12)
  (seqA (dropA (methA (ldA (.fast 2)) isListV (argC (ldA (.fast 4)) argN) appendG))
  (seqA (dropA (methA (ldA (.fast 3)) isListV (argC (ldA (.fast 6)) argN) appendG))
  skA))))
  skA)
  (seqA (augA (.fast 4) (callA (argC (ldA (.fast 5)) argN) lenG) (inpG .Add))
  skA))
noncomputable def outers_f : AS → Option (AF × AS) :=
  (seqA (asgA (.fast 1) (methA (cstA (.str "")) isStrV (argC (ldA (.fast 0)) argN) joinG))
  (seqA (asgA (.fast 2) (listA argN))
  (seqA (asgA (.fast 3) (listA argN))
  (seqA (asgA (.fast 4) (cstA (.int 0)))
  (seqA (forA (itA (.fast 5) (itListA (ldA (.fast 0))))
  outers_b2
  skA)
  (seqA (retA (ldA (.fast 3)))
  skA))))))
noncomputable def outers_g : List AV → AS → Option (AV × AS) := defG 1 1 [some 0, none, none, none, none, none, none] [] (outers_f )
noncomputable def hung_b1 : AS → Option (AF × AS) :=
  (seqA (iteA (truA (b2A (ldA (.fast 3)) (cstA (.int 0)) (cmpG .Lt)))
  (seqA (dropA (methA (ldA (.fast 2)) isListV argN popG))
  skA)
  (seqA (dropA (methA (ldA (.fast 1)) isListV (argC (iteA (truA (b2A (ldA (.fast 2)) (listA argN) (cmpG .NotEq))) (b2A (ldA (.fast 2)) (negA (cstA (.int 1))) subG) (negA (cstA (.int 1)))) argN) appendG))
  (seqA (dropA (methA (ldA (.fast 2)) isListV (argC (b2A (callA (argC (ldA (.fast 1)) argN) lenG) (cstA (.int 1)) (abin .Sub)) argN) appendG))
  skA)))
  skA)
noncomputable def hung_f : AS → Option (AF × AS) :=
  (seqA (asgA (.fast 1) (listA argN))
  (seqA (asgA (.fast 2) (listA argN))
  (seqA (forA (itA (.fast 3) (itListA (ldA (.fast 0))))
  hung_b1
  skA)
  (seqA (retA (ldA (.fast 1)))
  skA))))
noncomputable def hung_g : List AV → AS → Option (AV × AS) := defG 1 1 [some 0, none, none, none] [] (hung_f )
noncomputable def loose_b1 : AS → Option (AF × AS) :=
  (seqA (asgA (.cell 3) (compA (itListA (ldA (.fast 1))) ttT (b2A (ldA .cv) (b2A (cstA (.int 2)) (ldA (.cell 4)) (abin .Pow)) (abin .Add))))
  (seqA (iteA (truA (b2A (b2A (ldA (.fast 0)) (ldA (.cell 4)) subG) (cstA (.int 0)) (cmpG .GtE)))
  (seqA (asgA (.fast 2) (b2A (b2A (cstA (.str " ")) (callA (argC (b2A (b2A (b2A (cstA (.int 2)) (b2A (ldA (.fast 0)) (ldA (.cell 4)) subG) (abin .Pow)) (b2A (cstA (.int 2)) (ldA (.cell 4)) (abin .Pow)) (abin .Add)) (b2A (cstA (.int 2)) (ldA (.cell 5)) (abin .Pow)) (abin .Mult)) argN) pretty_g) (abin .Add)) (cstA (.str ",")) (abin .Add)))
  (seqA (asgA (.cell 2) (b2A (repA "..." (.fast 2) ", " ",... ") (cstA (.str "...")) (abin .Add)))
  (seqA (asgA (.cell 1) (compA (itListA (ldA (.cell 3))) ttT (b2A (b2A (cstA (.str " ")) (callA (argC (b2A (ldA .cv) (b2A (cstA (.int 2)) (ldA (.cell 5)) (abin .Pow)) (abin .Mult)) argN) pretty_g) (abin .Add)) (cstA (.str ",")) (abin .Add))))
  (seqA (asgA (.cell 3) (compA (itRangeA (argC (callA (argC (ldA (.cell 3)) argN) lenG) argN)) (notT (truA (callA (argC (ldA (.cell 2)) (argC (b2A (ldA (.cell 1)) (ldA .cv) subG) argN)) match_g))) (b2A (ldA (.cell 3)) (ldA .cv) subG)))
  skA))))
  skA)
  (seqA (asgA (.fast 1) (b2A (ldA (.fast 1)) (ldA (.cell 3)) (abin .Add)))
  skA)))
noncomputable def loose_f : AS → Option (AF × AS) :=
  (seqA (asgA (.fast 1) (listA (argC (cstA (.int 0)) argN)))
  (seqA (forA (itA (.cell 4) (itRangeA (argC (cstA (.int 5)) argN)))
  loose_b1
  skA)
  (seqA (retA (ldA (.fast 1)))
  skA)))
noncomputable def loose_g : List AV → AS → Option (AV × AS) := defG 2 1 [some 0, none, none] [none, none, none, none, some 1] (loose_f )
noncomputable def holes_b1 : AS → Option (AF × AS) :=
  (seqA (iteA (truA (b2A (b2A (b2A (ldA (.fast 3)) (ldA (.fast 6)) (abin .FloorDiv)) (cstA (.int 2)) (abin .Mod)) (cstA (.int 1)) (cmpG .Eq)))
  (seqA (augA (.fast 4) (b2A (cstA (.int 2)) (b2A (ldA (.fast 3)) (ldA (.fast 6)) (abin .Sub)) (abin .Pow)) (inpG .Add))
  (seqA (augA (.fast 5) (cstA (.int 1)) (inpG .Add))
  skA))
  skA)
  skA)
noncomputable def holes_b2 : AS → Option (AF × AS) :=
  (seqA (asgA (.fast 4) (callA (argC (ldA (.fast 4)) (argC (b2A (ldA (.fast 4)) (ldA (.fast 7)) (abin .BitXor)) argN)) min2G))
  skA)
noncomputable def holes_b3 : AS → Option (AF × AS) :=
  (seqA (asgA (.fast 4) (cstA (.int 0)))
  (seqA (asgA (.fast 5) (cstA (.int 0)))
  (seqA (forA (itA (.fast 6) (itTupA (argC (cstA (.int 1)) (argC (cstA (.int 2)) (argC (cstA (.int 4)) (argC (cstA (.int 8)) (argC (cstA (.int 16)) argN)))))))
  holes_b1
  skA)
  (seqA (forA (itA (.fast 7) (itListA (b2A (ldA (.fast 2)) (ldA (.fast 5)) subG)))
  holes_b2
  skA)
  (seqA (iteA (truA (b2A (ldA (.fast 4)) (cstA (.int 0)) (cmpG .Eq)))
  (seqA (augSA (ldA (.fast 1)) (ldA (.fast 5)) (cstA (.int 1)) (inpG .Add))
  skA)
  (seqA (augSA (ldA (.fast 1)) (b2A (ldA (.fast 5)) (cstA (.int 1)) (abin .Sub)) (cstA (.int 1)) (inpG .Sub))
  (seqA (dropA (methA (b2A (ldA (.fast 2)) (ldA (.fast 5)) subG) isListV (argC (ldA (.fast 4)) argN) appendG))
  skA)))
  skA)))))
noncomputable def holes_f : AS → Option (AF × AS) :=
  (seqA (asgA (.fast 1) (listA (argC (cstA (.int 0)) (argC (cstA (.int 0)) (argC (cstA (.int 0)) (argC (cstA (.int 0)) (argC (cstA (.int 0)) (argC (cstA (.int 0)) argN))))))))
  (seqA (asgA (.fast 2) (listA (argC (listA argN) (argC (listA argN) (argC (listA argN) (argC (listA argN) (argC (listA argN) (argC (listA argN) argN))))))))
  (seqA (forA (itA (.fast 3) (itListA (ldA (.fast 0))))
  holes_b3
  skA)
  (seqA (retA (ldA (.fast 1)))
  skA))))
noncomputable def holes_g : List AV → AS → Option (AV × AS) := defG 1 1 [some 0, none, none, none, none, none, none, none] [] (holes_f )
noncomputable def least_b1 : AS → Option (AF × AS) :=
  (seqA (asgA (.cell 1) (callA (argC (compA (itRangeA (argC (cstA (.int 5)) argN)) (orT (truA (b2A (ldA .cv) (ldA (.cell 2)) (cmpG .Eq))) (orT (truA (b2A (b2A (ldA (.cell 5)) (ldA .cv) subG) (ldA (.cell 2)) (cmpG .Eq))) (orT (truA (b2A (b2A (ldA (.cell 5)) (ldA (.cell 2)) subG) (ldA .cv) (cmpG .Eq))) ffT))) (b2A (cstA (.int 2)) (ldA .cv) (abin .Pow))) argN) sumG))
  (seqA (asgA (.cell 4) (b2A (ldA (.cell 4)) (compA (itListA (ldA (.cell 4))) ttT (b2A (ldA .cv) (ldA (.cell 1)) (abin .BitOr))) (abin .Add)))
  (seqA (asgA (.cell 3) (b2A (ldA (.cell 3)) (compA (itListA (ldA (.cell 3))) ttT (b2A (ldA .cv) (cstA (.int 1)) (abin .Add))) (abin .Add)))
  skA)))
noncomputable def least_f : AS → Option (AF × AS) :=
  (seqA (asgA (.cell 4) (listA (argC (cstA (.int 0)) argN)))
  (seqA (asgA (.cell 3) (listA (argC (cstA (.int 0)) argN)))
  (seqA (forA (itA (.cell 2) (itRangeA (argC (cstA (.int 5)) argN)))
  least_b1
  skA)
  (seqA (retA (callA (argC (compA (itRangeA (argC (cstA (.int 32)) argN)) (truA (b2A (b2A (ldA (.cell 4)) (ldA .cv) subG) (cstA (.int 31)) (cmpG .Eq))) (b2A (ldA (.cell 3)) (ldA .cv) subG)) argN) minG))
  skA))))
noncomputable def least_g : List AV → AS → Option (AV × AS) := defG 1 1 [] [none, none, none, none, some 0] (least_f )
noncomputable def due_b1 : AS → Option (AF × AS) :=
  (seqA (iteA (orT (truA (b2A (ldA (.fast 5)) (ldA (.fast 4)) (cmpG .Eq))) (orT (truA (b2A (b2A (ldA (.fast 0)) (ldA (.fast 5)) subG) (ldA (.fast 4)) (cmpG .Eq))) (orT (truA (b2A (b2A (ldA (.fast 0)) (ldA (.fast 4)) subG) (ldA (.fast 5)) (cmpG .Eq))) ffT)))
  (seqA (setA (cstA (.bool false)) (ldA (.fast 2)) (ldA (.fast 5)))
  skA)
  skA)
  skA)
noncomputable def due_b2 : AS → Option (AF × AS) :=
  (seqA (iteA (truA (b2A (ldA (.fast 2)) (ldA (.fast 3)) subG))
  (seqA (asgA (.fast 4) (b2A (ldA (.fast 0)) (ldA (.fast 3)) subG))
  (seqA (iteA (orT (truA (b2A (ldA (.fast 4)) (cstA (.int 0)) (cmpG .Lt))) (orT (notT (truA (b2A (ldA (.fast 2)) (ldA (.fast 4)) subG))) ffT))
  (seqA (retA (ldA (.fast 1)))
  skA)
  skA)
  (seqA (forA (itA (.fast 5) (itRangeA (argC (cstA (.int 5)) argN)))
  due_b1
  skA)
  skA)))
  skA)
  skA)
noncomputable def due_f : AS → Option (AF × AS) :=
  (seqA (asgA (.fast 1) (listA (argC (cstA (.int 0)) (argC (cstA (.int 0)) (argC (cstA (.int 0)) (argC (cstA (.int 0)) (argC (cstA (.int 0)) (argC (cstA (.int 0)) argN))))))))
  (seqA (asgA (.fast 2) (b2A (listA (argC (cstA (.bool true)) argN)) (cstA (.int 5)) (abin .Mult)))
  (seqA (forA (itA (.fast 3) (itRangeA (argC (cstA (.int 4)) (argC (negA (cstA (.int 1))) (argC (negA (cstA (.int 1))) argN)))))
  due_b2
  skA)
  (seqA (setA (cstA (.int 1)) (ldA (.fast 1)) (callA (argC (ldA (.fast 0)) argN) least_g))
  (seqA (retA (ldA (.fast 1)))
  skA)))))
noncomputable def due_g : List AV → AS → Option (AV × AS) := defG 1 1 [some 0, none, none, none, none, none] [] (due_f )
noncomputable def law_f (old : Option (Addr × List Int)) : AS → Option (AF × AS) :=
  (seqA (asgA (.fast 1) (callA (argC (ldA (.fast 0)) argN) (numbers_g old)))
  (seqA (asgA (.fast 2) (callA (argC (ldA (.fast 1)) argN) row_g))
  (seqA (asgA (.fast 3) (callA (argC (callA (argC (ldA (.fast 2)) (argC (b2A (ldA (.fast 1)) (cstA (.int 0)) subG) argN)) texts_g) argN) outers_g))
  (seqA (iteA (truA (b2A (ldA (.fast 3)) (callA (argC (ldA (.fast 2)) argN) hung_g) (cmpG .NotEq)))
  (seqA (retA (cstA (.bool false)))
  skA)
  skA)
  (seqA (retA (b2A (callA (argC (callA (argC (ldA (.fast 3)) (argC (b2A (b2A (b2A (ldA (.fast 1)) (cstA (.int 0)) subG) (cstA (.int 20)) (abin .FloorDiv)) (cstA (.int 7)) (abin .Mod)) argN)) loose_g) argN) holes_g) (callA (argC (callA (argC (ldA (.fast 2)) argN) hung_g) argN) due_g) (cmpG .Eq)))
  skA)))))
set_option maxHeartbeats 4000000 in
theorem c_match (y : Pk) {D : FD} : Hid (CallJ (XX y) (1) D (.ref 50) (match_g )) := by
  refine hcall_def (X := XX y) (m₀ := 0) ["want", "got"] ["want", "got", "ws", "startpos", "endpos", "w"] (ho := rfl) (by kernel_rfl) (fun s vs h => by obtain ⟨_, _, rfl⟩ := len2 h; exact BindsTo.of_eq rfl) (by decide) (by kernel_rfl) (by decide +kernel) (by kernel_rfl) (by kernel_rfl) rfl rfl rfl rfl (by kernel_rfl) (by kernel_rfl) ?_
  exact (hexs_cons (hex_if (htj_compare (hev_const (hnm_global (ns_ELLIPSIS_MARKER y) rfl) ⟨_, rfl⟩) (hev_name (.fast 0) (by decide +kernel) (by decide +kernel)) (hacmp_ok _) rfl)
    (hexs_cons (hex_return (hev_compare (hev_name (.fast 0) (by decide +kernel) (by decide +kernel)) (hev_name (.fast 1) (by decide +kernel) (by decide +kernel)) (hacmp_ok _) rfl))
    hexs_nil)
    hexs_nil)
    (hexs_cons (hex_assign (.fast 2) (hev_meth (pl := fun _ => _) (hev_name (.fast 0) (by decide +kernel) (by decide +kernel)) (hgetj_str F.slot_str_split F.type_str_split) (har_cons (hev_const (hnm_global (ns_ELLIPSIS_MARKER y) rfl) ⟨_, rfl⟩) har_nil (fun _ => se_Name)) hcall_split (pl_of (st_cons (fun _ => se_Name) st_nil)) (fun _ => rfl)) (by decide +kernel) (by decide +kernel) (fun _ _ => sw_Call))
    (hexs_cons (hex_assert (htj_compare (hev_callN (hnm_builtin (ns_len y) (by kernel_rfl) rfl) (.inl ⟨_, rfl⟩) (har_cons (hev_name (.fast 2) (by decide +kernel) (by decide +kernel)) har_nil (fun _ => se_Name)) hcall_len (st_cons (fun _ => se_Name) st_nil)) hev_int (hacmp_ok _) rfl))
    (hexs_cons (hex_pair (.fast 3) (.fast 4) (har_cons hev_int (har_cons (hev_callN (hnm_builtin (ns_len y) (by kernel_rfl) rfl) (.inl ⟨_, rfl⟩) (har_cons (hev_name (.fast 1) (by decide +kernel) (by decide +kernel)) har_nil (fun _ => se_Name)) hcall_len (st_cons (fun _ => se_Name) st_nil)) har_nil (fun _ => se_Call)) (fun _ => se_Constant)) (by decide +kernel) (by decide +kernel) (by decide +kernel) (fun _ => rfl) (fun env he => by cases env; dsimp only at he; subst he; first | rfl | kernel_rfl))
    (hexs_cons (hex_assign (.fast 5) (hev_sub (hev_name (.fast 2) (by decide +kernel) (by decide +kernel)) hev_int (fun _ _ => sb_Constant)) (by decide +kernel) (by decide +kernel) (fun _ _ => sw_Sub))
    (hexs_cons (hex_if (htj_plain (hev_name (.fast 5) (by decide +kernel) (by decide +kernel)) (fun _ _ => it_Name)) hexs_no hexs_nil)
    (hexs_cons (hex_assign (.fast 5) (hev_sub (hev_name (.fast 2) (by decide +kernel) (by decide +kernel)) (hev_neg hev_int) (fun _ _ => sb_UnaryOp)) (by decide +kernel) (by decide +kernel) (fun _ _ => sw_Sub))
    (hexs_cons (hex_if (htj_plain (hev_name (.fast 5) (by decide +kernel) (by decide +kernel)) (fun _ _ => it_Name)) hexs_no hexs_nil)
    (hexs_cons (hex_if (htj_compare (hev_name (.fast 3) (by decide +kernel) (by decide +kernel)) (hev_name (.fast 4) (by decide +kernel) (by decide +kernel)) (hacmp_ok _) rfl)
    (hexs_cons (hex_return hev_bool)
    hexs_nil)
    hexs_nil)
    (hexs_cons (hex_for (hit_name (.fast 5) (hit_list (hev_name (.fast 2) (by decide +kernel) (by decide +kernel))) (by decide +kernel) (by decide +kernel))
    (hexs_cons (hex_assign (.fast 3) (hev_meth (pl := fun _ => _) (hev_name (.fast 1) (by decide +kernel) (by decide +kernel)) (hgetj_str F.slot_str_find F.type_str_find) (har_cons (hev_name (.fast 5) (by decide +kernel) (by decide +kernel)) (har_cons (hev_name (.fast 3) (by decide +kernel) (by decide +kernel)) (har_cons (hev_name (.fast 4) (by decide +kernel) (by decide +kernel)) har_nil (fun _ => se_Name)) (fun _ => se_Name)) (fun _ => se_Name)) hcall_find (pl_of (st_cons (fun _ => se_Name) (st_cons (fun _ => se_Name) (st_cons (fun _ => se_Name) st_nil)))) (fun _ => rfl)) (by decide +kernel) (by decide +kernel) (fun _ _ => sw_Call))
    (hexs_cons (hex_if (htj_compare (hev_name (.fast 3) (by decide +kernel) (by decide +kernel)) hev_int (hacmp_ok _) rfl)
    (hexs_cons (hex_return hev_bool)
    hexs_nil)
    hexs_nil)
    (hexs_cons (hex_aug (.fast 3) (hev_callN (hnm_builtin (ns_len y) (by kernel_rfl) rfl) (.inl ⟨_, rfl⟩) (har_cons (hev_name (.fast 5) (by decide +kernel) (by decide +kernel)) har_nil (fun _ => se_Name)) hcall_len (st_cons (fun _ => se_Name) st_nil)) (hpinp_ok _) (by decide +kernel) (by decide +kernel))
    hexs_nil)))
    hexs_nil (fun _ _ => fs_Name))
    (hexs_cons (hex_return hev_bool)
    hexs_nil)))))))))))
set_option maxHeartbeats 4000000 in
theorem c_pretty (y : Pk) {D : FD} : Hid (CallJ (XX y) (1) D (.ref 43) (pretty_g )) := by
  refine hcall_def (X := XX y) (m₀ := 0) ["flags"] ["flags", "names", "i", "flag"] (ho := rfl) (by kernel_rfl) (fun s vs h => by obtain ⟨_, rfl⟩ := len1 h; exact BindsTo.of_eq rfl) (by decide) (by kernel_rfl) (by decide +kernel) (by kernel_rfl) (by kernel_rfl) rfl rfl rfl rfl (by kernel_rfl) (by kernel_rfl) ?_
  exact (hexs_cons (hex_assign (.fast 1) (hev_list har_nil) (by decide +kernel) (by decide +kernel) (fun _ _ => sw_List))
    (hexs_cons (hex_for (hit_name (.fast 2) (hit_rangeN (hnm_builtin (ns_range y) (by kernel_rfl) rfl) (har_cons hev_int har_nil (fun _ => se_Constant)) (st_cons (fun _ => se_Constant) st_nil)) (by decide +kernel) (by decide +kernel))
    (hexs_cons (hex_assign (.fast 3) (hev_binop hev_int (hev_name (.fast 2) (by decide +kernel) (by decide +kernel)) (habin_ok _)) (by decide +kernel) (by decide +kernel) (fun _ _ => sw_BinOp))
    (hexs_cons (hex_if (htj_plain (hev_binop (hev_name (.fast 0) (by decide +kernel) (by decide +kernel)) (hev_name (.fast 3) (by decide +kernel) (by decide +kernel)) (habin_ok _)) (fun _ _ => it_BinOp))
    (hexs_cons (hex_expr (hev_meth (pl := fun _ => _) (hev_name (.fast 1) (by decide +kernel) (by decide +kernel)) (hgetj_list F.slot_list_append F.type_list_append F.plainAttrs_list) (har_cons (hev_meth (pl := fun _ => _) (hev_const (hnm_global (ns_COMPILER_FLAG_NAMES y) rfl) rfl) (hgetj_tab (tab_top y)) (har_cons (hev_name (.fast 3) (by decide +kernel) (by decide +kernel)) (har_cons (hev_callN (hnm_builtin (ns_hex y) (by kernel_rfl) rfl) (.inl ⟨_, rfl⟩) (har_cons (hev_name (.fast 3) (by decide +kernel) (by decide +kernel)) har_nil (fun _ => se_Name)) hcall_hex (st_cons (fun _ => se_Name) st_nil)) har_nil (fun _ => se_Call)) (fun _ => se_Name)) (hcall_tab (tab_top y)) (pl_of (st_cons (fun _ => se_Name) (st_cons (fun _ => se_Call) st_nil))) (fun _ => rfl)) har_nil (fun _ => se_Call)) hcall_append (pl_of (st_cons (fun _ => se_Call) st_nil)) (fun _ => rfl)) (fun _ => sw_Call))
    (hexs_cons (hex_aug (.fast 0) (hev_name (.fast 3) (by decide +kernel) (by decide +kernel)) (hpinp_ok _) (by decide +kernel) (by decide +kernel))
    (hexs_cons (hex_if (htj_not (htj_plain (hev_name (.fast 0) (by decide +kernel) (by decide +kernel)) (fun _ _ => it_Name)))
    (hexs_cons hex_break
    hexs_nil)
    hexs_nil)
    hexs_nil)))
    hexs_nil)
    hexs_nil))
    (hexs_cons (hex_expr (hev_meth (pl := fun _ => _) (hev_name (.fast 1) (by decide +kernel) (by decide +kernel)) (hgetj_list F.slot_list_append F.type_list_append F.plainAttrs_list) (har_cons (hev_callN (hnm_builtin (ns_hex y) (by kernel_rfl) rfl) (.inl ⟨_, rfl⟩) (har_cons (hev_name (.fast 0) (by decide +kernel) (by decide +kernel)) har_nil (fun _ => se_Name)) hcall_hex (st_cons (fun _ => se_Name) st_nil)) har_nil (fun _ => se_Call)) hcall_append (pl_of (st_cons (fun _ => se_Call) st_nil)) (fun _ => rfl)) (fun _ => sw_Call))
    hexs_nil) (fun _ _ => fs_Call))
    (hexs_cons (hex_return (hev_meth (pl := fun _ => _) hev_str (hgetj_str F.slot_str_join F.type_str_join) (har_cons (hev_name (.fast 1) (by decide +kernel) (by decide +kernel)) har_nil (fun _ => se_Name)) hcall_join (pl_of (st_cons (fun _ => se_Name) st_nil)) (fun _ => rfl)))
    hexs_nil)))
set_option maxHeartbeats 4000000 in
theorem c_strip (y : Pk) {D : FD} : Hid (CallJ (XX y) (1) D (.ref 28) (strip_g )) := by
  refine hcall_def (X := XX y) (m₀ := 0) ["addr"] ["addr", "start", "open_pos", "result", "pos", "ch"] (ho := rfl) (by kernel_rfl) (fun s vs h => by obtain ⟨_, rfl⟩ := len1 h; exact BindsTo.of_eq rfl) (by decide) (by kernel_rfl) (by decide +kernel) (by kernel_rfl) (by kernel_rfl) rfl rfl rfl rfl (by kernel_rfl) (by kernel_rfl) ?_
  exact (hexs_cons (hex_if (htj_compare hev_str (hev_name (.fast 0) (by decide +kernel) (by decide +kernel)) (hacmp_ok _) rfl)
    (hexs_cons (hex_return (hev_name (.fast 0) (by decide +kernel) (by decide +kernel)))
    hexs_nil)
    hexs_nil)
    (hexs_cons (hex_assign (.fast 1) hev_int (by decide +kernel) (by decide +kernel) (fun _ _ => sw_Constant))
    (hexs_cons (hex_assign (.fast 2) hev_none (by decide +kernel) (by decide +kernel) (fun _ _ => sw_Constant))
    (hexs_cons (hex_assign (.fast 3) (hev_list har_nil) (by decide +kernel) (by decide +kernel) (fun _ _ => sw_List))
    (hexs_cons (hex_for (hit_gen (l := 2) (.fast 4) (.fast 5) rfl (by kernel_rfl) (kp__iter_escaped_chars y) (fun _ _ => BindsTo.of_eq rfl) (ns_enumerate y) (by kernel_rfl) (hnm_global (ns__iter_escaped_chars y) rfl) (har_cons (hev_name (.fast 0) (by decide +kernel) (by decide +kernel)) har_nil (fun _ => se_Name)) (by decide +kernel) (by decide +kernel) (by decide +kernel) (pl_of (st_cons (fun _ => se_Name) st_nil)) (fun _ => ce_Name))
    (hexs_cons (hex_if (htj_compare (hev_name (.fast 5) (by decide +kernel) (by decide +kernel)) hev_str (hacmp_ok _) rfl)
    (hexs_cons (hex_if (htj_compare (hev_name (.fast 2) (by decide +kernel) (by decide +kernel)) hev_none (hacmp_ok _) rfl)
    (hexs_cons (hex_assign (.fast 2) (hev_name (.fast 4) (by decide +kernel) (by decide +kernel)) (by decide +kernel) (by decide +kernel) (fun _ _ => sw_Name))
    hexs_nil)
    (hexs_cons (hex_if (htj_compare (hev_name (.fast 1) (by decide +kernel) (by decide +kernel)) (hev_name (.fast 2) (by decide +kernel) (by decide +kernel)) (hacmp_ok _) rfl)
    (hexs_cons (hex_expr (hev_meth (pl := fun _ => _) (hev_name (.fast 3) (by decide +kernel) (by decide +kernel)) (hgetj_list F.slot_list_append F.type_list_append F.plainAttrs_list) (har_cons (hev_cut (hev_name (.fast 0) (by decide +kernel) (by decide +kernel)) (hpt_some (hev_name (.fast 1) (by decide +kernel) (by decide +kernel))) (hpt_some (hev_name (.fast 2) (by decide +kernel) (by decide +kernel))) (fun _ _ h => nomatch h) (fun _ _ => rfl)) har_nil (fun _ => se_Sub)) hcall_append (pl_of (st_cons (fun _ => se_Sub) st_nil)) (fun _ => rfl)) (fun _ => sw_Call))
    hexs_nil)
    hexs_nil)
    (hexs_cons (hex_assign (.fast 1) (hev_binop (hev_name (.fast 4) (by decide +kernel) (by decide +kernel)) hev_int (habin_ok _)) (by decide +kernel) (by decide +kernel) (fun _ _ => sw_BinOp))
    (hexs_cons (hex_assign (.fast 2) hev_none (by decide +kernel) (by decide +kernel) (fun _ _ => sw_Constant))
    hexs_nil))))
    hexs_nil)
    hexs_nil)
    hexs_nil)
    hexs_nil (fun _ _ => fs_Call))
    (hexs_cons (hex_if (htj_compare (hev_name (.fast 1) (by decide +kernel) (by decide +kernel)) (hev_callN (hnm_builtin (ns_len y) (by kernel_rfl) rfl) (.inl ⟨_, rfl⟩) (har_cons (hev_name (.fast 0) (by decide +kernel) (by decide +kernel)) har_nil (fun _ => se_Name)) hcall_len (st_cons (fun _ => se_Name) st_nil)) (hacmp_ok _) rfl)
    (hexs_cons (hex_expr (hev_meth (pl := fun _ => _) (hev_name (.fast 3) (by decide +kernel) (by decide +kernel)) (hgetj_list F.slot_list_append F.type_list_append F.plainAttrs_list) (har_cons (hev_cut (hev_name (.fast 0) (by decide +kernel) (by decide +kernel)) (hpt_some (hev_name (.fast 1) (by decide +kernel) (by decide +kernel))) hpt_none (fun _ _ h => nomatch h) (fun _ _ => rfl)) har_nil (fun _ => se_Sub)) hcall_append (pl_of (st_cons (fun _ => se_Sub) st_nil)) (fun _ => rfl)) (fun _ => sw_Call))
    hexs_nil)
    hexs_nil)
    (hexs_cons (hex_return (hev_meth (pl := fun _ => _) hev_str (hgetj_str F.slot_str_join F.type_str_join) (har_cons (hev_name (.fast 3) (by decide +kernel) (by decide +kernel)) har_nil (fun _ => se_Name)) hcall_join (pl_of (st_cons (fun _ => se_Name) st_nil)) (fun _ => rfl)))
    hexs_nil)))))))
set_option maxHeartbeats 4000000 in
theorem c_check (y : Pk) {D : FD} : Hid (CallJ (XX y) (2) D (.ref 35) (check_g )) := by
  refine hcall_def (X := XX y) (m₀ := 1) ["addr"] ["addr", "opens", "pos", "ch"] (ho := rfl) (by kernel_rfl) (fun s vs h => by obtain ⟨_, rfl⟩ := len1 h; exact BindsTo.of_eq rfl) (by decide) (by kernel_rfl) (by decide +kernel) (by kernel_rfl) (by kernel_rfl) rfl rfl rfl rfl (by kernel_rfl) (by kernel_rfl) ?_
  exact (hexs_cons (hex_assign (.fast 0) (hev_callN (hnm_global (ns__strip_quoted_realnames y) rfl) (.inr (.inr (kp__strip_quoted_realnames y))) (har_cons (hev_name (.fast 0) (by decide +kernel) (by decide +kernel)) har_nil (fun _ => se_Name)) (hle (c_strip y) (by decide)) (st_cons (fun _ => se_Name) st_nil)) (by decide +kernel) (by decide +kernel) (fun _ _ => sw_Call))
    (hexs_cons (hex_assign (.fast 1) hev_int (by decide +kernel) (by decide +kernel) (fun _ _ => sw_Constant))
    (hexs_cons (hex_for (hit_gen (l := 2) (.fast 2) (.fast 3) rfl (by kernel_rfl) (kp__iter_escaped_chars y) (fun _ _ => BindsTo.of_eq rfl) (ns_enumerate y) (by kernel_rfl) (hnm_global (ns__iter_escaped_chars y) rfl) (har_cons (hev_name (.fast 0) (by decide +kernel) (by decide +kernel)) har_nil (fun _ => se_Name)) (by decide +kernel) (by decide +kernel) (by decide +kernel) (pl_of (st_cons (fun _ => se_Name) st_nil)) (fun _ => ce_Name))
    (hexs_cons (hex_if (htj_compare (hev_name (.fast 3) (by decide +kernel) (by decide +kernel)) hev_str (hacmp_ok _) rfl)
    (hexs_cons (hex_aug (.fast 1) hev_int (hpinp_ok _) (by decide +kernel) (by decide +kernel))
    hexs_nil)
    (hexs_cons (hex_if (htj_compare (hev_name (.fast 3) (by decide +kernel) (by decide +kernel)) hev_str (hacmp_ok _) rfl)
    (hexs_cons (hex_aug (.fast 1) hev_int (hpinp_ok _) (by decide +kernel) (by decide +kernel))
    (hexs_cons (hex_if (htj_compare (hev_name (.fast 1) (by decide +kernel) (by decide +kernel)) hev_int (hacmp_ok _) rfl)
    (hexs_cons (hex_return hev_bool)
    hexs_nil)
    hexs_nil)
    hexs_nil))
    hexs_nil)
    hexs_nil))
    hexs_nil)
    hexs_nil (fun _ _ => fs_Call))
    (hexs_cons (hex_return (hev_compare (hev_name (.fast 1) (by decide +kernel) (by decide +kernel)) hev_int (hacmp_ok _) rfl))
    hexs_nil))))
set_option maxHeartbeats 4000000 in
theorem c_numbers (y : Pk) {D : FD} (old : Option (Addr × List Int)) (hold : ∀ a ns, old = some (a, ns) → OldInts (XX y) a ns) : Hid (CallJ (XX y) (1) D (.ref 55) (numbers_g old)) := by
  refine hcall_def (X := XX y) (m₀ := 0) ["script"] ["script", "row"] (ho := rfl) (by kernel_rfl) (fun s vs h => by obtain ⟨_, rfl⟩ := len1 h; exact BindsTo.of_eq rfl) (by decide) (by kernel_rfl) (by decide +kernel) (by kernel_rfl) (by kernel_rfl) rfl rfl rfl rfl (by kernel_rfl) (by kernel_rfl) ?_
  exact (hexs_cons (hex_assignComp (.fast 1) (by decide +kernel) (hit_list (hev_cut (hev_name (.fast 0) (by decide +kernel) (by decide +kernel)) hpt_none (hpt_some hev_int) hold (fun _ _ => rfl))) hif_nil (hev_binop (hev_name .cv (by decide +kernel) (by decide +kernel)) (hev_binop hev_int hev_int (habin_ok _)) (habin_ok _)) (fun _ _ => fs_Sub) (by decide +kernel) (by decide +kernel) (fun env he => by cases env; dsimp only at he; subst he; first | rfl | kernel_rfl))
    (hexs_cons (hex_return (hev_binop (hev_name (.fast 1) (by decide +kernel) (by decide +kernel)) (hev_cut (hev_list (har_cons hev_int (har_cons hev_int (har_cons hev_int (har_cons hev_int (har_cons hev_int har_nil (fun _ => se_Constant)) (fun _ => se_Constant)) (fun _ => se_Constant)) (fun _ => se_Constant)) (fun _ => se_Constant))) (hpt_some (hev_callN (hnm_builtin (ns_len y) (by kernel_rfl) rfl) (.inl ⟨_, rfl⟩) (har_cons (hev_name (.fast 1) (by decide +kernel) (by decide +kernel)) har_nil (fun _ => se_Name)) hcall_len (st_cons (fun _ => se_Name) st_nil))) hpt_none (fun _ _ h => nomatch h) (fun _ _ => rfl)) (habin_ok _)))
    hexs_nil))
set_option maxHeartbeats 4000000 in
theorem c_row (y : Pk) {D : FD} : Hid (CallJ (XX y) (1) D (.ref 62) (row_g )) := by
  refine hcall_def (X := XX y) (m₀ := 0) ["numbers"] ["numbers", "row", "k", "spot"] (ho := rfl) (by kernel_rfl) (fun s vs h => by obtain ⟨_, rfl⟩ := len1 h; exact BindsTo.of_eq rfl) (by decide) (by kernel_rfl) (by decide +kernel) (by kernel_rfl) (by kernel_rfl) rfl rfl rfl rfl (by kernel_rfl) (by kernel_rfl) ?_
  exact (hexs_cons (hex_assign (.fast 1) (hev_list har_nil) (by decide +kernel) (by decide +kernel) (fun _ _ => sw_List))
    (hexs_cons (hex_for (hit_name (.fast 2) (hit_rangeN (hnm_builtin (ns_range y) (by kernel_rfl) rfl) (har_cons hev_int har_nil (fun _ => se_Constant)) (st_cons (fun _ => se_Constant) st_nil)) (by decide +kernel) (by decide +kernel))
    (hexs_cons (hex_assign (.fast 3) (hev_binop (hev_sub (hev_name (.fast 0) (by decide +kernel) (by decide +kernel)) (hev_name (.fast 2) (by decide +kernel) (by decide +kernel)) (fun _ _ => sb_Name)) (hev_binop (hev_binop hev_int (hev_name (.fast 2) (by decide +kernel) (by decide +kernel)) (habin_ok _)) hev_int (habin_ok _)) (habin_ok _)) (by decide +kernel) (by decide +kernel) (fun _ _ => sw_BinOp))
    (hexs_cons (hex_assign (.fast 1) (hev_binop (hev_binop (hev_cut (hev_name (.fast 1) (by decide +kernel) (by decide +kernel)) hpt_none (hpt_some (hev_name (.fast 3) (by decide +kernel) (by decide +kernel))) (fun _ _ h => nomatch h) (fun _ _ => rfl)) (hev_list (har_cons (hev_name (.fast 2) (by decide +kernel) (by decide +kernel)) (har_cons (hev_neg hev_int) har_nil (fun _ => se_UnaryOp)) (fun _ => se_Name))) (habin_ok _)) (hev_cut (hev_name (.fast 1) (by decide +kernel) (by decide +kernel)) (hpt_some (hev_name (.fast 3) (by decide +kernel) (by decide +kernel))) hpt_none (fun _ _ h => nomatch h) (fun _ _ => rfl)) (habin_ok _)) (by decide +kernel) (by decide +kernel) (fun _ _ => sw_BinOp))
    hexs_nil))
    hexs_nil (fun _ _ => fs_Call))
    (hexs_cons (hex_return (hev_name (.fast 1) (by decide +kernel) (by decide +kernel)))
    hexs_nil)))
set_option maxHeartbeats 4000000 in
theorem c_texts (y : Pk) {D : FD} : Hid (CallJ (XX y) (1) D (.ref 69) (texts_g )) := by
  refine hcall_def (X := XX y) (m₀ := 0) ["row", "number"] ["row", "number", "dress", "texts", "k", "text"] (ho := rfl) (by kernel_rfl) (fun s vs h => by obtain ⟨_, _, rfl⟩ := len2 h; exact BindsTo.of_eq rfl) (by decide) (by kernel_rfl) (by decide +kernel) (by kernel_rfl) (by kernel_rfl) rfl rfl rfl rfl (by kernel_rfl) (by kernel_rfl) ?_
  exact (hexs_cons (hex_assign (.fast 2) (hev_sub (hev_list (har_cons hev_str (har_cons hev_str (har_cons hev_str (har_cons hev_str har_nil (fun _ => se_Constant)) (fun _ => se_Constant)) (fun _ => se_Constant)) (fun _ => se_Constant))) (hev_binop (hev_binop (hev_name (.fast 1) (by decide +kernel) (by decide +kernel)) hev_int (habin_ok _)) hev_int (habin_ok _)) (fun _ _ => sb_BinOp)) (by decide +kernel) (by decide +kernel) (fun _ _ => sw_Sub))
    (hexs_cons (hex_assign (.fast 3) (hev_list har_nil) (by decide +kernel) (by decide +kernel) (fun _ _ => sw_List))
    (hexs_cons (hex_for (hit_name (.fast 4) (hit_list (hev_name (.fast 0) (by decide +kernel) (by decide +kernel))) (by decide +kernel) (by decide +kernel))
    (hexs_cons (hex_assign (.fast 5) hev_str (by decide +kernel) (by decide +kernel) (fun _ _ => sw_Constant))
    (hexs_cons (hex_if (htj_compare (hev_name (.fast 4) (by decide +kernel) (by decide +kernel)) hev_int (hacmp_ok _) rfl)
    (hexs_cons (hex_assign (.fast 5) (hev_binop (hev_callN (hnm_builtin (ns_chr y) (by kernel_rfl) rfl) (.inl ⟨_, rfl⟩) (har_cons (hev_binop hev_int (hev_name (.fast 4) (by decide +kernel) (by decide +kernel)) (habin_ok _)) har_nil (fun _ => se_BinOp)) hcall_chr (st_cons (fun _ => se_BinOp) st_nil)) hev_str (habin_ok _)) (by decide +kernel) (by decide +kernel) (fun _ _ => sw_BinOp))
    (hexs_cons (hex_if (htj_compare (hev_name (.fast 4) (by decide +kernel) (by decide +kernel)) (hev_binop (hev_name (.fast 1) (by decide +kernel) (by decide +kernel)) hev_int (habin_ok _)) (hacmp_ok _) rfl)
    (hexs_cons (hex_assign (.fast 5) (hev_binop (hev_name (.fast 2) (by decide +kernel) (by decide +kernel)) (hev_name (.fast 5) (by decide +kernel) (by decide +kernel)) (habin_ok _)) (by decide +kernel) (by decide +kernel) (fun _ _ => sw_BinOp))
    hexs_nil)
    hexs_nil)
    hexs_nil))
    hexs_nil)
    (hexs_cons (hex_expr (hev_meth (pl := fun _ => _) (hev_name (.fast 3) (by decide +kernel) (by decide +kernel)) (hgetj_list F.slot_list_append F.type_list_append F.plainAttrs_list) (har_cons (hev_name (.fast 5) (by decide +kernel) (by decide +kernel)) har_nil (fun _ => se_Name)) hcall_append (pl_of (st_cons (fun _ => se_Name) st_nil)) (fun _ => rfl)) (fun _ => sw_Call))
    hexs_nil)))
    hexs_nil (fun _ _ => fs_Name))
    (hexs_cons (hex_return (hev_name (.fast 3) (by decide +kernel) (by decide +kernel)))
    hexs_nil))))
set_option maxHeartbeats 4000000 in
theorem c_outers (y : Pk) {D : FD} : Hid (CallJ (XX y) (3) D (.ref 76) (outers_g )) := by
  refine hcall_def (X := XX y) (m₀ := 2) ["texts"] ["texts", "line", "starts", "outers", "place", "text", "j"] (ho := rfl) (by kernel_rfl) (fun s vs h => by obtain ⟨_, rfl⟩ := len1 h; exact BindsTo.of_eq rfl) (by decide) (by kernel_rfl) (by decide +kernel) (by kernel_rfl) (by kernel_rfl) rfl rfl rfl rfl (by kernel_rfl) (by kernel_rfl) ?_
  exact (hexs_cons (hex_assign (.fast 1) (hev_meth (pl := fun _ => _) hev_str (hgetj_str F.slot_str_join F.type_str_join) (har_cons (hev_name (.fast 0) (by decide +kernel) (by decide +kernel)) har_nil (fun _ => se_Name)) hcall_join (pl_of (st_cons (fun _ => se_Name) st_nil)) (fun _ => rfl)) (by decide +kernel) (by decide +kernel) (fun _ _ => sw_Call))
    (hexs_cons (hex_assign (.fast 2) (hev_list har_nil) (by decide +kernel) (by decide +kernel) (fun _ _ => sw_List))
    (hexs_cons (hex_assign (.fast 3) (hev_list har_nil) (by decide +kernel) (by decide +kernel) (fun _ _ => sw_List))
    (hexs_cons (hex_assign (.fast 4) hev_int (by decide +kernel) (by decide +kernel) (fun _ _ => sw_Constant))
    (hexs_cons (hex_for (hit_name (.fast 5) (hit_list (hev_name (.fast 0) (by decide +kernel) (by decide +kernel))) (by decide +kernel) (by decide +kernel))
    (hexs_cons (hex_if (htj_compare (hev_name (.fast 5) (by decide +kernel) (by decide +kernel)) hev_str (hacmp_ok _) rfl)
    (hexs_cons (hex_assign (.fast 6) (hev_binop (hev_callN (hnm_builtin (ns_len y) (by kernel_rfl) rfl) (.inl ⟨_, rfl⟩) (har_cons (hev_name (.fast 2) (by decide +kernel) (by decide +kernel)) har_nil (fun _ => se_Name)) hcall_len (st_cons (fun _ => se_Name) st_nil)) hev_int (habin_ok _)) (by decide +kernel) (by decide +kernel) (fun _ _ => sw_BinOp))
    (hexs_cons (hex_while 12 (htj_boolop (htjb_and (htj_compare (hev_name (.fast 6) (by decide +kernel) (by decide +kernel)) hev_int (hacmp_ok _) rfl) (htjb_and (htj_not (htj_plain (hev_callN (hnm_global (ns__check_parenthesis y) rfl) (.inr (.inr (kp__check_parenthesis y))) (har_cons (hev_binop (hev_cut (hev_name (.fast 1) (by decide +kernel) (by decide +kernel)) (hpt_some (hev_sub (hev_name (.fast 2) (by decide +kernel) (by decide +kernel)) (hev_name (.fast 6) (by decide +kernel) (by decide +kernel)) (fun _ _ => sb_Name))) (hpt_some (hev_name (.fast 4) (by decide +kernel) (by decide +kernel))) (fun _ _ h => nomatch h) (fun _ _ => rfl)) hev_str (habin_ok _)) har_nil (fun _ => se_BinOp)) (hle (c_check y) (by decide)) (st_cons (fun _ => se_BinOp) st_nil)) (fun _ _ => it_Call))) htjb_and_nil))) (hexs_cons (hex_assign (.fast 6) (hev_sub (hev_name (.fast 3) (by decide +kernel) (by decide +kernel)) (hev_name (.fast 6) (by decide +kernel) (by decide +kernel)) (fun _ _ => sb_Name)) (by decide +kernel) (by decide +kernel) (fun _ _ => sw_Sub))
    hexs_nil))
    (hexs_cons (hex_expr (hev_meth (pl := fun _ => _) (hev_name (.fast 2) (by decide +kernel) (by decide +kernel)) (hgetj_list F.slot_list_append F.type_list_append F.plainAttrs_list) (har_cons (hev_name (.fast 4) (by decide +kernel) (by decide +kernel)) har_nil (fun _ => se_Name)) hcall_append (pl_of (st_cons (fun _ => se_Name) st_nil)) (fun _ => rfl)) (fun _ => sw_Call))
    (hexs_cons (hex_expr (hev_meth (pl := fun _ => _) (hev_name (.fast 3) (by decide +kernel) (by decide +kernel)) (hgetj_list F.slot_list_append F.type_list_append F.plainAttrs_list) (har_cons (hev_name (.fast 6) (by decide +kernel) (by decide +kernel)) har_nil (fun _ => se_Name)) hcall_append (pl_of (st_cons (fun _ => se_Name) st_nil)) (fun _ => rfl)) (fun _ => sw_Call))
    hexs_nil))))
    hexs_nil)
    (hexs_cons (hex_aug (.fast 4) (hev_callN (hnm_builtin (ns_len y) (by kernel_rfl) rfl) (.inl ⟨_, rfl⟩) (har_cons (hev_name (.fast 5) (by decide +kernel) (by decide +kernel)) har_nil (fun _ => se_Name)) hcall_len (st_cons (fun _ => se_Name) st_nil)) (hpinp_ok _) (by decide +kernel) (by decide +kernel))
    hexs_nil))
    hexs_nil (fun _ _ => fs_Name))
    (hexs_cons (hex_return (hev_name (.fast 3) (by decide +kernel) (by decide +kernel)))
    hexs_nil))))))
set_option maxHeartbeats 4000000 in
theorem c_hung (y : Pk) {D : FD} : Hid (CallJ (XX y) (1) D (.ref 83) (hung_g )) := by
  refine hcall_def (X := XX y) (m₀ := 0) ["row"] ["row", "outers", "opened", "k"] (ho := rfl) (by kernel_rfl) (fun s vs h => by obtain ⟨_, rfl⟩ := len1 h; exact BindsTo.of_eq rfl) (by decide) (by kernel_rfl) (by decide +kernel) (by kernel_rfl) (by kernel_rfl) rfl rfl rfl rfl (by kernel_rfl) (by kernel_rfl) ?_
  exact (hexs_cons (hex_assign (.fast 1) (hev_list har_nil) (by decide +kernel) (by decide +kernel) (fun _ _ => sw_List))
    (hexs_cons (hex_assign (.fast 2) (hev_list har_nil) (by decide +kernel) (by decide +kernel) (fun _ _ => sw_List))
    (hexs_cons (hex_for (hit_name (.fast 3) (hit_list (hev_name (.fast 0) (by decide +kernel) (by decide +kernel))) (by decide +kernel) (by decide +kernel))
    (hexs_cons (hex_if (htj_compare (hev_name (.fast 3) (by decide +kernel) (by decide +kernel)) hev_int (hacmp_ok _) rfl)
    (hexs_cons (hex_expr (hev_meth (pl := fun _ => _) (hev_name (.fast 2) (by decide +kernel) (by decide +kernel)) (hgetj_list F.slot_list_pop F.type_list_pop F.plainAttrs_list) har_nil hcall_pop (pl_of st_nil) (fun _ => rfl)) (fun _ => sw_Call))
    hexs_nil)
    (hexs_cons (hex_expr (hev_meth (pl := fun _ => _) (hev_name (.fast 1) (by decide +kernel) (by decide +kernel)) (hgetj_list F.slot_list_append F.type_list_append F.plainAttrs_list) (har_cons (hev_ifexp (htj_compare (hev_name (.fast 2) (by decide +kernel) (by decide +kernel)) (hev_list har_nil) (hacmp_ok _) rfl) (hev_sub (hev_name (.fast 2) (by decide +kernel) (by decide +kernel)) (hev_neg hev_int) (fun _ _ => sb_UnaryOp)) (hev_neg hev_int)) har_nil (fun _ => se_If)) hcall_append (pl_of (st_cons (fun _ => se_If) st_nil)) (fun _ => rfl)) (fun _ => sw_Call))
    (hexs_cons (hex_expr (hev_meth (pl := fun _ => _) (hev_name (.fast 2) (by decide +kernel) (by decide +kernel)) (hgetj_list F.slot_list_append F.type_list_append F.plainAttrs_list) (har_cons (hev_binop (hev_callN (hnm_builtin (ns_len y) (by kernel_rfl) rfl) (.inl ⟨_, rfl⟩) (har_cons (hev_name (.fast 1) (by decide +kernel) (by decide +kernel)) har_nil (fun _ => se_Name)) hcall_len (st_cons (fun _ => se_Name) st_nil)) hev_int (habin_ok _)) har_nil (fun _ => se_BinOp)) hcall_append (pl_of (st_cons (fun _ => se_BinOp) st_nil)) (fun _ => rfl)) (fun _ => sw_Call))
    hexs_nil)))
    hexs_nil)
    hexs_nil (fun _ _ => fs_Name))
    (hexs_cons (hex_return (hev_name (.fast 1) (by decide +kernel) (by decide +kernel)))
    hexs_nil))))
set_option maxHeartbeats 4000000 in
theorem c_loose (y : Pk) {D : FD} : Hid (CallJ (XX y) (2) D (.ref 88) (loose_g )) := by
  refine hcall_def (X := XX y) (m₀ := 1) ["outers", "shift"] ["outers", "loose", "tie"] (ho := rfl) (by kernel_rfl) (fun s vs h => by obtain ⟨_, _, rfl⟩ := len2 h; exact BindsTo.of_eq rfl) (by decide) (by kernel_rfl) (by decide +kernel) (by kernel_rfl) (by kernel_rfl) rfl rfl rfl rfl (by kernel_rfl) (by kernel_rfl) ?_
  exact (hexs_cons (hex_assign (.fast 1) (hev_list (har_cons hev_int har_nil (fun _ => se_Constant))) (by decide +kernel) (by decide +kernel) (fun _ _ => sw_List))
    (hexs_cons (hex_for (hit_name (.cell 4) (hit_rangeN (hnm_builtin (ns_range y) (by kernel_rfl) rfl) (har_cons hev_int har_nil (fun _ => se_Constant)) (st_cons (fun _ => se_Constant) st_nil)) (by decide +kernel) (by decide +kernel))
    (hexs_cons (hex_assign (.cell 3) (hev_comp (by decide +kernel) (hit_list (hev_name (.fast 1) (by decide +kernel) (by decide +kernel))) hif_nil (hev_binop (hev_name .cv (by decide +kernel) (by decide +kernel)) (hev_binop hev_int (hev_name (.cell 4) (by decide +kernel) (by decide +kernel)) (habin_ok _)) (habin_ok _)) (fun _ _ => fs_Name)) (by decide +kernel) (by decide +kernel) (fun env he => by cases env; dsimp only at he; subst he; first | rfl | kernel_rfl))
    (hexs_cons (hex_if (htj_compare (hev_sub (hev_name (.fast 0) (by decide +kernel) (by decide +kernel)) (hev_name (.cell 4) (by decide +kernel) (by decide +kernel)) (fun _ _ => sb_Name)) hev_int (hacmp_ok _) rfl)
    (hexs_cons (hex_assign (.fast 2) (hev_binop (hev_binop hev_str (hev_callN (hnm_global (ns_pretty_flags y) rfl) (.inr (.inr (kp_pretty_flags y))) (har_cons (hev_binop (hev_binop (hev_binop hev_int (hev_sub (hev_name (.fast 0) (by decide +kernel) (by decide +kernel)) (hev_name (.cell 4) (by decide +kernel) (by decide +kernel)) (fun _ _ => sb_Name)) (habin_ok _)) (hev_binop hev_int (hev_name (.cell 4) (by decide +kernel) (by decide +kernel)) (habin_ok _)) (habin_ok _)) (hev_binop hev_int (hev_name (.cell 5) (by decide +kernel) (by decide +kernel)) (habin_ok _)) (habin_ok _)) har_nil (fun _ => se_BinOp)) (hle (c_pretty y) (by decide)) (st_cons (fun _ => se_BinOp) st_nil)) (habin_ok _)) hev_str (habin_ok _)) (by decide +kernel) (by decide +kernel) (fun _ _ => sw_BinOp))
    (hexs_cons (hex_assign (.cell 2) (hev_binop (hev_rep (pl := fun _ => _) (.fast 2) (by decide +kernel) (by decide +kernel) (fun _ => rfl) (fun _ => rfl) (fun _ => rfl)) hev_str (habin_ok _)) (by decide +kernel) (by decide +kernel) (fun _ _ => sw_BinOp))
    (hexs_cons (hex_assign (.cell 1) (hev_comp (by decide +kernel) (hit_list (hev_name (.cell 3) (by decide +kernel) (by decide +kernel))) hif_nil (hev_binop (hev_binop hev_str (hev_callN (hnm_global (ns_pretty_flags y) rfl) (.inr (.inr (kp_pretty_flags y))) (har_cons (hev_binop (hev_name .cv (by decide +kernel) (by decide +kernel)) (hev_binop hev_int (hev_name (.cell 5) (by decide +kernel) (by decide +kernel)) (habin_ok _)) (habin_ok _)) har_nil (fun _ => se_BinOp)) (hle (c_pretty y) (by decide)) (st_cons (fun _ => se_BinOp) st_nil)) (habin_ok _)) hev_str (habin_ok _)) (fun _ _ => fs_Name)) (by decide +kernel) (by decide +kernel) (fun env he => by cases env; dsimp only at he; subst he; first | rfl | kernel_rfl))
    (hexs_cons (hex_assign (.cell 3) (hev_comp (by decide +kernel) (hit_rangeN (hnm_builtin (ns_range y) (by kernel_rfl) rfl) (har_cons (hev_callN (hnm_builtin (ns_len y) (by kernel_rfl) rfl) (.inl ⟨_, rfl⟩) (har_cons (hev_name (.cell 3) (by decide +kernel) (by decide +kernel)) har_nil (fun _ => se_Name)) hcall_len (st_cons (fun _ => se_Name) st_nil)) har_nil (fun _ => se_Call)) (st_cons (fun _ => se_Call) st_nil)) (hif_one (htj_not (htj_plain (hev_callN (hnm_global (ns__ellipsis_match y) rfl) (.inr (.inr (kp__ellipsis_match y))) (har_cons (hev_name (.cell 2) (by decide +kernel) (by decide +kernel)) (har_cons (hev_sub (hev_name (.cell 1) (by decide +kernel) (by decide +kernel)) (hev_name .cv (by decide +kernel) (by decide +kernel)) (fun _ _ => sb_Name)) har_nil (fun _ => se_Sub)) (fun _ => se_Name)) (hle (c_match y) (by decide)) (st_cons (fun _ => se_Name) (st_cons (fun _ => se_Sub) st_nil))) (fun _ _ => it_Call)))) (hev_sub (hev_name (.cell 3) (by decide +kernel) (by decide +kernel)) (hev_name .cv (by decide +kernel) (by decide +kernel)) (fun _ _ => sb_Name)) (fun _ _ => fs_Call)) (by decide +kernel) (by decide +kernel) (fun env he => by cases env; dsimp only at he; subst he; first | rfl | kernel_rfl))
    hexs_nil))))
    hexs_nil)
    (hexs_cons (hex_assign (.fast 1) (hev_binop (hev_name (.fast 1) (by decide +kernel) (by decide +kernel)) (hev_name (.cell 3) (by decide +kernel) (by decide +kernel)) (habin_ok _)) (by decide +kernel) (by decide +kernel) (fun _ _ => sw_BinOp))
    hexs_nil)))
    hexs_nil (fun _ _ => fs_Call))
    (hexs_cons (hex_return (hev_name (.fast 1) (by decide +kernel) (by decide +kernel)))
    hexs_nil)))
set_option maxHeartbeats 4000000 in
theorem c_holes (y : Pk) {D : FD} : Hid (CallJ (XX y) (1) D (.ref 95) (holes_g )) := by
  refine hcall_def (X := XX y) (m₀ := 0) ["loose"] ["loose", "holes", "bases", "chosen", "rim", "size", "bit", "base"] (ho := rfl) (by kernel_rfl) (fun s vs h => by obtain ⟨_, rfl⟩ := len1 h; exact BindsTo.of_eq rfl) (by decide) (by kernel_rfl) (by decide +kernel) (by kernel_rfl) (by kernel_rfl) rfl rfl rfl rfl (by kernel_rfl) (by kernel_rfl) ?_
  exact (hexs_cons (hex_assign (.fast 1) (hev_list (har_cons hev_int (har_cons hev_int (har_cons hev_int (har_cons hev_int (har_cons hev_int (har_cons hev_int har_nil (fun _ => se_Constant)) (fun _ => se_Constant)) (fun _ => se_Constant)) (fun _ => se_Constant)) (fun _ => se_Constant)) (fun _ => se_Constant))) (by decide +kernel) (by decide +kernel) (fun _ _ => sw_List))
    (hexs_cons (hex_assign (.fast 2) (hev_list (har_cons (hev_list har_nil) (har_cons (hev_list har_nil) (har_cons (hev_list har_nil) (har_cons (hev_list har_nil) (har_cons (hev_list har_nil) (har_cons (hev_list har_nil) har_nil (fun _ => se_List)) (fun _ => se_List)) (fun _ => se_List)) (fun _ => se_List)) (fun _ => se_List)) (fun _ => se_List))) (by decide +kernel) (by decide +kernel) (fun _ _ => sw_List))
    (hexs_cons (hex_for (hit_name (.fast 3) (hit_list (hev_name (.fast 0) (by decide +kernel) (by decide +kernel))) (by decide +kernel) (by decide +kernel))
    (hexs_cons (hex_assign (.fast 4) hev_int (by decide +kernel) (by decide +kernel) (fun _ _ => sw_Constant))
    (hexs_cons (hex_assign (.fast 5) hev_int (by decide +kernel) (by decide +kernel) (fun _ _ => sw_Constant))
    (hexs_cons (hex_for (hit_name (.fast 6) (hit_tuple (har_cons hev_int (har_cons hev_int (har_cons hev_int (har_cons hev_int (har_cons hev_int har_nil (fun _ => se_Constant)) (fun _ => se_Constant)) (fun _ => se_Constant)) (fun _ => se_Constant)) (fun _ => se_Constant))) (by decide +kernel) (by decide +kernel))
    (hexs_cons (hex_if (htj_compare (hev_binop (hev_binop (hev_name (.fast 3) (by decide +kernel) (by decide +kernel)) (hev_name (.fast 6) (by decide +kernel) (by decide +kernel)) (habin_ok _)) hev_int (habin_ok _)) hev_int (hacmp_ok _) rfl)
    (hexs_cons (hex_aug (.fast 4) (hev_binop hev_int (hev_binop (hev_name (.fast 3) (by decide +kernel) (by decide +kernel)) (hev_name (.fast 6) (by decide +kernel) (by decide +kernel)) (habin_ok _)) (habin_ok _)) (hpinp_ok _) (by decide +kernel) (by decide +kernel))
    (hexs_cons (hex_aug (.fast 5) hev_int (hpinp_ok _) (by decide +kernel) (by decide +kernel))
    hexs_nil))
    hexs_nil)
    hexs_nil)
    hexs_nil (fun _ _ => fs_Tuple))
    (hexs_cons (hex_for (hit_name (.fast 7) (hit_list (hev_sub (hev_name (.fast 2) (by decide +kernel) (by decide +kernel)) (hev_name (.fast 5) (by decide +kernel) (by decide +kernel)) (fun _ _ => sb_Name))) (by decide +kernel) (by decide +kernel))
    (hexs_cons (hex_assign (.fast 4) (hev_callN (hnm_builtin (ns_min y) (by kernel_rfl) rfl) (.inl ⟨_, rfl⟩) (har_cons (hev_name (.fast 4) (by decide +kernel) (by decide +kernel)) (har_cons (hev_binop (hev_name (.fast 4) (by decide +kernel) (by decide +kernel)) (hev_name (.fast 7) (by decide +kernel) (by decide +kernel)) (habin_ok _)) har_nil (fun _ => se_BinOp)) (fun _ => se_Name)) hcall_min2 (st_cons (fun _ => se_Name) (st_cons (fun _ => se_BinOp) st_nil))) (by decide +kernel) (by decide +kernel) (fun _ _ => sw_Call))
    hexs_nil)
    hexs_nil (fun _ _ => fs_Sub))
    (hexs_cons (hex_if (htj_compare (hev_name (.fast 4) (by decide +kernel) (by decide +kernel)) hev_int (hacmp_ok _) rfl)
    (hexs_cons (hex_augSub (hev_name (.fast 1) (by decide +kernel) (by decide +kernel)) (hev_name (.fast 5) (by decide +kernel) (by decide +kernel)) hev_int (hpinp_ok _) (fun _ _ _ => rfl))
    hexs_nil)
    (hexs_cons (hex_augSub (hev_name (.fast 1) (by decide +kernel) (by decide +kernel)) (hev_binop (hev_name (.fast 5) (by decide +kernel) (by decide +kernel)) hev_int (habin_ok _)) hev_int (hpinp_ok _) (fun _ _ _ => rfl))
    (hexs_cons (hex_expr (hev_meth (pl := fun _ => _) (hev_sub (hev_name (.fast 2) (by decide +kernel) (by decide +kernel)) (hev_name (.fast 5) (by decide +kernel) (by decide +kernel)) (fun _ _ => sb_Name)) (hgetj_list F.slot_list_append F.type_list_append F.plainAttrs_list) (har_cons (hev_name (.fast 4) (by decide +kernel) (by decide +kernel)) har_nil (fun _ => se_Name)) hcall_append (pl_of (st_cons (fun _ => se_Name) st_nil)) (fun _ => rfl)) (fun _ => sw_Call))
    hexs_nil)))
    hexs_nil)))))
    hexs_nil (fun _ _ => fs_Name))
    (hexs_cons (hex_return (hev_name (.fast 1) (by decide +kernel) (by decide +kernel)))
    hexs_nil))))
set_option maxHeartbeats 4000000 in
theorem c_least (y : Pk) {D : FD} : Hid (CallJ (XX y) (1) D (.ref 100) (least_g )) := by
  refine hcall_def (X := XX y) (m₀ := 0) ["outers"] [] (ho := rfl) (by kernel_rfl) (fun s vs h => by obtain ⟨_, rfl⟩ := len1 h; exact BindsTo.of_eq rfl) (by decide) (by kernel_rfl) (by decide +kernel) (by kernel_rfl) (by kernel_rfl) rfl rfl rfl rfl (by kernel_rfl) (by kernel_rfl) ?_
  exact (hexs_cons (hex_assign (.cell 4) (hev_list (har_cons hev_int har_nil (fun _ => se_Constant))) (by decide +kernel) (by decide +kernel) (fun _ _ => sw_List))
    (hexs_cons (hex_assign (.cell 3) (hev_list (har_cons hev_int har_nil (fun _ => se_Constant))) (by decide +kernel) (by decide +kernel) (fun _ _ => sw_List))
    (hexs_cons (hex_for (hit_name (.cell 2) (hit_rangeN (hnm_builtin (ns_range y) (by kernel_rfl) rfl) (har_cons hev_int har_nil (fun _ => se_Constant)) (st_cons (fun _ => se_Constant) st_nil)) (by decide +kernel) (by decide +kernel))
    (hexs_cons (hex_assign (.cell 1) (hev_callN (hnm_builtin (ns_sum y) (by kernel_rfl) rfl) (.inl ⟨_, rfl⟩) (har_cons (hev_comp (by decide +kernel) (hit_rangeN (hnm_builtin (ns_range y) (by kernel_rfl) rfl) (har_cons hev_int har_nil (fun _ => se_Constant)) (st_cons (fun _ => se_Constant) st_nil)) (hif_one (htj_boolop (htjb_or (htj_compare (hev_name .cv (by decide +kernel) (by decide +kernel)) (hev_name (.cell 2) (by decide +kernel) (by decide +kernel)) (hacmp_ok _) rfl) (htjb_or (htj_compare (hev_sub (hev_name (.cell 5) (by decide +kernel) (by decide +kernel)) (hev_name .cv (by decide +kernel) (by decide +kernel)) (fun _ _ => sb_Name)) (hev_name (.cell 2) (by decide +kernel) (by decide +kernel)) (hacmp_ok _) rfl) (htjb_or (htj_compare (hev_sub (hev_name (.cell 5) (by decide +kernel) (by decide +kernel)) (hev_name (.cell 2) (by decide +kernel) (by decide +kernel)) (fun _ _ => sb_Name)) (hev_name .cv (by decide +kernel) (by decide +kernel)) (hacmp_ok _) rfl) htjb_or_nil))))) (hev_binop hev_int (hev_name .cv (by decide +kernel) (by decide +kernel)) (habin_ok _)) (fun _ _ => fs_Call)) har_nil (fun _ => se_Comp)) hcall_sum (st_cons (fun _ => se_Comp) st_nil)) (by decide +kernel) (by decide +kernel) (fun _ _ => sw_Call))
    (hexs_cons (hex_assign (.cell 4) (hev_binop (hev_name (.cell 4) (by decide +kernel) (by decide +kernel)) (hev_comp (by decide +kernel) (hit_list (hev_name (.cell 4) (by decide +kernel) (by decide +kernel))) hif_nil (hev_binop (hev_name .cv (by decide +kernel) (by decide +kernel)) (hev_name (.cell 1) (by decide +kernel) (by decide +kernel)) (habin_ok _)) (fun _ _ => fs_Name)) (habin_ok _)) (by decide +kernel) (by decide +kernel) (fun _ _ => sw_BinOp))
    (hexs_cons (hex_assign (.cell 3) (hev_binop (hev_name (.cell 3) (by decide +kernel) (by decide +kernel)) (hev_comp (by decide +kernel) (hit_list (hev_name (.cell 3) (by decide +kernel) (by decide +kernel))) hif_nil (hev_binop (hev_name .cv (by decide +kernel) (by decide +kernel)) hev_int (habin_ok _)) (fun _ _ => fs_Name)) (habin_ok _)) (by decide +kernel) (by decide +kernel) (fun _ _ => sw_BinOp))
    hexs_nil)))
    hexs_nil (fun _ _ => fs_Call))
    (hexs_cons (hex_return (hev_callN (hnm_builtin (ns_min y) (by kernel_rfl) rfl) (.inl ⟨_, rfl⟩) (har_cons (hev_comp (by decide +kernel) (hit_rangeN (hnm_builtin (ns_range y) (by kernel_rfl) rfl) (har_cons hev_int har_nil (fun _ => se_Constant)) (st_cons (fun _ => se_Constant) st_nil)) (hif_one (htj_compare (hev_sub (hev_name (.cell 4) (by decide +kernel) (by decide +kernel)) (hev_name .cv (by decide +kernel) (by decide +kernel)) (fun _ _ => sb_Name)) hev_int (hacmp_ok _) rfl)) (hev_sub (hev_name (.cell 3) (by decide +kernel) (by decide +kernel)) (hev_name .cv (by decide +kernel) (by decide +kernel)) (fun _ _ => sb_Name)) (fun _ _ => fs_Call)) har_nil (fun _ => se_Comp)) hcall_min (st_cons (fun _ => se_Comp) st_nil)))
    hexs_nil))))
set_option maxHeartbeats 4000000 in
theorem c_due (y : Pk) {D : FD} : Hid (CallJ (XX y) (2) D (.ref 107) (due_g )) := by
  refine hcall_def (X := XX y) (m₀ := 1) ["outers"] ["outers", "holes", "standing", "i", "outer", "m"] (ho := rfl) (by kernel_rfl) (fun s vs h => by obtain ⟨_, rfl⟩ := len1 h; exact BindsTo.of_eq rfl) (by decide) (by kernel_rfl) (by decide +kernel) (by kernel_rfl) (by kernel_rfl) rfl rfl rfl rfl (by kernel_rfl) (by kernel_rfl) ?_
  exact (hexs_cons (hex_assign (.fast 1) (hev_list (har_cons hev_int (har_cons hev_int (har_cons hev_int (har_cons hev_int (har_cons hev_int (har_cons hev_int har_nil (fun _ => se_Constant)) (fun _ => se_Constant)) (fun _ => se_Constant)) (fun _ => se_Constant)) (fun _ => se_Constant)) (fun _ => se_Constant))) (by decide +kernel) (by decide +kernel) (fun _ _ => sw_List))
    (hexs_cons (hex_assign (.fast 2) (hev_binop (hev_list (har_cons hev_bool har_nil (fun _ => se_Constant))) hev_int (habin_ok _)) (by decide +kernel) (by decide +kernel) (fun _ _ => sw_BinOp))
    (hexs_cons (hex_for (hit_name (.fast 3) (hit_rangeN (hnm_builtin (ns_range y) (by kernel_rfl) rfl) (har_cons hev_int (har_cons (hev_neg hev_int) (har_cons (hev_neg hev_int) har_nil (fun _ => se_UnaryOp)) (fun _ => se_UnaryOp)) (fun _ => se_Constant)) (st_cons (fun _ => se_Constant) (st_cons (fun _ => se_UnaryOp) (st_cons (fun _ => se_UnaryOp) st_nil)))) (by decide +kernel) (by decide +kernel))
    (hexs_cons (hex_if (htj_plain (hev_sub (hev_name (.fast 2) (by decide +kernel) (by decide +kernel)) (hev_name (.fast 3) (by decide +kernel) (by decide +kernel)) (fun _ _ => sb_Name)) (fun _ _ => it_Sub))
    (hexs_cons (hex_assign (.fast 4) (hev_sub (hev_name (.fast 0) (by decide +kernel) (by decide +kernel)) (hev_name (.fast 3) (by decide +kernel) (by decide +kernel)) (fun _ _ => sb_Name)) (by decide +kernel) (by decide +kernel) (fun _ _ => sw_Sub))
    (hexs_cons (hex_if (htj_boolop (htjb_or (htj_compare (hev_name (.fast 4) (by decide +kernel) (by decide +kernel)) hev_int (hacmp_ok _) rfl) (htjb_or (htj_not (htj_plain (hev_sub (hev_name (.fast 2) (by decide +kernel) (by decide +kernel)) (hev_name (.fast 4) (by decide +kernel) (by decide +kernel)) (fun _ _ => sb_Name)) (fun _ _ => it_Sub))) htjb_or_nil)))
    (hexs_cons (hex_return (hev_name (.fast 1) (by decide +kernel) (by decide +kernel)))
    hexs_nil)
    hexs_nil)
    (hexs_cons (hex_for (hit_name (.fast 5) (hit_rangeN (hnm_builtin (ns_range y) (by kernel_rfl) rfl) (har_cons hev_int har_nil (fun _ => se_Constant)) (st_cons (fun _ => se_Constant) st_nil)) (by decide +kernel) (by decide +kernel))
    (hexs_cons (hex_if (htj_boolop (htjb_or (htj_compare (hev_name (.fast 5) (by decide +kernel) (by decide +kernel)) (hev_name (.fast 4) (by decide +kernel) (by decide +kernel)) (hacmp_ok _) rfl) (htjb_or (htj_compare (hev_sub (hev_name (.fast 0) (by decide +kernel) (by decide +kernel)) (hev_name (.fast 5) (by decide +kernel) (by decide +kernel)) (fun _ _ => sb_Name)) (hev_name (.fast 4) (by decide +kernel) (by decide +kernel)) (hacmp_ok _) rfl) (htjb_or (htj_compare (hev_sub (hev_name (.fast 0) (by decide +kernel) (by decide +kernel)) (hev_name (.fast 4) (by decide +kernel) (by decide +kernel)) (fun _ _ => sb_Name)) (hev_name (.fast 5) (by decide +kernel) (by decide +kernel)) (hacmp_ok _) rfl) htjb_or_nil))))
    (hexs_cons (hex_set hev_bool (hev_name (.fast 2) (by decide +kernel) (by decide +kernel)) (hev_name (.fast 5) (by decide +kernel) (by decide +kernel)) (fun _ => sw_Constant))
    hexs_nil)
    hexs_nil)
    hexs_nil)
    hexs_nil (fun _ _ => fs_Call))
    hexs_nil)))
    hexs_nil)
    hexs_nil)
    hexs_nil (fun _ _ => fs_Call))
    (hexs_cons (hex_set hev_int (hev_name (.fast 1) (by decide +kernel) (by decide +kernel)) (hev_callN (hnm_global (ns__law_least y) rfl) (.inr (.inr (kp__law_least y))) (har_cons (hev_name (.fast 0) (by decide +kernel) (by decide +kernel)) har_nil (fun _ => se_Name)) (hle (c_least y) (by decide)) (st_cons (fun _ => se_Name) st_nil)) (fun _ => sw_Constant))
    (hexs_cons (hex_return (hev_name (.fast 1) (by decide +kernel) (by decide +kernel)))
    hexs_nil)))))

theorem law_in {w : World} {loose : List Str} {mean : ExcName → Option Value} {mg mb : Str → Option Value} {cs : Scope} {env : Env} {L a : Addr} {h₀ : Heap} {m : Str → Option Value} {body : List Stmt} {s : Shared} {Q : Flow → Shared → Prop} {E : Value → Shared → Prop} {vs : List Value} {ns : List Int}
    (hL : h₀.IsList a vs.toArray) (hI : IntsAre vs ns) (hfin : ∃ σ', law_f (some (a, ns)) ⟨some (.adr a) :: [none, none, none], none, []⟩ = some (.ret (.bool true), σ'))
    (hB : ∀ y, OldInts (XX y) a ns → Hid (EXSJ (XX y) 10 ⟨cs, ["script", "numbers", "row", "told"], [], none⟩ body (law_f (some (a, ns))))) (K0 : Below callerA h₀ [] h₀) (F : Fr h₀ L s.heap m) (N : News h₀ L s.heap []) (hm : m "script" = some (.ref a))
    (KX : (hf.heap_39 w.params).In h₀) (T : Top hf.view_39 loose mean mg mb h₀)
    (hfr : env.frame = some L) (hsc : env.scope = cs) (hk : cs.kind = .function) (hgl : env.globals = mainGlobals) (hbi : env.builtins = builtinsNs) (hlo : env.locals = L)
    (k : ∀ s' m', Fr h₀ L s'.heap m' → Same s s' → Q (.ret (.bool true)) s') : wpAny (model PySem.Challenge.rw_sc0038_02.row.prog w) (callerA.deeper env) (execs body env) Q E s := by
  obtain ⟨o, ho, hc, j, hdt⟩ := hL
  have hold : OldInts (XX ⟨w, loose, mean, mg, mb, [(a, o)]⟩) a ns := ⟨o, vs, j, .head _, hc, hdt, hI⟩
  have big : sysModules < h₀.objs.size := by
    have := KX 114 _ rfl
    exact Nat.lt_trans (by decide) (Heap.lt_size this)
  exact law_go (X := XX ⟨w, loose, mean, mg, mb, [(a, o)]⟩) (hB _ hold) K0 F N hm KX T big (fun p hp => by rcases List.mem_singleton.mp hp with rfl; exact ho) hfr hsc hk hgl hbi hlo hfin k
end Mine
-- part QS1
namespace Mine
noncomputable def findS (y : List Nat) : List Nat → Option (List Nat)
  | [] => if y.isEmpty then some [] else none
  | c :: l => if y.isPrefixOf (c :: l) then some ((c :: l).drop y.length) else findS y l
noncomputable def loopS : List (List Nat) → List Nat → Bool
  | [], _ => true
  | y :: r, l => match findS y l with
    | some l' => loopS r l'
    | none => false
open Builtin.Str StrLaws in
theorem at_iff {x y : Str} {i : Nat} (hi : i ≤ x.length) : At x y x.length i ↔ y.cps.toList.isPrefixOf (x.cps.toList.drop i) = true := by
  unfold At subAt
  rw [List.isPrefixOf_iff_prefix, List.prefix_iff_eq_take, beq_iff_eq]
  have e : (x.cps.extract i (i + y.length)).toList = (x.cps.toList.drop i).take y.cps.toList.length := by
    simp [Str.length, Array.toList_extract, List.extract_eq_take_drop]
  constructor
  · rintro ⟨_, h⟩
    rw [← e, h]
  · intro h
    refine ⟨?_, ?_⟩
    · have := congrArg List.length h
      simp only [List.length_take, List.length_drop] at this
      show i + y.cps.size ≤ x.cps.size
      simp only [Array.length_toList] at this
      have hi' : i ≤ x.cps.size := hi
      omega
    · apply Array.toList_inj.mp
      rw [e, ← h]
theorem findS_none {y : List Nat} : ∀ {l : List Nat}, findS y l = none → ∀ k, k ≤ l.length → y.isPrefixOf (l.drop k) = false
  | [], h, k, hk => by
    cases y with
    | nil => simp [findS] at h
    | cons a r => simp [List.isPrefixOf]
  | c :: l, h, k, hk => by
    unfold findS at h
    split at h
    · cases h
    · rename_i hn
      cases k with
      | zero => exact Bool.eq_false_iff.mpr hn
      | succ k => exact findS_none h k (by simpa using hk)
theorem findS_some {y : List Nat} : ∀ {l l' : List Nat}, findS y l = some l' → ∃ k, k + y.length ≤ l.length ∧ l' = l.drop (k + y.length) ∧ y.isPrefixOf (l.drop k) = true ∧ ∀ j, j < k → y.isPrefixOf (l.drop j) = false
  | [], l', h => by
    cases y with
    | nil => simp [findS] at h; subst h; exact ⟨0, by simp, by simp, by simp, fun j hj => by omega⟩
    | cons a r => simp [findS] at h
  | c :: l, l', h => by
    unfold findS at h
    split at h
    · rename_i hp
      cases h
      refine ⟨0, ?_, by simp, by simpa using hp, fun j hj => by omega⟩
      rw [List.isPrefixOf_iff_prefix] at hp
      simpa using hp.length_le
    · rename_i hn
      obtain ⟨k, h1, h2, h3, h4⟩ := findS_some h
      refine ⟨k + 1, by simp; omega, ?_, h3, fun j hj => ?_⟩
      · rw [h2, show k + 1 + y.length = (k + y.length) + 1 by omega, List.drop_succ_cons]
      · cases j with
        | zero => exact Bool.eq_false_iff.mpr hn
        | succ j => exact h4 j (by omega)
open Builtin.Str StrLaws in
theorem occ_find (x y : Str) (p : Nat) (hp : p ≤ x.length) :
    match findS y.cps.toList (x.cps.toList.drop p) with
    | none => occurrences x y p x.length 1 = []
    | some l' => ∃ k r, occurrences x y p x.length 1 = k :: r ∧ k + y.length ≤ x.length ∧ l' = x.cps.toList.drop (k + y.length) := by
  have hx : x.cps.toList.length = x.length := by simp [Str.length]
  have hy : y.cps.toList.length = y.length := by simp [Str.length]
  rcases occ_head_from x y p 1 (Nat.le_refl 1) with ⟨h0, hn⟩ | ⟨k, r, h0, hlo, hk, hn⟩
  · split
    · exact h0
    · rename_i l' h
      obtain ⟨k, h1, h2, h3, h4⟩ := findS_some h
      rw [List.drop_drop] at h3
      rw [List.length_drop] at h1
      exact absurd ((at_iff (by omega)).mpr h3) (hn _ (by omega))
  · have hk' : k ≤ x.length := by have := hk.1; omega
    have hkp := (at_iff hk').mp hk
    split
    · rename_i h
      have := findS_none h (k - p) (by rw [List.length_drop]; omega)
      rw [List.drop_drop, show p + (k - p) = k by omega] at this
      rw [this] at hkp; cases hkp
    · rename_i l' h
      obtain ⟨j, h1, h2, h3, h4⟩ := findS_some h
      rw [List.drop_drop] at h3
      rw [List.length_drop] at h1
      have e : k = p + j := by
        rcases Nat.lt_trichotomy k (p + j) with hlt | heq | hgt
        · have := h4 (k - p) (by omega)
          rw [List.drop_drop, show p + (k - p) = k by omega] at this
          rw [this] at hkp; cases hkp
        · exact heq
        · exact absurd ((at_iff (by omega)).mpr h3) (hn (p + j) (by omega) hgt)
      exact ⟨k, r, h0, hk.1, by rw [h2, List.drop_drop, e, hy]; congr 1; omega⟩

noncomputable def matchS (want got : Str) (ws : List AV) (p n : Int) (w : Option AV) : AS := ⟨[some (.str want), some (.str got), some (.ref 0), some (.int p), some (.int n), w], none, [.flat ws]⟩
theorem pl_find {x y : Str} {p : Nat} {σ : AS} (hp : p ≤ x.length) : findG [.str x, .str y, .int p, .int x.length] σ = some (.int (match Builtin.Str.occurrences x y p x.length 1 with | k :: _ => (k : Int) | [] => -1), σ) := by
  have : (if 0 ≤ (p : Int) ∧ 0 ≤ (x.length : Int) ∧ (x.length : Int) ≤ x.length then some (AV.int (match Builtin.Str.occurrences x y (p : Int).toNat (x.length : Int).toNat 1 with | k :: _ => (k : Int) | [] => -1), σ) else none) = some (AV.int (match Builtin.Str.occurrences x y p x.length 1 with | k :: _ => (k : Int) | [] => -1), σ) := by
    rw [if_pos ⟨by omega, by omega, by omega⟩]
    simp only [Int.toNat_natCast]
  exact this
theorem pl_lenS {y : Str} {σ : AS} (h : y.length ≤ 100000) : lenG [.str y] σ = some (.int y.length, σ) := by
  have : (if y.length ≤ 100000 then some (AV.int y.length, σ) else none) = some (AV.int y.length, σ) := if_pos h
  exact this
theorem match_step (want got y : Str) (ws : List AV) (p : Nat) (hp : p ≤ got.length) (hy : y.length ≤ 100000) :
    match_b1 (matchS want got ws p got.length (some (.str y))) = match findS y.cps.toList (got.cps.toList.drop p) with
      | none => some (.ret (.bool false), matchS want got ws (-1) got.length (some (.str y)))
      | some l' => some (.next, matchS want got ws (got.length - l'.length : Int) got.length (some (.str y))) := by
  have h := occ_find got y p hp
  delta match_b1 matchS
  split
  · rename_i e
    rw [e] at h
    have hf : ∀ σ : AS, findG [.str got, .str y, .int p, .int got.length] σ = some (.int (-1), σ) := fun σ => by rw [pl_find hp, h]
    (repeat (first | (exact hf _) | (with_reducible exact e_cst) | (with_reducible apply e_fast) | (with_reducible apply e_cell) | (with_reducible exact e_cv) | (with_reducible exact get0) | (with_reducible apply getS) | (with_reducible exact e_sk) | (with_reducible exact e_brk) | (with_reducible exact e_argN) | (with_reducible apply e_seqK) | (with_reducible apply seqK_next) | (with_reducible exact seqK_ret) | (with_reducible exact seqK_brk) | (with_reducible apply selB_not) | (with_reducible refine selB_t (by assumption) ?_) | (with_reducible refine selB_f (by assumption) ?_) | (with_reducible refine selB_t (by rfl) ?_) | (with_reducible refine selB_f (by rfl) ?_) | (with_reducible apply e_ite) | (with_reducible apply e_b2) | (with_reducible apply e_truP) | (with_reducible exact ptru_bool) | (with_reducible exact ptru_int) | (with_reducible apply e_not) | (with_reducible apply e_and) | (with_reducible apply e_or) | (with_reducible exact e_tt) | (with_reducible exact e_ff) | (with_reducible apply e_argC) | (with_reducible apply e_call) | (with_reducible apply e_methK) | (with_reducible exact sel_str) | (with_reducible apply e_asgK) | (with_reducible apply e_asgCK) | (with_reducible apply e_augK) | (with_reducible apply e_ret) | (with_reducible apply e_drop) | (with_reducible apply e_negK) | (with_reducible apply e_assK) | (with_reducible apply e_pairK) | (with_reducible exact set0) | (with_reducible apply setS) | (with_reducible exact pl_add) | (with_reducible exact pl_sub) | (with_reducible exact pl_eq) | (with_reducible exact pl_ne) | (with_reducible exact pl_ge) | (with_reducible exact pl_iadd) | (with_reducible exact pl_isub) | (with_reducible exact pl_lt) | (with_reducible exact pl_gt) | (with_reducible exact some_rfl)))
    all_goals rfl
  · rename_i l' e
    rw [e] at h
    obtain ⟨k, r, h1, h2, h3⟩ := h
    have hf : ∀ σ : AS, findG [.str got, .str y, .int p, .int got.length] σ = some (.int k, σ) := fun σ => by rw [pl_find hp, h1]
    have hl : ∀ σ : AS, cmpG .Lt (.int (k : Int)) (.int 0) σ = some (.bool false, σ) := fun σ => by
      show some (AV.bool (decide ((k : Int) < 0)), σ) = _; rw [decide_eq_false (by omega)]
    have hlen : ∀ σ : AS, lenG [.str y] σ = some (.int y.length, σ) := fun σ => pl_lenS hy
    have : (got.length : Int) - l'.length = k + y.length := by
      rw [h3, List.length_drop]; have : got.cps.toList.length = got.length := by simp [Str.length]
      rw [this]; omega
    rw [this]
    (repeat (first | (exact hf _) | (exact hl _) | (exact hlen _) | (with_reducible exact e_cst) | (with_reducible apply e_fast) | (with_reducible apply e_cell) | (with_reducible exact e_cv) | (with_reducible exact get0) | (with_reducible apply getS) | (with_reducible exact e_sk) | (with_reducible exact e_brk) | (with_reducible exact e_argN) | (with_reducible apply e_seqK) | (with_reducible apply seqK_next) | (with_reducible exact seqK_ret) | (with_reducible exact seqK_brk) | (with_reducible apply selB_not) | (with_reducible refine selB_t (by assumption) ?_) | (with_reducible refine selB_f (by assumption) ?_) | (with_reducible refine selB_t (by rfl) ?_) | (with_reducible refine selB_f (by rfl) ?_) | (with_reducible apply e_ite) | (with_reducible apply e_b2) | (with_reducible apply e_truP) | (with_reducible exact ptru_bool) | (with_reducible exact ptru_int) | (with_reducible apply e_not) | (with_reducible apply e_and) | (with_reducible apply e_or) | (with_reducible exact e_tt) | (with_reducible exact e_ff) | (with_reducible apply e_argC) | (with_reducible apply e_call) | (with_reducible apply e_methK) | (with_reducible exact sel_str) | (with_reducible apply e_asgK) | (with_reducible apply e_asgCK) | (with_reducible apply e_augK) | (with_reducible apply e_ret) | (with_reducible apply e_drop) | (with_reducible apply e_negK) | (with_reducible apply e_assK) | (with_reducible apply e_pairK) | (with_reducible exact set0) | (with_reducible apply setS) | (with_reducible exact pl_add) | (with_reducible exact pl_sub) | (with_reducible exact pl_eq) | (with_reducible exact pl_ne) | (with_reducible exact pl_ge) | (with_reducible exact pl_iadd) | (with_reducible exact pl_isub) | (with_reducible exact pl_lt) | (with_reducible exact pl_gt) | (with_reducible exact some_rfl)))
theorem findS_len {y : List Nat} {l l' : List Nat} (h : findS y l = some l') : ∃ k, l' = l.drop k ∧ k ≤ l.length := by
  obtain ⟨k, h1, h2, _⟩ := findS_some h
  exact ⟨_, h2, h1⟩
theorem match_loop (want got : Str) (ws : List AV) : ∀ (r : List Str) (p : Nat) (w : Option AV), p ≤ got.length → (∀ y ∈ r, y.length ≤ 100000) → ∃ σ',
    forL (fun σ => decide (getFlat σ 0 = some ws)) match_b1 skA ((r.map .str).map (stV (.fast 5))) (matchS want got ws p got.length w) = (if loopS (r.map fun y => y.cps.toList) (got.cps.toList.drop p) = true then some (.next, σ') else some (.ret (.bool false), σ')) ∧ σ'.objs = [.flat ws]
  | [], p, w, hp, hr => ⟨_, rfl, rfl⟩
  | y :: r, p, w, hp, hr => by
    have hs := match_step want got y ws p hp (hr y (.head _))
    have hst : stV (.fast 5) (.str y) (matchS want got ws p got.length w) = some (matchS want got ws p got.length (some (.str y))) := rfl
    simp only [List.map_cons, forL, loopS, hst, hs]
    cases e : findS y.cps.toList (got.cps.toList.drop p) with
    | none => exact ⟨_, rfl, rfl⟩
    | some l' =>
      obtain ⟨k, e1, e2⟩ := findS_len e
      have hl : got.cps.toList.length = got.length := by simp [Str.length]
      rw [List.length_drop, hl] at e2
      rw [List.drop_drop] at e1
      have e3 : (got.length : Int) - l'.length = ((p + k : Nat) : Int) := by
        rw [e1, List.length_drop, hl]; omega
      obtain ⟨σ', ih, io⟩ := match_loop want got ws r (p + k) (some (.str y)) (by omega) (fun y hy => hr y (.tail _ hy))
      refine ⟨σ', ?_, io⟩
      rw [← e1] at ih
      simp only [e3]
      have hc : decide (getFlat (matchS want got ws ((p + k : Nat) : Int) got.length (some (.str y))) 0 = some ws) = true := decide_eq_true rfl
      rw [if_pos hc]
      exact ih
theorem defG_flat {np nref : Nat} {slots cslots : List (Option Nat)} {fb : AS → Option (AF × AS)} {as : List AV} {σ σc : AS} {v : AV} (h1 : as.length = np) (hs : selOf as = []) (hn : nref = 0) (hv : plainV v = true)
    (h : fb (iniB slots cslots (as.map (renum [])) []) = some (.ret v, σc)) : defG np nref slots cslots fb as σ = some (v, σ) := by
  have hm : mergeO [] σc.objs σ.objs = σ.objs := by
    delta mergeO
    exact List.ext_getElem (by simp) (by simp)
  have hc : as.length = np ∧ ([] : List Nat).length = nref ∧ (∀ i ∈ ([] : List Nat), i < σ.objs.length) ∧ ([] : List Nat).Nodup ∧ (pick σ.objs []).all movable = true :=
    ⟨h1, hn.symm, fun i hi => absurd hi List.not_mem_nil, List.nodup_nil, rfl⟩
  delta defG
  simp only [hs]
  rw [if_pos hc]
  have : pick σ.objs [] = [] := rfl
  rw [this, h]
  show retG [] σ v σc = _
  delta retG
  have ht : (σc.objs.take ([] : List Nat).length).all movable = true := rfl
  rw [if_pos ht, hm]
  cases v <;> first | rfl | cases hv
theorem match_eq (want got : Str) (r : List Str) (σ : AS) (h1 : (Builtin.Str.occurrences want "..." 0 want.length 1).isEmpty = false) (h2 : Txt.split want "..." = ⟨#[]⟩ :: (r ++ [⟨#[]⟩])) (hw : want.length ≤ 100000) (hg : got.length ≤ 100000)
    (hr : ∀ y ∈ r, y.length ≤ 100000) (hrl : r.length ≤ 1000) : match_g [.str want, .str got] σ = some (.bool (loopS (r.map fun y => y.cps.toList) got.cps.toList), σ) := by
  obtain ⟨σ', h, ho⟩ := match_loop want got ((Txt.split want "...").map .str) (Txt.split want "...") 0 (some (.str ⟨#[]⟩)) (by omega) (by
    rw [h2]; intro y hy
    rcases List.mem_cons.mp hy with rfl | hy
    · decide
    · rcases List.mem_append.mp hy with hy | hy
      · exact hr y hy
      · rw [List.mem_singleton.mp hy]; decide)
  have hlp : loopS ((Txt.split want "...").map fun y => y.cps.toList) (got.cps.toList.drop 0) = loopS (r.map fun y => y.cps.toList) got.cps.toList := by
    rw [h2]
    have f0 : ∀ l, findS [] l = some l := fun l => by cases l <;> simp [findS]
    have e : ∀ (q : List (List Nat)) l, loopS (q ++ [[]]) l = loopS q l := by
      intro q
      induction q with
      | nil => intro l; simp [loopS, f0]
      | cons a q ih => intro l; simp only [List.cons_append, loopS]; split <;> simp_all
    simp only [List.map_cons, List.map_append, List.map_nil, List.drop_zero]
    rw [show loopS (([] : List Nat) :: (r.map (fun y => y.cps.toList) ++ [[]])) got.cps.toList = loopS (r.map (fun y => y.cps.toList) ++ [[]]) got.cps.toList by simp [loopS, f0]]
    exact e _ _
  rw [hlp] at h
  have hb : match_f (iniB [some 0, some 1, none, none, none, none] [] [.str want, .str got] []) = some (.ret (.bool (loopS (r.map fun y => y.cps.toList) got.cps.toList)), σ') := by
    show match_f ⟨[some (.str want), some (.str got), none, none, none, none], none, []⟩ = _
    delta match_f
    have hd : ("..." : Str).length = 3 := by decide +kernel
    have a1 : ∀ σ : AS, cmpG .NotIn (.str "...") (.str want) σ = some (.bool false, σ) := fun σ => by
      show some (AV.bool (!(!(Builtin.Str.occurrences want "..." 0 want.length 1).isEmpty)), σ) = _; rw [h1]; rfl
    have a2 : ∀ l c, splitG [.str want, .str "..."] ⟨l, c, []⟩ = some (.ref 0, ⟨l, c, [.flat ((Txt.split want "...").map .str)]⟩) := fun l c => by
      delta splitG
      show (if (("..." : Str).length == 0) = false ∧ want.length ≤ 100000 then _ else none) = _
      rw [if_pos ⟨by rw [hd]; rfl, hw⟩]; rfl
    have a3 : ∀ σ : AS, lenG [.str got] σ = some (.int got.length, σ) := fun σ => pl_lenS hg
    have a4 : ∀ l c, lenG [.ref 0] ⟨l, c, [.flat ((Txt.split want "...").map .str)]⟩ = some (.int (((Txt.split want "...").map AV.str).length : Nat), ⟨l, c, [.flat ((Txt.split want "...").map .str)]⟩) := fun l c => by
      show (if ((Txt.split want "...").map AV.str).length ≤ 100000 then _ else none) = _
      rw [if_pos (by rw [h2]; simp; omega)]
    have hL : ((Txt.split want "...").map AV.str).length = r.length + 2 := by rw [h2]; simp
    have a5 : decide ((2 : Int) ≤ ((((Txt.split want "...").map AV.str).length : Nat) : Int)) = true := decide_eq_true (by rw [hL]; omega)
    have a6 : ∀ l c, subG (.ref 0) (.int 0) ⟨l, c, [.flat ((Txt.split want "...").map .str)]⟩ = some (.str ⟨#[]⟩, ⟨l, c, [.flat ((Txt.split want "...").map .str)]⟩) := fun l c => by
      rw [h2]; rfl
    have a7 : ∀ l c, subG (.ref 0) (.int (-1)) ⟨l, c, [.flat ((Txt.split want "...").map .str)]⟩ = some (.str ⟨#[]⟩, ⟨l, c, [.flat ((Txt.split want "...").map .str)]⟩) := fun l c => by
      have : atI ((Txt.split want "...").map AV.str) (-1) = some (.str ⟨#[]⟩) := by
        have e0 : ((-1 : Int) + ((r.length + 2 : Nat) : Int)).toNat = r.length + 1 := by omega
        delta atI
        rw [if_neg (by decide), hL, if_pos ⟨by omega, by omega⟩, e0, h2]
        simp
      simp only [subG, List.getElem?_cons_zero, this, Option.map_some]
    have a8 : ptru (.str ⟨#[]⟩) = some false := rfl
    have a9 : decide ((got.length : Int) < 0) = false := decide_eq_false (by omega)
    cases hX : loopS (r.map fun y => y.cps.toList) got.cps.toList
    all_goals
      simp only [hX, if_true, if_false, Bool.false_eq_true] at h
      have h' := e_for (fi := itA (.fast 5) (itListA (ldA (.fast 2)))) (σ := ⟨[some (.str want), some (.str got), some (.ref 0), some (.int 0), some (.int got.length), some (.str ⟨#[]⟩)], none, [.flat ((Txt.split want "...").map .str)]⟩) (e_itL (e_fast rfl) rfl) h
      clear h
      clear h2 hlp ho
      generalize (Txt.split want "...") = D at *
      (repeat (first | (exact a1 _) | (exact a2 _ _) | (exact a3 _) | (exact a4 _ _) | (exact a5) | (exact a6 _ _) | (exact a7 _ _) | (exact a8) | (exact h') | (with_reducible exact e_cst) | (with_reducible apply e_fast) | (with_reducible apply e_cell) | (with_reducible exact e_cv) | (with_reducible exact get0) | (with_reducible apply getS) | (with_reducible exact e_sk) | (with_reducible exact e_brk) | (with_reducible exact e_argN) | (with_reducible apply e_seqK) | (with_reducible apply seqK_next) | (with_reducible exact seqK_ret) | (with_reducible exact seqK_brk) | (with_reducible apply selB_not) | (with_reducible refine selB_t (by assumption) ?_) | (with_reducible refine selB_f (by assumption) ?_) | (with_reducible refine selB_t (by rfl) ?_) | (with_reducible refine selB_f (by rfl) ?_) | (with_reducible apply e_ite) | (with_reducible apply e_b2) | (with_reducible apply e_truP) | (with_reducible exact ptru_bool) | (with_reducible exact ptru_int) | (with_reducible apply e_not) | (with_reducible apply e_and) | (with_reducible apply e_or) | (with_reducible exact e_tt) | (with_reducible exact e_ff) | (with_reducible apply e_argC) | (with_reducible apply e_call) | (with_reducible apply e_methK) | (with_reducible exact sel_str) | (with_reducible apply e_asgK) | (with_reducible apply e_asgCK) | (with_reducible apply e_augK) | (with_reducible apply e_ret) | (with_reducible apply e_drop) | (with_reducible apply e_negK) | (with_reducible apply e_assK) | (with_reducible apply e_pairK) | (with_reducible exact set0) | (with_reducible apply setS) | (with_reducible exact pl_add) | (with_reducible exact pl_sub) | (with_reducible exact pl_eq) | (with_reducible exact pl_ne) | (with_reducible exact pl_ge) | (with_reducible exact pl_iadd) | (with_reducible exact pl_isub) | (with_reducible exact pl_lt) | (with_reducible exact pl_gt) | (with_reducible exact some_rfl)))
  delta match_g
  exact defG_flat rfl rfl rfl rfl hb
end Mine
-- part QS2
namespace Mine
noncomputable def stripGo : Option (List Nat) → Bool → List Nat → List Nat
  | none, _, [] => []
  | some acc, _, [] => acc
  | none, true, c :: r => c :: stripGo none false r
  | none, false, c :: r => if c = 92 then 92 :: stripGo none true r else if c = 34 then stripGo (some [34]) false r else c :: stripGo none false r
  | some acc, true, c :: r => stripGo (some (acc ++ [c])) false r
  | some acc, false, c :: r => if c = 92 then stripGo (some (acc ++ [92])) true r else if c = 34 then stripGo none false r else stripGo (some (acc ++ [c])) false r
noncomputable def countGo : Bool → Nat → List Nat → Bool
  | _, k, [] => k == 0
  | true, k, _ :: r => countGo false k r
  | false, k, c :: r => if c = 92 then countGo true k r else if c = 40 then countGo false (k + 1) r else if c = 41 then (match k with | 0 => false | j + 1 => countGo false j r) else countGo false k r
theorem stripGo_plain : ∀ (l : List Nat) (esc : Bool), 34 ∉ l → stripGo none esc l = l
  | [], esc, h => by simp [stripGo]
  | c :: r, true, h => by simp only [stripGo, stripGo_plain r false (fun q => h (.tail _ q))]
  | c :: r, false, h => by
    have hc : c ≠ 34 := fun e => h (by rw [e]; exact .head _)
    unfold stripGo
    rw [stripGo_plain r false (fun q => h (.tail _ q)), stripGo_plain r true (fun q => h (.tail _ q)), if_neg hc]
    split
    · rename_i e; rw [e]
    · rfl
theorem q34 : ("\"" : Str) = ⟨#[34]⟩ := by decide +kernel
theorem q40 : ("(" : Str) = ⟨#[40]⟩ := by decide +kernel
theorem q41 : (")" : Str) = ⟨#[41]⟩ := by decide +kernel
theorem q0 : ("" : Str) = ⟨#[]⟩ := by decide +kernel
theorem one_eq (c d : Nat) : ((⟨#[c]⟩ : Str) == ⟨#[d]⟩) = (c == d) := by
  rw [Bool.eq_iff_iff, beq_iff_eq, beq_iff_eq]
  constructor
  · intro h; injection h with h; injection h with h; injection h
  · rintro rfl; rfl
theorem two_ne (c d e : Nat) : ((⟨#[c, e]⟩ : Str) == ⟨#[d]⟩) = false := by
  rw [beq_eq_false_iff_ne]
  intro h; injection h with h; injection h with h; injection h with _ h; cases h
noncomputable def segN (x : Str) (a b : Nat) : List Nat := (x.cps.toList.drop a).take (b - a)
theorem seg_succ {x : Str} {pre r : List Nat} {c a n : Nat} (hx : x.cps.toList = pre ++ c :: r) (hn : pre.length = n) (ha : a ≤ n) : segN x a (n + 1) = segN x a n ++ [c] := by
  delta segN
  rw [Nat.succ_sub ha, List.take_add_one, List.getElem?_drop, Nat.add_sub_cancel' ha, hx]
  rw [List.getElem?_append_right (Nat.le_of_eq hn), hn, Nat.sub_self]; rfl
theorem seg_self {x : Str} {a : Nat} : segN x a a = [] := by simp [segN]
theorem seg_end {x : Str} {a n : Nat} (h : x.length ≤ n) : segN x a n = x.cps.toList.drop a := by
  delta segN
  refine List.take_of_length_le ?_
  rw [List.length_drop]; have : x.cps.toList.length = x.length := by simp [Str.length]
  omega
theorem slice_seg {x : Str} {a b : Nat} (h : a ≤ b) (hb : b ≤ x.length) : (Txt.slice x (some (a : Int)) (some (b : Int))).cps.toList = segN x a b := by
  have := StrLaws.sliceText_nat x h hb
  exact congrArg (fun s : Str => s.cps.toList) this
theorem slice_from {x : Str} {a : Nat} (h : a ≤ x.length) : (Txt.slice x (some (a : Int)) none).cps.toList = x.cps.toList.drop a := by
  have := StrLaws.sliceText_from (x := x) (i := a) ⟨by omega, by have : x.cps.toList.length = x.length := by simp [Str.length]
                                                                 omega⟩
  have e := congrArg (fun s : Str => s.cps.toList) this
  refine Eq.trans e ?_
  show (x.cps.toList.drop (a : Int).toNat).take _ = _
  rw [Int.toNat_natCast]
  refine List.take_of_length_le ?_
  rw [List.length_drop]; omega
theorem join_codes : ∀ (ss : List Str), (Txt.join ⟨#[]⟩ ss).cps.toList = (ss.map fun s => s.cps.toList).flatten := by
  intro ss
  show (Builtin.Str.glued ⟨#[]⟩ ss).cps.toList = _
  rw [StrLaws.glued_eq_join]
  induction ss with
  | nil => rfl
  | cons a r ih =>
    cases r with
    | nil => simp [Str.join]
    | cons b r =>
      show (a.cps ++ (#[] : Array Nat) ++ (Str.join ⟨#[]⟩ (b :: r)).cps).toList = _
      rw [Array.toList_append, Array.toList_append, ih]
      simp
noncomputable def stripS (x : Str) (st : Nat) (op : Option Nat) (res : List Str) (p c : Option AV) : AS := ⟨[some (.str x), some (.int st), some (match op with | none => .none | some o => .int (o : Int)), some (.ref 0), p, c], none, [.flat (res.map .str)]⟩
theorem sb_plain {x : Str} {st : Nat} {op : Option Nat} {res : List Str} {p : Option AV} {ch : Str} (h : (ch == ⟨#[34]⟩) = false) :
    strip_b1 (stripS x st op res p (some (.str ch))) = some (.next, stripS x st op res p (some (.str ch))) := by
  delta strip_b1 stripS
  rw [q34]
  have a1 : ∀ σ : AS, cmpG .Eq (.str ch) (.str ⟨#[34]⟩) σ = some (.bool false, σ) := fun σ => by show some (AV.bool (ch == ⟨#[34]⟩), σ) = _; rw [h]
  (repeat (first | (exact a1 _) | (exact e_fast rfl) | (exact e_cell rfl) | (with_reducible exact e_cst) | (with_reducible apply e_fast) | (with_reducible apply e_cell) | (with_reducible exact e_cv) | (with_reducible exact get0) | (with_reducible apply getS) | (with_reducible exact e_sk) | (with_reducible exact e_brk) | (with_reducible exact e_argN) | (with_reducible apply e_seqK) | (with_reducible apply seqK_next) | (with_reducible exact seqK_ret) | (with_reducible exact seqK_brk) | (with_reducible apply selB_not) | (with_reducible refine selB_t (by assumption) ?_) | (with_reducible refine selB_f (by assumption) ?_) | (with_reducible refine selB_t (by rfl) ?_) | (with_reducible refine selB_f (by rfl) ?_) | (with_reducible apply e_ite) | (with_reducible apply e_b2) | (with_reducible apply e_truP) | (with_reducible exact ptru_bool) | (with_reducible exact ptru_int) | (with_reducible apply e_not) | (with_reducible apply e_and) | (with_reducible apply e_or) | (with_reducible exact e_tt) | (with_reducible exact e_ff) | (with_reducible apply e_argC) | (with_reducible apply e_call) | (with_reducible apply e_methK) | (with_reducible exact sel_str) | (with_reducible apply e_asgK) | (with_reducible apply e_asgCK) | (with_reducible apply e_augK) | (with_reducible apply e_ret) | (with_reducible apply e_drop) | (with_reducible apply e_negK) | (with_reducible apply e_assK) | (with_reducible apply e_pairK) | (with_reducible exact set0) | (with_reducible apply setS) | (with_reducible exact pl_add) | (with_reducible exact pl_sub) | (with_reducible exact pl_eq) | (with_reducible exact pl_ne) | (with_reducible exact pl_ge) | (with_reducible exact pl_iadd) | (with_reducible exact pl_isub) | (with_reducible exact pl_lt) | (with_reducible exact pl_gt) | (with_reducible exact some_rfl)))
theorem sb_open {x : Str} {st n : Nat} {res : List Str} :
    strip_b1 (stripS x st none res (some (.int n)) (some (.str ⟨#[34]⟩))) = some (.next, stripS x st (some n) res (some (.int n)) (some (.str ⟨#[34]⟩))) := by
  delta strip_b1 stripS
  rw [q34]
  have a1 : ∀ σ : AS, cmpG .Eq (.str ⟨#[34]⟩) (.str ⟨#[34]⟩) σ = some (.bool true, σ) := fun σ => rfl
  have a2 : ∀ σ : AS, cmpG .Is .none .none σ = some (.bool true, σ) := fun σ => rfl
  (repeat (first | (exact a1 _) | (exact a2 _) | (exact e_fast rfl) | (exact e_cell rfl) | (with_reducible exact e_cst) | (with_reducible apply e_fast) | (with_reducible apply e_cell) | (with_reducible exact e_cv) | (with_reducible exact get0) | (with_reducible apply getS) | (with_reducible exact e_sk) | (with_reducible exact e_brk) | (with_reducible exact e_argN) | (with_reducible apply e_seqK) | (with_reducible apply seqK_next) | (with_reducible exact seqK_ret) | (with_reducible exact seqK_brk) | (with_reducible apply selB_not) | (with_reducible refine selB_t (by assumption) ?_) | (with_reducible refine selB_f (by assumption) ?_) | (with_reducible refine selB_t (by rfl) ?_) | (with_reducible refine selB_f (by rfl) ?_) | (with_reducible apply e_ite) | (with_reducible apply e_b2) | (with_reducible apply e_truP) | (with_reducible exact ptru_bool) | (with_reducible exact ptru_int) | (with_reducible apply e_not) | (with_reducible apply e_and) | (with_reducible apply e_or) | (with_reducible exact e_tt) | (with_reducible exact e_ff) | (with_reducible apply e_argC) | (with_reducible apply e_call) | (with_reducible apply e_methK) | (with_reducible exact sel_str) | (with_reducible apply e_asgK) | (with_reducible apply e_asgCK) | (with_reducible apply e_augK) | (with_reducible apply e_ret) | (with_reducible apply e_drop) | (with_reducible apply e_negK) | (with_reducible apply e_assK) | (with_reducible apply e_pairK) | (with_reducible exact set0) | (with_reducible apply setS) | (with_reducible exact pl_add) | (with_reducible exact pl_sub) | (with_reducible exact pl_eq) | (with_reducible exact pl_ne) | (with_reducible exact pl_ge) | (with_reducible exact pl_iadd) | (with_reducible exact pl_isub) | (with_reducible exact pl_lt) | (with_reducible exact pl_gt) | (with_reducible exact some_rfl)))
theorem sb_close {x : Str} {st o n : Nat} {res : List Str} (hx : x.length ≤ 100000) (hr : res.length ≤ 100000) :
    strip_b1 (stripS x st (some o) res (some (.int n)) (some (.str ⟨#[34]⟩))) = some (.next, stripS x (n + 1) none (if st = o then res else res ++ [Txt.slice x (some (st : Int)) (some (o : Int))]) (some (.int n)) (some (.str ⟨#[34]⟩))) := by
  delta strip_b1 stripS
  rw [q34]
  have a1 : ∀ σ : AS, cmpG .Eq (.str ⟨#[34]⟩) (.str ⟨#[34]⟩) σ = some (.bool true, σ) := fun σ => rfl
  have a2 : ∀ (i : Int) (σ : AS), cmpG .Is (.int i) .none σ = some (.bool false, σ) := fun i σ => rfl
  have a4 : ∀ l, cutA none (ldA (.fast 0)) (ptS (ldA (.fast 1))) (ptS (ldA (.fast 2))) ⟨some (.str x) :: some (.int st) :: some (.int o) :: l, none, [.flat (res.map .str)]⟩ = some (.str (Txt.slice x (some (st : Int)) (some (o : Int))), ⟨some (.str x) :: some (.int st) :: some (.int o) :: l, none, [.flat (res.map .str)]⟩) := fun l => by
    show (if x.length ≤ 100000 then _ else _) = _
    rw [if_pos hx]
  have a5 : ∀ (s : Str) l, appendG [.ref 0, .str s] ⟨l, none, [.flat (res.map .str)]⟩ = some (.none, ⟨l, none, [.flat ((res ++ [s]).map .str)]⟩) := fun s l => by
    show (if plainV (.str s) = true ∧ (res.map AV.str).length ≤ 100000 then _ else _) = _
    rw [if_pos ⟨rfl, by rw [List.length_map]; exact hr⟩, List.map_append]; rfl
  have a6 : ∀ l, isListV (.ref 0) ⟨l, none, [.flat (res.map .str)]⟩ = true := fun l => rfl
  have a7 : ((n + 1 : Nat) : Int) = (n : Int) + 1 := by omega
  rw [a7]
  by_cases e : st = o
  · have a3 : ((st : Int) != (o : Int)) = false := by rw [e]; simp
    rw [if_pos e]
    (repeat (first | (exact a1 _) | (exact a2 _ _) | (exact a4 _) | (exact a5 _ _) | (exact a6 _) | (exact e_fast rfl) | (exact e_cell rfl) | (with_reducible exact e_cst) | (with_reducible apply e_fast) | (with_reducible apply e_cell) | (with_reducible exact e_cv) | (with_reducible exact get0) | (with_reducible apply getS) | (with_reducible exact e_sk) | (with_reducible exact e_brk) | (with_reducible exact e_argN) | (with_reducible apply e_seqK) | (with_reducible apply seqK_next) | (with_reducible exact seqK_ret) | (with_reducible exact seqK_brk) | (with_reducible apply selB_not) | (with_reducible refine selB_t (by assumption) ?_) | (with_reducible refine selB_f (by assumption) ?_) | (with_reducible refine selB_t (by rfl) ?_) | (with_reducible refine selB_f (by rfl) ?_) | (with_reducible apply e_ite) | (with_reducible apply e_b2) | (with_reducible apply e_truP) | (with_reducible exact ptru_bool) | (with_reducible exact ptru_int) | (with_reducible apply e_not) | (with_reducible apply e_and) | (with_reducible apply e_or) | (with_reducible exact e_tt) | (with_reducible exact e_ff) | (with_reducible apply e_argC) | (with_reducible apply e_call) | (with_reducible apply e_methK) | (with_reducible exact sel_str) | (with_reducible apply e_asgK) | (with_reducible apply e_asgCK) | (with_reducible apply e_augK) | (with_reducible apply e_ret) | (with_reducible apply e_drop) | (with_reducible apply e_negK) | (with_reducible apply e_assK) | (with_reducible apply e_pairK) | (with_reducible exact set0) | (with_reducible apply setS) | (with_reducible exact pl_add) | (with_reducible exact pl_sub) | (with_reducible exact pl_eq) | (with_reducible exact pl_ne) | (with_reducible exact pl_ge) | (with_reducible exact pl_iadd) | (with_reducible exact pl_isub) | (with_reducible exact pl_lt) | (with_reducible exact pl_gt) | (with_reducible exact some_rfl)))
  · have a3 : ((st : Int) != (o : Int)) = true := by simp; omega
    rw [if_neg e]
    (repeat (first | (exact a1 _) | (exact a2 _ _) | (exact a4 _) | (exact a5 _ _) | (exact a6 _) | (exact e_fast rfl) | (exact e_cell rfl) | (with_reducible exact e_cst) | (with_reducible apply e_fast) | (with_reducible apply e_cell) | (with_reducible exact e_cv) | (with_reducible exact get0) | (with_reducible apply getS) | (with_reducible exact e_sk) | (with_reducible exact e_brk) | (with_reducible exact e_argN) | (with_reducible apply e_seqK) | (with_reducible apply seqK_next) | (with_reducible exact seqK_ret) | (with_reducible exact seqK_brk) | (with_reducible apply selB_not) | (with_reducible refine selB_t (by assumption) ?_) | (with_reducible refine selB_f (by assumption) ?_) | (with_reducible refine selB_t (by rfl) ?_) | (with_reducible refine selB_f (by rfl) ?_) | (with_reducible apply e_ite) | (with_reducible apply e_b2) | (with_reducible apply e_truP) | (with_reducible exact ptru_bool) | (with_reducible exact ptru_int) | (with_reducible apply e_not) | (with_reducible apply e_and) | (with_reducible apply e_or) | (with_reducible exact e_tt) | (with_reducible exact e_ff) | (with_reducible apply e_argC) | (with_reducible apply e_call) | (with_reducible apply e_methK) | (with_reducible exact sel_str) | (with_reducible apply e_asgK) | (with_reducible apply e_asgCK) | (with_reducible apply e_augK) | (with_reducible apply e_ret) | (with_reducible apply e_drop) | (with_reducible apply e_negK) | (with_reducible apply e_assK) | (with_reducible apply e_pairK) | (with_reducible exact set0) | (with_reducible apply setS) | (with_reducible exact pl_add) | (with_reducible exact pl_sub) | (with_reducible exact pl_eq) | (with_reducible exact pl_ne) | (with_reducible exact pl_ge) | (with_reducible exact pl_iadd) | (with_reducible exact pl_isub) | (with_reducible exact pl_lt) | (with_reducible exact pl_gt) | (with_reducible exact some_rfl)))
noncomputable def stripR (x : Str) (st n : Nat) (op : Option Nat) (esc : Bool) (l : List Nat) : List Nat := match op with
  | none => segN x st n ++ stripGo none esc l
  | some o => segN x st o ++ stripGo (some (segN x o n)) esc l
noncomputable def joinL (res : List Str) : List Nat := (res.map fun s => s.cps.toList).flatten
theorem len_snoc {pre : List Nat} {a n : Nat} (h : pre.length = n) : (pre ++ [a]).length = n + 1 := by rw [List.length_append, h]; rfl
theorem strip_loop {x : Str} (hx : x.length ≤ 100000) : ∀ (l : List Nat) (pre : List Nat) (esc : Bool) (n st : Nat) (op : Option Nat) (res : List Str) (p c : Option AV), x.cps.toList = pre ++ l → pre.length = n → (∀ o, op = some o → st ≤ o ∧ o < n) → (op = none → st ≤ n) → st ≤ x.length → res.length ≤ n →
    ∃ st' op' res' p' c', forL (fun _ => true) strip_b1 skA ((escGo esc n l).map (escBind (.fast 4) (.fast 5))) (stripS x st op res p c) = some (.next, stripS x st' op' res' p' c') ∧ st' ≤ x.length ∧ res'.length ≤ x.length ∧
      joinL res' ++ x.cps.toList.drop st' = joinL res ++ stripR x st n op esc l
  | [], pre, esc, n, st, op, res, p, c, h1, h2, h3, h4, h5, h6 => by
    have hl : x.length = n := by
      have := congrArg List.length h1
      simp at this
      rw [← h2, ← this]; rfl
    have fin : joinL res ++ x.cps.toList.drop st = joinL res ++ stripR x st n op esc [] := by
      congr 1
      delta stripR
      cases op with
      | none => simp only [stripGo, List.append_nil]; rw [seg_end (by omega)]
      | some o =>
        obtain ⟨e1, e2⟩ := h3 o rfl
        simp only [stripGo]
        rw [seg_end (a := o) (n := n) (by omega)]
        delta segN
        rw [show x.cps.toList.drop o = (x.cps.toList.drop st).drop (o - st) by rw [List.drop_drop]; congr 1; omega]
        rw [List.take_append_drop]
    cases esc with
    | false => exact ⟨st, op, res, p, c, rfl, h5, by omega, fin⟩
    | true =>
      refine ⟨st, op, res, some (.int ((n : Int) - 1)), some (.str ⟨#[92]⟩), ?_, h5, by omega, fin⟩
      have e1 : escBind (.fast 4) (.fast 5) ((n : Int) - 1, ⟨#[92]⟩) (stripS x st op res p c) = some (stripS x st op res (some (.int ((n : Int) - 1))) (some (.str ⟨#[92]⟩))) := rfl
      have e2 := sb_plain (x := x) (st := st) (op := op) (res := res) (p := some (.int ((n : Int) - 1))) (ch := ⟨#[92]⟩) (by decide)
      simp only [escGo, if_true, List.map_cons, List.map_nil, forL, e1, e2, skA]
  | a :: r, pre, true, n, st, op, res, p, c, h1, h2, h3, h4, h5, h6 => by
    have e1 : escBind (.fast 4) (.fast 5) ((n : Int), ⟨#[92, a]⟩) (stripS x st op res p c) = some (stripS x st op res (some (.int n)) (some (.str ⟨#[92, a]⟩))) := rfl
    have e2 := sb_plain (x := x) (st := st) (op := op) (res := res) (p := some (.int (n : Int))) (ch := ⟨#[92, a]⟩) (two_ne _ _ _)
    obtain ⟨st', op', res', p', c', q1, q2, q3, q4⟩ := strip_loop hx r (pre ++ [a]) false (n + 1) st op res (some (.int n)) (some (.str ⟨#[92, a]⟩)) (h1.trans (List.append_cons _ _ _)) (len_snoc h2) (fun o ho => ⟨(h3 o ho).1, Nat.lt_succ_of_lt (h3 o ho).2⟩) (fun ho => Nat.le_succ_of_le (h4 ho)) h5 (Nat.le_succ_of_le h6)
    refine ⟨st', op', res', p', c', ?_, q2, q3, ?_⟩
    · simp only [escGo, List.map_cons, forL, e1, e2, if_true]
      exact q1
    · rw [q4]; congr 1
      delta stripR
      cases op with
      | none => simp only [stripGo]; rw [seg_succ h1 h2 (h4 rfl)]; simp
      | some o => simp only [stripGo]; rw [seg_succ h1 h2 (by have := (h3 o rfl).2; omega)]
  | a :: r, pre, false, n, st, op, res, p, c, h1, h2, h3, h4, h5, h6 => by
    have hn : n < x.length := by
      have := congrArg List.length h1
      simp at this
      have q : x.length = x.cps.size := rfl
      omega
    by_cases ha : a = 92
    · obtain ⟨st', op', res', p', c', q1, q2, q3, q4⟩ := strip_loop hx r (pre ++ [a]) true (n + 1) st op res p c (h1.trans (List.append_cons _ _ _)) (len_snoc h2) (fun o ho => ⟨(h3 o ho).1, Nat.lt_succ_of_lt (h3 o ho).2⟩) (fun ho => Nat.le_succ_of_le (h4 ho)) h5 (Nat.le_succ_of_le h6)
      refine ⟨st', op', res', p', c', ?_, q2, q3, ?_⟩
      · unfold escGo; rw [if_pos ha]; exact q1
      · rw [q4]; congr 1
        delta stripR
        subst ha
        cases op with
        | none => simp only [stripGo]; rw [seg_succ h1 h2 (h4 rfl), if_pos trivial]; simp
        | some o => simp only [stripGo]; rw [seg_succ h1 h2 (by have := (h3 o rfl).2; omega), if_pos trivial]
    · have e1 : escBind (.fast 4) (.fast 5) ((n : Int), ⟨#[a]⟩) (stripS x st op res p c) = some (stripS x st op res (some (.int n)) (some (.str ⟨#[a]⟩))) := rfl
      by_cases hb : a = 34
      · subst hb
        cases op with
        | none =>
          have e2 := sb_open (x := x) (st := st) (res := res) (n := n)
          obtain ⟨st', op', res', p', c', q1, q2, q3, q4⟩ := strip_loop hx r (pre ++ [34]) false (n + 1) st (some n) res (some (.int n)) (some (.str ⟨#[34]⟩)) (h1.trans (List.append_cons _ _ _)) (len_snoc h2) (fun o ho => by cases ho; exact ⟨h4 rfl, by omega⟩) (fun ho => nomatch ho) h5 (Nat.le_succ_of_le h6)
          refine ⟨st', op', res', p', c', ?_, q2, q3, ?_⟩
          · simp only [escGo, ha, if_false, List.map_cons, forL, e1, e2, if_true]
            exact q1
          · rw [q4]; congr 1
            delta stripR
            simp only [stripGo, ha, if_false, if_true]
            rw [seg_succ h1 h2 (Nat.le_refl _), seg_self]; rfl
        | some o =>
          obtain ⟨o1, o2⟩ := h3 o rfl
          have e2 := sb_close (x := x) (st := st) (o := o) (n := n) (res := res) hx (by omega)
          obtain ⟨st', op', res', p', c', q1, q2, q3, q4⟩ := strip_loop hx r (pre ++ [34]) false (n + 1) (n + 1) none (if st = o then res else res ++ [Txt.slice x (some (st : Int)) (some (o : Int))]) (some (.int n)) (some (.str ⟨#[34]⟩)) (h1.trans (List.append_cons _ _ _)) (len_snoc h2) (fun o ho => nomatch ho) (fun ho => Nat.le_refl _) (by omega) (by split; (· omega); (· rw [List.length_append]; simp; omega))
          refine ⟨st', op', res', p', c', ?_, q2, q3, ?_⟩
          · simp only [escGo, ha, if_false, List.map_cons, forL, e1, e2, if_true]
            exact q1
          · rw [q4]
            delta stripR
            simp only [stripGo, ha, if_false, if_true]
            rw [seg_self]
            split
            · rename_i e; rw [e, seg_self]
            · delta joinL
              rw [List.map_append, List.flatten_append]
              simp only [List.map_cons, List.map_nil, List.flatten_cons, List.flatten_nil, List.append_nil]
              rw [slice_seg o1 (by omega)]
              simp
      · have e2 := sb_plain (x := x) (st := st) (op := op) (res := res) (p := some (.int (n : Int))) (ch := ⟨#[a]⟩) (by rw [one_eq]; simpa using hb)
        obtain ⟨st', op', res', p', c', q1, q2, q3, q4⟩ := strip_loop hx r (pre ++ [a]) false (n + 1) st op res (some (.int n)) (some (.str ⟨#[a]⟩)) (h1.trans (List.append_cons _ _ _)) (len_snoc h2) (fun o ho => ⟨(h3 o ho).1, Nat.lt_succ_of_lt (h3 o ho).2⟩) (fun ho => Nat.le_succ_of_le (h4 ho)) h5 (Nat.le_succ_of_le h6)
        refine ⟨st', op', res', p', c', ?_, q2, q3, ?_⟩
        · simp only [escGo, ha, if_false, List.map_cons, forL, e1, e2, if_true]
          exact q1
        · rw [q4]; congr 1
          delta stripR
          cases op with
          | none => simp only [stripGo, ha, hb, if_false]; rw [seg_succ h1 h2 (h4 rfl)]; simp
          | some o => simp only [stripGo, ha, hb, if_false]; rw [seg_succ h1 h2 (by have := (h3 o rfl).2; omega)]

theorem pl_dd {x : Str} {σ : AS} : cmpG .NotIn (.str ⟨#[34]⟩) (.str x) σ = some (.bool (Builtin.Str.occurrences x ⟨#[34]⟩ 0 x.length 1).isEmpty, σ) := by
  show some (AV.bool (!(!(Builtin.Str.occurrences x ⟨#[34]⟩ 0 x.length 1).isEmpty)), σ) = _; rw [Bool.not_not]
theorem findS_mem : ∀ {l : List Nat} {c : Nat}, findS [c] l = none → c ∉ l
  | [], c, h => List.not_mem_nil
  | a :: l, c, h => by
    unfold findS at h
    split at h
    · cases h
    · rename_i hn
      intro hm
      rcases List.mem_cons.mp hm with e | e
      · exact hn (by rw [e]; simp)
      · exact findS_mem h e
theorem stripGo_len : ∀ (l : List Nat) (o : Option (List Nat)) (esc : Bool), (stripGo o esc l).length ≤ (o.elim 0 List.length) + l.length
  | [], none, _ => by simp [stripGo]
  | [], some acc, _ => by simp [stripGo]
  | c :: r, none, true => by have := stripGo_len r none false; simp only [stripGo, List.length_cons, Option.elim] at this ⊢; omega
  | c :: r, none, false => by
    have h1 := stripGo_len r none false
    have h2 := stripGo_len r none true
    have h3 := stripGo_len r (some [34]) false
    simp only [stripGo, Option.elim, List.length_cons, List.length_nil] at h1 h2 h3 ⊢
    split
    · simp only [List.length_cons]; omega
    · split
      · omega
      · simp only [List.length_cons]; omega
  | c :: r, some acc, true => by have := stripGo_len r (some (acc ++ [c])) false; simp only [stripGo, List.length_cons, List.length_append, List.length_nil, Option.elim] at this ⊢; omega
  | c :: r, some acc, false => by
    have h1 := stripGo_len r (some (acc ++ [c])) false
    have h2 := stripGo_len r (some (acc ++ [92])) true
    have h3 := stripGo_len r none false
    simp only [stripGo, Option.elim, List.length_append, List.length_cons, List.length_nil] at h1 h2 h3 ⊢
    split
    · omega
    · split <;> omega
theorem strsOf_map : ∀ (res : List Str), strsOf (res.map .str) = some res
  | [] => rfl
  | a :: r => by simp only [List.map_cons, strsOf, strsOf_map r, Option.map_some]
theorem joinL_len : ∀ (res : List Str), (joinL res).length = (res.map fun s : Str => s.length).sum
  | [] => rfl
  | a :: r => by
    have := joinL_len r
    unfold joinL at this ⊢
    simp only [List.map_cons, List.flatten_cons, List.length_append, List.sum_cons, this]
    rfl
theorem pl_join {res : List Str} {i : Nat} {σ : AS} (h : σ.objs[i]? = some (.flat (res.map .str))) (h1 : (joinL res).length ≤ 200000) (h2 : res.length ≤ 200000) : joinG [.str ⟨#[]⟩, .ref i] σ = some (.str ⟨(joinL res).toArray⟩, σ) := by
  have hok : JoinOk ⟨#[]⟩ res = true := joinOk_of_weight (by rw [joinL_len] at h1; show (res.map fun s => s.length).sum + _ ≤ _; omega) (Nat.zero_le _)
  have hj : Txt.join ⟨#[]⟩ res = ⟨(joinL res).toArray⟩ := by
    apply Str.ext'
    apply Array.toList_inj.mp
    rw [join_codes]; rfl
  have hg : (getFlat σ i).bind strsOf = some res := by
    delta getFlat; rw [h]; exact strsOf_map res
  show (match (getFlat σ i).bind strsOf with
    | some ss => if JoinOk ⟨#[]⟩ ss = true then some (AV.str (Txt.join ⟨#[]⟩ ss), σ) else none
    | none => none) = _
  rw [hg]
  show (if JoinOk ⟨#[]⟩ res = true then _ else _) = _
  rw [if_pos hok, hj]
theorem strip_eq (x : Str) (hx : x.length ≤ 100000) (σ : AS) : strip_g [.str x] σ = some (.str ⟨(stripGo none false x.cps.toList).toArray⟩, σ) := by
  obtain ⟨σ', h⟩ : ∃ σ', strip_f (iniB [some 0, none, none, none, none, none] [] [.str x] []) = some (.ret (.str ⟨(stripGo none false x.cps.toList).toArray⟩), σ') := by
    show ∃ σ', strip_f ⟨[some (.str x), none, none, none, none, none], none, []⟩ = _
    delta strip_f
    rw [q34]
    cases hq : (Builtin.Str.occurrences x ⟨#[34]⟩ 0 x.length 1).isEmpty
    · obtain ⟨st, op, res, p, c, q1, q2, q3, q4⟩ := strip_loop hx x.cps.toList [] false 0 0 none [] none none rfl rfl (fun o ho => nomatch ho) (fun _ => Nat.le_refl _) (Nat.zero_le _) (Nat.le_refl _)
      have q4' : joinL res ++ x.cps.toList.drop st = stripGo none false x.cps.toList := by
        rw [q4]; delta stripR; rw [seg_self]; rfl
      have h' : forA (itEscA (.fast 4) (.fast 5) (argC (ldA (.fast 0)) argN)) strip_b1 skA ⟨[some (.str x), some (.int 0), some .none, some (.ref 0), none, none], none, [.flat []]⟩ = some (.next, stripS x st op res p c) := q1
      have a0 : ∀ σ : AS, cmpG .NotIn (.str ⟨#[34]⟩) (.str x) σ = some (.bool false, σ) := fun σ => by rw [pl_dd, hq]
      have a1 : ∀ l, listA argN ⟨l, none, []⟩ = some (.ref 0, ⟨l, none, [.flat []]⟩) := fun l => rfl
      have a2 : ∀ σ : AS, lenG [.str x] σ = some (.int x.length, σ) := fun σ => pl_lenS hx
      have a3 : cutA none (ldA (.fast 0)) (ptS (ldA (.fast 1))) ptN (stripS x st op res p c) = some (.str (Txt.slice x (some (st : Int)) none), stripS x st op res p c) := by
        show (if x.length ≤ 100000 then _ else _) = _
        rw [if_pos hx]
      have a5 : ∀ (s : Str), appendG [.ref 0, .str s] (stripS x st op res p c) = some (.none, stripS x st op (res ++ [s]) p c) := fun s => by
        show (if plainV (.str s) = true ∧ (res.map AV.str).length ≤ 100000 then _ else _) = _
        rw [if_pos ⟨rfl, by rw [List.length_map]; omega⟩]
        delta stripS
        rw [List.map_append]; rfl
      have a6 : isListV (.ref 0) (stripS x st op res p c) = true := rfl
      have a7 : ldA (.fast 3) (stripS x st op res p c) = some (.ref 0, stripS x st op res p c) := rfl
      have hlen := stripGo_len x.cps.toList none false
      have hxl : x.cps.toList.length = x.length := rfl
      simp only [Option.elim, Nat.zero_add] at hlen
      by_cases hs : st < x.length
      · have b1 : decide ((st : Int) < (x.length : Int)) = true := decide_eq_true (by omega)
        have hj : joinL (res ++ [Txt.slice x (some (st : Int)) none]) = stripGo none false x.cps.toList := by
          rw [← q4']
          delta joinL
          rw [List.map_append, List.flatten_append]
          simp only [List.map_cons, List.map_nil, List.flatten_cons, List.flatten_nil, List.append_nil]
          rw [slice_from q2]
        have a8 : joinG [.str ⟨#[]⟩, .ref 0] (stripS x st op (res ++ [Txt.slice x (some (st : Int)) none]) p c) = some (.str ⟨(stripGo none false x.cps.toList).toArray⟩, stripS x st op (res ++ [Txt.slice x (some (st : Int)) none]) p c) := by
          rw [← hj]
          exact pl_join rfl (by rw [hj]; omega) (by simp; omega)
        refine ⟨stripS x st op (res ++ [Txt.slice x (some (st : Int)) none]) p c, ?_⟩
        (repeat (first | (exact a0 _) | (exact a1 _) | (exact h') | (exact a2 _) | (exact a3) | (exact a5 _) | (exact a6) | (exact a7) | (exact a8) | (exact b1) | (exact e_fast rfl) | (exact e_cell rfl) | (with_reducible exact e_cst) | (with_reducible apply e_fast) | (with_reducible apply e_cell) | (with_reducible exact e_cv) | (with_reducible exact get0) | (with_reducible apply getS) | (with_reducible exact e_sk) | (with_reducible exact e_brk) | (with_reducible exact e_argN) | (with_reducible apply e_seqK) | (with_reducible apply seqK_next) | (with_reducible exact seqK_ret) | (with_reducible exact seqK_brk) | (with_reducible apply selB_not) | (with_reducible refine selB_t (by assumption) ?_) | (with_reducible refine selB_f (by assumption) ?_) | (with_reducible refine selB_t (by rfl) ?_) | (with_reducible refine selB_f (by rfl) ?_) | (with_reducible apply e_ite) | (with_reducible apply e_b2) | (with_reducible apply e_truP) | (with_reducible exact ptru_bool) | (with_reducible exact ptru_int) | (with_reducible apply e_not) | (with_reducible apply e_and) | (with_reducible apply e_or) | (with_reducible exact e_tt) | (with_reducible exact e_ff) | (with_reducible apply e_argC) | (with_reducible apply e_call) | (with_reducible apply e_methK) | (with_reducible exact sel_str) | (with_reducible apply e_asgK) | (with_reducible apply e_asgCK) | (with_reducible apply e_augK) | (with_reducible apply e_ret) | (with_reducible apply e_drop) | (with_reducible apply e_negK) | (with_reducible apply e_assK) | (with_reducible apply e_pairK) | (with_reducible exact set0) | (with_reducible apply setS) | (with_reducible exact pl_add) | (with_reducible exact pl_sub) | (with_reducible exact pl_eq) | (with_reducible exact pl_ne) | (with_reducible exact pl_ge) | (with_reducible exact pl_iadd) | (with_reducible exact pl_isub) | (with_reducible exact pl_lt) | (with_reducible exact pl_gt) | (with_reducible exact some_rfl)))
      · have b1 : decide ((st : Int) < (x.length : Int)) = false := decide_eq_false (by omega)
        have hj : joinL res = stripGo none false x.cps.toList := by
          rw [← q4', List.drop_of_length_le (by omega), List.append_nil]
        have a8 : joinG [.str ⟨#[]⟩, .ref 0] (stripS x st op res p c) = some (.str ⟨(stripGo none false x.cps.toList).toArray⟩, stripS x st op res p c) := by
          rw [← hj]
          exact pl_join rfl (by rw [hj]; omega) (by omega)
        refine ⟨stripS x st op res p c, ?_⟩
        (repeat (first | (exact a0 _) | (exact a1 _) | (exact h') | (exact a2 _) | (exact a3) | (exact a5 _) | (exact a6) | (exact a7) | (exact a8) | (exact b1) | (exact e_fast rfl) | (exact e_cell rfl) | (with_reducible exact e_cst) | (with_reducible apply e_fast) | (with_reducible apply e_cell) | (with_reducible exact e_cv) | (with_reducible exact get0) | (with_reducible apply getS) | (with_reducible exact e_sk) | (with_reducible exact e_brk) | (with_reducible exact e_argN) | (with_reducible apply e_seqK) | (with_reducible apply seqK_next) | (with_reducible exact seqK_ret) | (with_reducible exact seqK_brk) | (with_reducible apply selB_not) | (with_reducible refine selB_t (by assumption) ?_) | (with_reducible refine selB_f (by assumption) ?_) | (with_reducible refine selB_t (by rfl) ?_) | (with_reducible refine selB_f (by rfl) ?_) | (with_reducible apply e_ite) | (with_reducible apply e_b2) | (with_reducible apply e_truP) | (with_reducible exact ptru_bool) | (with_reducible exact ptru_int) | (with_reducible apply e_not) | (with_reducible apply e_and) | (with_reducible apply e_or) | (with_reducible exact e_tt) | (with_reducible exact e_ff) | (with_reducible apply e_argC) | (with_reducible apply e_call) | (with_reducible apply e_methK) | (with_reducible exact sel_str) | (with_reducible apply e_asgK) | (with_reducible apply e_asgCK) | (with_reducible apply e_augK) | (with_reducible apply e_ret) | (with_reducible apply e_drop) | (with_reducible apply e_negK) | (with_reducible apply e_assK) | (with_reducible apply e_pairK) | (with_reducible exact set0) | (with_reducible apply setS) | (with_reducible exact pl_add) | (with_reducible exact pl_sub) | (with_reducible exact pl_eq) | (with_reducible exact pl_ne) | (with_reducible exact pl_ge) | (with_reducible exact pl_iadd) | (with_reducible exact pl_isub) | (with_reducible exact pl_lt) | (with_reducible exact pl_gt) | (with_reducible exact some_rfl)))
    · have a0 : ∀ σ : AS, cmpG .NotIn (.str ⟨#[34]⟩) (.str x) σ = some (.bool true, σ) := fun σ => by rw [pl_dd, hq]
      have hn : findS [34] (x.cps.toList.drop 0) = none := by
        have := occ_find x ⟨#[34]⟩ 0 (Nat.zero_le _)
        cases e : findS [34] (x.cps.toList.drop 0) with
        | none => rfl
        | some l' =>
          have e' : findS (⟨#[34]⟩ : Str).cps.toList (x.cps.toList.drop 0) = some l' := e
          rw [e'] at this
          obtain ⟨k, r, h1, _⟩ := this
          rw [h1] at hq; cases hq
      have hm : 34 ∉ x.cps.toList := findS_mem hn
      rw [stripGo_plain _ _ hm]
      have hxx : (⟨x.cps.toList.toArray⟩ : Str) = x := by cases x; simp
      rw [hxx]
      refine ⟨⟨[some (.str x), none, none, none, none, none], none, []⟩, ?_⟩
      (repeat (first | (exact a0 _) | (exact e_fast rfl) | (exact e_cell rfl) | (with_reducible exact e_cst) | (with_reducible apply e_fast) | (with_reducible apply e_cell) | (with_reducible exact e_cv) | (with_reducible exact get0) | (with_reducible apply getS) | (with_reducible exact e_sk) | (with_reducible exact e_brk) | (with_reducible exact e_argN) | (with_reducible apply e_seqK) | (with_reducible apply seqK_next) | (with_reducible exact seqK_ret) | (with_reducible exact seqK_brk) | (with_reducible apply selB_not) | (with_reducible refine selB_t (by assumption) ?_) | (with_reducible refine selB_f (by assumption) ?_) | (with_reducible refine selB_t (by rfl) ?_) | (with_reducible refine selB_f (by rfl) ?_) | (with_reducible apply e_ite) | (with_reducible apply e_b2) | (with_reducible apply e_truP) | (with_reducible exact ptru_bool) | (with_reducible exact ptru_int) | (with_reducible apply e_not) | (with_reducible apply e_and) | (with_reducible apply e_or) | (with_reducible exact e_tt) | (with_reducible exact e_ff) | (with_reducible apply e_argC) | (with_reducible apply e_call) | (with_reducible apply e_methK) | (with_reducible exact sel_str) | (with_reducible apply e_asgK) | (with_reducible apply e_asgCK) | (with_reducible apply e_augK) | (with_reducible apply e_ret) | (with_reducible apply e_drop) | (with_reducible apply e_negK) | (with_reducible apply e_assK) | (with_reducible apply e_pairK) | (with_reducible exact set0) | (with_reducible apply setS) | (with_reducible exact pl_add) | (with_reducible exact pl_sub) | (with_reducible exact pl_eq) | (with_reducible exact pl_ne) | (with_reducible exact pl_ge) | (with_reducible exact pl_iadd) | (with_reducible exact pl_isub) | (with_reducible exact pl_lt) | (with_reducible exact pl_gt) | (with_reducible exact some_rfl)))
  delta strip_g
  exact defG_flat rfl rfl rfl rfl h
end Mine
-- part QS3
namespace Mine
noncomputable def checkS (x : Str) (k : Int) (p c : Option AV) : AS := ⟨[some (.str x), some (.int k), p, c], none, []⟩
theorem cb_plain {x : Str} {k : Int} {p : Option AV} {ch : Str} (h : (ch == ⟨#[40]⟩) = false) (h2 : (ch == ⟨#[41]⟩) = false) : check_b1 (checkS x k p (some (.str ch))) = some (.next, checkS x k p (some (.str ch))) := by
  delta check_b1 checkS
  rw [q40, q41]
  have a1 : ∀ σ : AS, cmpG .Eq (.str ch) (.str ⟨#[40]⟩) σ = some (.bool false, σ) := fun σ => by show some (AV.bool (ch == ⟨#[40]⟩), σ) = _; rw [h]
  have a2 : ∀ σ : AS, cmpG .Eq (.str ch) (.str ⟨#[41]⟩) σ = some (.bool false, σ) := fun σ => by show some (AV.bool (ch == ⟨#[41]⟩), σ) = _; rw [h2]
  (repeat (first | (exact a1 _) | (exact a2 _) | (exact e_fast rfl) | (exact e_cell rfl) | (with_reducible exact e_cst) | (with_reducible apply e_fast) | (with_reducible apply e_cell) | (with_reducible exact e_cv) | (with_reducible exact get0) | (with_reducible apply getS) | (with_reducible exact e_sk) | (with_reducible exact e_brk) | (with_reducible exact e_argN) | (with_reducible apply e_seqK) | (with_reducible apply seqK_next) | (with_reducible exact seqK_ret) | (with_reducible exact seqK_brk) | (with_reducible apply selB_not) | (with_reducible refine selB_t (by assumption) ?_) | (with_reducible refine selB_f (by assumption) ?_) | (with_reducible refine selB_t (by rfl) ?_) | (with_reducible refine selB_f (by rfl) ?_) | (with_reducible apply e_ite) | (with_reducible apply e_b2) | (with_reducible apply e_truP) | (with_reducible exact ptru_bool) | (with_reducible exact ptru_int) | (with_reducible apply e_not) | (with_reducible apply e_and) | (with_reducible apply e_or) | (with_reducible exact e_tt) | (with_reducible exact e_ff) | (with_reducible apply e_argC) | (with_reducible apply e_call) | (with_reducible apply e_methK) | (with_reducible exact sel_str) | (with_reducible apply e_asgK) | (with_reducible apply e_asgCK) | (with_reducible apply e_augK) | (with_reducible apply e_ret) | (with_reducible apply e_drop) | (with_reducible apply e_negK) | (with_reducible apply e_assK) | (with_reducible apply e_pairK) | (with_reducible exact set0) | (with_reducible apply setS) | (with_reducible exact pl_add) | (with_reducible exact pl_sub) | (with_reducible exact pl_eq) | (with_reducible exact pl_ne) | (with_reducible exact pl_ge) | (with_reducible exact pl_iadd) | (with_reducible exact pl_isub) | (with_reducible exact pl_lt) | (with_reducible exact pl_gt) | (with_reducible exact some_rfl)))
theorem cb_open {x : Str} {k : Int} {p : Option AV} : check_b1 (checkS x k p (some (.str ⟨#[40]⟩))) = some (.next, checkS x (k + 1) p (some (.str ⟨#[40]⟩))) := by
  delta check_b1 checkS
  rw [q40, q41]
  have a1 : ∀ σ : AS, cmpG .Eq (.str ⟨#[40]⟩) (.str ⟨#[40]⟩) σ = some (.bool true, σ) := fun σ => rfl
  (repeat (first | (exact a1 _) | (exact e_fast rfl) | (exact e_cell rfl) | (with_reducible exact e_cst) | (with_reducible apply e_fast) | (with_reducible apply e_cell) | (with_reducible exact e_cv) | (with_reducible exact get0) | (with_reducible apply getS) | (with_reducible exact e_sk) | (with_reducible exact e_brk) | (with_reducible exact e_argN) | (with_reducible apply e_seqK) | (with_reducible apply seqK_next) | (with_reducible exact seqK_ret) | (with_reducible exact seqK_brk) | (with_reducible apply selB_not) | (with_reducible refine selB_t (by assumption) ?_) | (with_reducible refine selB_f (by assumption) ?_) | (with_reducible refine selB_t (by rfl) ?_) | (with_reducible refine selB_f (by rfl) ?_) | (with_reducible apply e_ite) | (with_reducible apply e_b2) | (with_reducible apply e_truP) | (with_reducible exact ptru_bool) | (with_reducible exact ptru_int) | (with_reducible apply e_not) | (with_reducible apply e_and) | (with_reducible apply e_or) | (with_reducible exact e_tt) | (with_reducible exact e_ff) | (with_reducible apply e_argC) | (with_reducible apply e_call) | (with_reducible apply e_methK) | (with_reducible exact sel_str) | (with_reducible apply e_asgK) | (with_reducible apply e_asgCK) | (with_reducible apply e_augK) | (with_reducible apply e_ret) | (with_reducible apply e_drop) | (with_reducible apply e_negK) | (with_reducible apply e_assK) | (with_reducible apply e_pairK) | (with_reducible exact set0) | (with_reducible apply setS) | (with_reducible exact pl_add) | (with_reducible exact pl_sub) | (with_reducible exact pl_eq) | (with_reducible exact pl_ne) | (with_reducible exact pl_ge) | (with_reducible exact pl_iadd) | (with_reducible exact pl_isub) | (with_reducible exact pl_lt) | (with_reducible exact pl_gt) | (with_reducible exact some_rfl)))
theorem cb_close {x : Str} {k : Int} {p : Option AV} (hk : 0 < k) : check_b1 (checkS x k p (some (.str ⟨#[41]⟩))) = some (.next, checkS x (k - 1) p (some (.str ⟨#[41]⟩))) := by
  delta check_b1 checkS
  rw [q40, q41]
  have a1 : ∀ σ : AS, cmpG .Eq (.str ⟨#[41]⟩) (.str ⟨#[40]⟩) σ = some (.bool false, σ) := fun σ => rfl
  have a2 : ∀ σ : AS, cmpG .Eq (.str ⟨#[41]⟩) (.str ⟨#[41]⟩) σ = some (.bool true, σ) := fun σ => rfl
  have a3 : decide (k - 1 < 0) = false := decide_eq_false (by omega)
  (repeat (first | (exact a1 _) | (exact a2 _) | (exact e_fast rfl) | (exact e_cell rfl) | (with_reducible exact e_cst) | (with_reducible apply e_fast) | (with_reducible apply e_cell) | (with_reducible exact e_cv) | (with_reducible exact get0) | (with_reducible apply getS) | (with_reducible exact e_sk) | (with_reducible exact e_brk) | (with_reducible exact e_argN) | (with_reducible apply e_seqK) | (with_reducible apply seqK_next) | (with_reducible exact seqK_ret) | (with_reducible exact seqK_brk) | (with_reducible apply selB_not) | (with_reducible refine selB_t (by assumption) ?_) | (with_reducible refine selB_f (by assumption) ?_) | (with_reducible refine selB_t (by rfl) ?_) | (with_reducible refine selB_f (by rfl) ?_) | (with_reducible apply e_ite) | (with_reducible apply e_b2) | (with_reducible apply e_truP) | (with_reducible exact ptru_bool) | (with_reducible exact ptru_int) | (with_reducible apply e_not) | (with_reducible apply e_and) | (with_reducible apply e_or) | (with_reducible exact e_tt) | (with_reducible exact e_ff) | (with_reducible apply e_argC) | (with_reducible apply e_call) | (with_reducible apply e_methK) | (with_reducible exact sel_str) | (with_reducible apply e_asgK) | (with_reducible apply e_asgCK) | (with_reducible apply e_augK) | (with_reducible apply e_ret) | (with_reducible apply e_drop) | (with_reducible apply e_negK) | (with_reducible apply e_assK) | (with_reducible apply e_pairK) | (with_reducible exact set0) | (with_reducible apply setS) | (with_reducible exact pl_add) | (with_reducible exact pl_sub) | (with_reducible exact pl_eq) | (with_reducible exact pl_ne) | (with_reducible exact pl_ge) | (with_reducible exact pl_iadd) | (with_reducible exact pl_isub) | (with_reducible exact pl_lt) | (with_reducible exact pl_gt) | (with_reducible exact some_rfl)))
theorem cb_bad {x : Str} {p : Option AV} : check_b1 (checkS x 0 p (some (.str ⟨#[41]⟩))) = some (.ret (.bool false), checkS x (-1) p (some (.str ⟨#[41]⟩))) := by
  delta check_b1 checkS
  rw [q40, q41]
  have a1 : ∀ σ : AS, cmpG .Eq (.str ⟨#[41]⟩) (.str ⟨#[40]⟩) σ = some (.bool false, σ) := fun σ => rfl
  have a2 : ∀ σ : AS, cmpG .Eq (.str ⟨#[41]⟩) (.str ⟨#[41]⟩) σ = some (.bool true, σ) := fun σ => rfl
  have a3 : decide ((0 : Int) - 1 < 0) = true := rfl
  (repeat (first | (exact a1 _) | (exact a2 _) | (exact e_fast rfl) | (exact e_cell rfl) | (with_reducible exact e_cst) | (with_reducible apply e_fast) | (with_reducible apply e_cell) | (with_reducible exact e_cv) | (with_reducible exact get0) | (with_reducible apply getS) | (with_reducible exact e_sk) | (with_reducible exact e_brk) | (with_reducible exact e_argN) | (with_reducible apply e_seqK) | (with_reducible apply seqK_next) | (with_reducible exact seqK_ret) | (with_reducible exact seqK_brk) | (with_reducible apply selB_not) | (with_reducible refine selB_t (by assumption) ?_) | (with_reducible refine selB_f (by assumption) ?_) | (with_reducible refine selB_t (by rfl) ?_) | (with_reducible refine selB_f (by rfl) ?_) | (with_reducible apply e_ite) | (with_reducible apply e_b2) | (with_reducible apply e_truP) | (with_reducible exact ptru_bool) | (with_reducible exact ptru_int) | (with_reducible apply e_not) | (with_reducible apply e_and) | (with_reducible apply e_or) | (with_reducible exact e_tt) | (with_reducible exact e_ff) | (with_reducible apply e_argC) | (with_reducible apply e_call) | (with_reducible apply e_methK) | (with_reducible exact sel_str) | (with_reducible apply e_asgK) | (with_reducible apply e_asgCK) | (with_reducible apply e_augK) | (with_reducible apply e_ret) | (with_reducible apply e_drop) | (with_reducible apply e_negK) | (with_reducible apply e_assK) | (with_reducible apply e_pairK) | (with_reducible exact set0) | (with_reducible apply setS) | (with_reducible exact pl_add) | (with_reducible exact pl_sub) | (with_reducible exact pl_eq) | (with_reducible exact pl_ne) | (with_reducible exact pl_ge) | (with_reducible exact pl_iadd) | (with_reducible exact pl_isub) | (with_reducible exact pl_lt) | (with_reducible exact pl_gt) | (with_reducible exact some_rfl)))
  all_goals rfl
theorem check_loop {x : Str} : ∀ (l : List Nat) (esc : Bool) (n : Int) (k : Nat) (p c : Option AV),
    (∃ σ', forL (fun _ => true) check_b1 skA ((escGo esc n l).map (escBind (.fast 2) (.fast 3))) (checkS x k p c) = some (.ret (.bool false), σ') ∧ countGo esc k l = false) ∨
    ∃ (k' : Nat) (p' c' : Option AV), forL (fun _ => true) check_b1 skA ((escGo esc n l).map (escBind (.fast 2) (.fast 3))) (checkS x k p c) = some (.next, checkS x k' p' c') ∧ countGo esc k l = (k' == 0)
  | [], false, n, k, p, c => .inr ⟨k, p, c, rfl, rfl⟩
  | [], true, n, k, p, c => by
    refine .inr ⟨k, some (.int (n - 1)), some (.str ⟨#[92]⟩), ?_, rfl⟩
    have e1 : escBind (.fast 2) (.fast 3) (n - 1, ⟨#[92]⟩) (checkS x k p c) = some (checkS x k (some (.int (n - 1))) (some (.str ⟨#[92]⟩))) := rfl
    have e2 := cb_plain (x := x) (k := (k : Int)) (p := some (.int (n - 1))) (ch := ⟨#[92]⟩) (by decide) (by decide)
    simp only [escGo, if_true, List.map_cons, List.map_nil, forL, e1, e2, skA]
  | a :: r, true, n, k, p, c => by
    have e1 : escBind (.fast 2) (.fast 3) (n, ⟨#[92, a]⟩) (checkS x k p c) = some (checkS x k (some (.int n)) (some (.str ⟨#[92, a]⟩))) := rfl
    have e2 := cb_plain (x := x) (k := (k : Int)) (p := some (.int n)) (ch := ⟨#[92, a]⟩) (two_ne _ _ _) (two_ne _ _ _)
    simp only [escGo, List.map_cons, forL, e1, e2, if_true, countGo]
    exact check_loop r false (n + 1) k _ _
  | a :: r, false, n, k, p, c => by
    by_cases ha : a = 92
    · simp only [escGo, ha, if_true, countGo]
      exact check_loop r true (n + 1) k _ _
    · have e1 : escBind (.fast 2) (.fast 3) (n, ⟨#[a]⟩) (checkS x k p c) = some (checkS x k (some (.int n)) (some (.str ⟨#[a]⟩))) := rfl
      by_cases hb : a = 40
      · subst hb
        have e2 := cb_open (x := x) (k := (k : Int)) (p := some (.int n))
        simp only [escGo, ha, if_false, List.map_cons, forL, e1, e2, if_true, countGo]
        exact check_loop r false (n + 1) (k + 1) _ _
      · by_cases hd : a = 41
        · subst hd
          cases k with
          | zero =>
            have e2 := cb_bad (x := x) (p := some (.int n))
            refine .inl ⟨checkS x (-1) (some (.int n)) (some (.str ⟨#[41]⟩)), ?_, ?_⟩
            · simp only [escGo, ha, if_false, List.map_cons, forL, Int.natCast_zero]
              have e1' : escBind (.fast 2) (.fast 3) (n, ⟨#[41]⟩) (checkS x 0 p c) = some (checkS x 0 (some (.int n)) (some (.str ⟨#[41]⟩))) := rfl
              have e3 : checkS x ((0 : Nat) : Int) p c = checkS x 0 p c := rfl
              simp only [e3, e1', e2]
            · simp only [countGo, ha, hb, if_false, if_true]
          | succ k =>
            have e2 := cb_close (x := x) (k := ((k + 1 : Nat) : Int)) (p := some (.int n)) (by omega)
            rw [show ((k + 1 : Nat) : Int) - 1 = (k : Int) by omega] at e2
            simp only [escGo, ha, hb, if_false, List.map_cons, forL, e1, e2, if_true, countGo]
            exact check_loop r false (n + 1) k _ _
        · have e2 := cb_plain (x := x) (k := (k : Int)) (p := some (.int n)) (ch := ⟨#[a]⟩) (by rw [one_eq]; simpa using hb) (by rw [one_eq]; simpa using hd)
          simp only [escGo, ha, hb, hd, if_false, List.map_cons, forL, e1, e2, if_true, countGo]
          exact check_loop r false (n + 1) k _ _
noncomputable def checkC (l : List Nat) : Bool := countGo false 0 (stripGo none false l)
theorem check_eq (x : Str) (hx : x.length ≤ 100000) (σ : AS) : check_g [.str x] σ = some (.bool (checkC x.cps.toList), σ) := by
  obtain ⟨σ', h⟩ : ∃ σ', check_f (iniB [some 0, none, none, none] [] [.str x] []) = some (.ret (.bool (checkC x.cps.toList)), σ') := by
    show ∃ σ', check_f ⟨[some (.str x), none, none, none], none, []⟩ = _
    delta check_f checkC
    have a0 : ∀ σ : AS, strip_g [.str x] σ = some (.str ⟨(stripGo none false x.cps.toList).toArray⟩, σ) := fun σ => strip_eq x hx σ
    generalize stripGo none false x.cps.toList = l at *
    rcases check_loop (x := ⟨l.toArray⟩) l false 0 0 none none with ⟨σ', q1, q2⟩ | ⟨k, p, c, q1, q2⟩
    · have h' : forA (itEscA (.fast 2) (.fast 3) (argC (ldA (.fast 0)) argN)) check_b1 skA ⟨[some (.str ⟨l.toArray⟩), some (.int 0), none, none], none, []⟩ = some (.ret (.bool false), σ') := by
        refine e_for (σ₁ := checkS ⟨l.toArray⟩ 0 none none) (its := (escGo false 0 l).map (escBind (.fast 2) (.fast 3))) (chk := fun _ => true) ?_ q1
        have : escOut ⟨l.toArray⟩ = escGo false 0 l := rfl
        rw [← this]; rfl
      rw [q2]
      refine ⟨σ', ?_⟩
      (repeat (first | (exact a0 _) | (exact h') | (exact e_fast rfl) | (exact e_cell rfl) | (with_reducible exact e_cst) | (with_reducible apply e_fast) | (with_reducible apply e_cell) | (with_reducible exact e_cv) | (with_reducible exact get0) | (with_reducible apply getS) | (with_reducible exact e_sk) | (with_reducible exact e_brk) | (with_reducible exact e_argN) | (with_reducible apply e_seqK) | (with_reducible apply seqK_next) | (with_reducible exact seqK_ret) | (with_reducible exact seqK_brk) | (with_reducible apply selB_not) | (with_reducible refine selB_t (by assumption) ?_) | (with_reducible refine selB_f (by assumption) ?_) | (with_reducible refine selB_t (by rfl) ?_) | (with_reducible refine selB_f (by rfl) ?_) | (with_reducible apply e_ite) | (with_reducible apply e_b2) | (with_reducible apply e_truP) | (with_reducible exact ptru_bool) | (with_reducible exact ptru_int) | (with_reducible apply e_not) | (with_reducible apply e_and) | (with_reducible apply e_or) | (with_reducible exact e_tt) | (with_reducible exact e_ff) | (with_reducible apply e_argC) | (with_reducible apply e_call) | (with_reducible apply e_methK) | (with_reducible exact sel_str) | (with_reducible apply e_asgK) | (with_reducible apply e_asgCK) | (with_reducible apply e_augK) | (with_reducible apply e_ret) | (with_reducible apply e_drop) | (with_reducible apply e_negK) | (with_reducible apply e_assK) | (with_reducible apply e_pairK) | (with_reducible exact set0) | (with_reducible apply setS) | (with_reducible exact pl_add) | (with_reducible exact pl_sub) | (with_reducible exact pl_eq) | (with_reducible exact pl_ne) | (with_reducible exact pl_ge) | (with_reducible exact pl_iadd) | (with_reducible exact pl_isub) | (with_reducible exact pl_lt) | (with_reducible exact pl_gt) | (with_reducible exact some_rfl)))
    · have h' : forA (itEscA (.fast 2) (.fast 3) (argC (ldA (.fast 0)) argN)) check_b1 skA ⟨[some (.str ⟨l.toArray⟩), some (.int 0), none, none], none, []⟩ = some (.next, checkS ⟨l.toArray⟩ k p c) := by
        refine e_for (σ₁ := checkS ⟨l.toArray⟩ 0 none none) (its := (escGo false 0 l).map (escBind (.fast 2) (.fast 3))) (chk := fun _ => true) ?_ q1
        have : escOut ⟨l.toArray⟩ = escGo false 0 l := rfl
        rw [← this]; rfl
      rw [q2]
      have a1 : ∀ σ : AS, cmpG .Eq (.int (k : Int)) (.int 0) σ = some (.bool (k == 0), σ) := fun σ => by
        show some (AV.bool ((k : Int) == 0), σ) = _
        have : ((k : Int) == 0) = (k == 0) := by rw [Bool.eq_iff_iff, beq_iff_eq, beq_iff_eq]; omega
        rw [this]
      refine ⟨checkS ⟨l.toArray⟩ k p c, ?_⟩
      (repeat (first | (exact a0 _) | (exact h') | (exact a1 _) | (exact e_fast rfl) | (exact e_cell rfl) | (with_reducible exact e_cst) | (with_reducible apply e_fast) | (with_reducible apply e_cell) | (with_reducible exact e_cv) | (with_reducible exact get0) | (with_reducible apply getS) | (with_reducible exact e_sk) | (with_reducible exact e_brk) | (with_reducible exact e_argN) | (with_reducible apply e_seqK) | (with_reducible apply seqK_next) | (with_reducible exact seqK_ret) | (with_reducible exact seqK_brk) | (with_reducible apply selB_not) | (with_reducible refine selB_t (by assumption) ?_) | (with_reducible refine selB_f (by assumption) ?_) | (with_reducible refine selB_t (by rfl) ?_) | (with_reducible refine selB_f (by rfl) ?_) | (with_reducible apply e_ite) | (with_reducible apply e_b2) | (with_reducible apply e_truP) | (with_reducible exact ptru_bool) | (with_reducible exact ptru_int) | (with_reducible apply e_not) | (with_reducible apply e_and) | (with_reducible apply e_or) | (with_reducible exact e_tt) | (with_reducible exact e_ff) | (with_reducible apply e_argC) | (with_reducible apply e_call) | (with_reducible apply e_methK) | (with_reducible exact sel_str) | (with_reducible apply e_asgK) | (with_reducible apply e_asgCK) | (with_reducible apply e_augK) | (with_reducible apply e_ret) | (with_reducible apply e_drop) | (with_reducible apply e_negK) | (with_reducible apply e_assK) | (with_reducible apply e_pairK) | (with_reducible exact set0) | (with_reducible apply setS) | (with_reducible exact pl_add) | (with_reducible exact pl_sub) | (with_reducible exact pl_eq) | (with_reducible exact pl_ne) | (with_reducible exact pl_ge) | (with_reducible exact pl_iadd) | (with_reducible exact pl_isub) | (with_reducible exact pl_lt) | (with_reducible exact pl_gt) | (with_reducible exact some_rfl)))
  delta check_g
  exact defG_flat rfl rfl rfl rfl h
end Mine
-- part QS4
namespace Mine
noncomputable def toks : List (List Nat) := [[32, 79, 80, 84, 73, 77, 73, 90, 69, 68, 44], [32, 78, 69, 87, 76, 79, 67, 65, 76, 83, 44], [32, 86, 65, 82, 65, 82, 71, 83, 44], [32, 86, 65, 82, 75, 69, 89, 87, 79, 82, 68, 83, 44], [32, 78, 69, 83, 84, 69, 68, 44], [32, 71, 69, 78, 69, 82, 65, 84, 79, 82, 44], [32, 78, 79, 70, 82, 69, 69, 44], [32, 67, 79, 82, 79, 85, 84, 73, 78, 69, 44], [32, 73, 84, 69, 82, 65, 66, 76, 69, 95, 67, 79, 82, 79, 85, 84, 73, 78, 69, 44], [32, 65, 83, 89, 78, 67, 95, 71, 69, 78, 69, 82, 65, 84, 79, 82, 44], [32, 48, 120, 52, 48, 48, 44]]
noncomputable def tok (i : Nat) : List Nat := toks[i]?.getD []
noncomputable def bitsOf (n c : Nat) : List Nat := (List.range n).filter fun b => c / 2 ^ b % 2 == 1
noncomputable def tokL (n c s : Nat) : List (List Nat) := (bitsOf n c).map fun b => tok (b + s)
noncomputable def wordC (n c s : Nat) : List Nat := (tokL n c s).flatten
noncomputable def wordS (n c s : Nat) : Str := ⟨(wordC n c s).toArray⟩
noncomputable def patC (n c s : Nat) : List Nat := 46 :: 46 :: 46 :: ((tokL n c s).map fun t => t ++ [46, 46, 46]).flatten
noncomputable def patS (n c s : Nat) : Str := ⟨(patC n c s).toArray⟩
noncomputable def Tk (u : List Nat) : Prop := ∃ w, u = 32 :: (w ++ [44]) ∧ 32 ∉ w ∧ 44 ∉ w
theorem tk_pre : ∀ {v w l : List Nat}, 44 ∉ v → 44 ∉ w → v ++ [44] <+: w ++ 44 :: l → v = w
  | [], [], l, _, _, _ => rfl
  | [], c :: w, l, _, hw, h => by
    obtain ⟨t, ht⟩ := h
    simp only [List.nil_append, List.cons_append] at ht
    injection ht with h1 h2
    exact absurd (by rw [← h1]; exact .head _) hw
  | c :: v, [], l, hv, _, h => by
    obtain ⟨t, ht⟩ := h
    simp only [List.nil_append, List.cons_append] at ht
    injection ht with h1 h2
    exact absurd (by rw [h1]; exact .head _) hv
  | c :: v, d :: w, l, hv, hw, h => by
    obtain ⟨t, ht⟩ := h
    simp only [List.cons_append] at ht
    injection ht with h1 h2
    rw [h1, tk_pre (l := l) (fun q => hv (.tail _ q)) (fun q => hw (.tail _ q)) ⟨t, h2⟩]
theorem findS_skip {y : List Nat} {v : List Nat} (hy : y = 32 :: v) : ∀ (t l : List Nat), 32 ∉ t → findS y (t ++ l) = findS y l
  | [], l, _ => rfl
  | c :: t, l, h => by
    have hc : y.isPrefixOf (c :: (t ++ l)) = false := by
      rw [hy, Bool.eq_false_iff]
      intro q
      rw [List.isPrefixOf_iff_prefix] at q
      obtain ⟨z, hz⟩ := q
      simp only [List.cons_append] at hz
      injection hz with h1 _
      exact h (by rw [h1]; exact .head _)
    rw [List.cons_append, findS, hc]
    simp only [Bool.false_eq_true, if_false]
    exact findS_skip hy t l (fun q => h (.tail _ q))
theorem findS_tok {y u l : List Nat} (hy : Tk y) (hu : Tk u) : findS y (u ++ l) = if y = u then some l else findS y l := by
  obtain ⟨v, ey, v1, v2⟩ := hy
  obtain ⟨w, eu, w1, w2⟩ := hu
  by_cases e : y = u
  · rw [if_pos e, e]
    have hp : u.isPrefixOf (u ++ l) = true := by rw [List.isPrefixOf_iff_prefix]; exact List.prefix_append _ _
    rw [eu] at hp ⊢
    rw [List.cons_append] at hp ⊢
    rw [findS, hp]
    simp
  · rw [if_neg e]
    have hp : y.isPrefixOf (32 :: (w ++ [44] ++ l)) = false := by
      rw [Bool.eq_false_iff]
      intro q
      rw [List.isPrefixOf_iff_prefix, ey, List.cons_prefix_cons] at q
      have := tk_pre (l := l) v2 w2 (by simpa using q.2)
      exact e (by rw [ey, eu, this])
    rw [eu, List.cons_append, findS, hp]
    simp only [Bool.false_eq_true, if_false]
    exact findS_skip ey (w ++ [44]) l (by simp [w1])
noncomputable def subL : List (List Nat) → List (List Nat) → Bool
  | [], _ => true
  | _ :: _, [] => false
  | y :: r, u :: l => if y = u then subL r l else subL (y :: r) l
theorem loopS_tok : ∀ (us ys : List (List Nat)), (∀ y ∈ ys, Tk y) → (∀ u ∈ us, Tk u) → loopS ys us.flatten = subL ys us
  | _, [], _, _ => by simp [loopS, subL]
  | [], y :: r, hy, _ => by
    obtain ⟨w, rfl, _⟩ := hy y (.head _)
    simp [loopS, subL, findS]
  | u :: us, y :: r, hy, hu => by
    have h1 := findS_tok (l := us.flatten) (hy y (.head _)) (hu u (.head _))
    rw [List.flatten_cons]
    by_cases e : y = u
    · rw [if_pos e] at h1
      simp only [loopS, h1, subL, if_pos e]
      exact loopS_tok us r (fun y h => hy y (.tail _ h)) (fun u h => hu u (.tail _ h))
    · rw [if_neg e] at h1
      have ih := loopS_tok us (y :: r) hy (fun u h => hu u (.tail _ h))
      simp only [subL, if_neg e]
      rw [← ih]
      simp only [loopS, h1]
noncomputable def tkB (u : List Nat) : Bool := match u with
  | 32 :: r => (r.getLast? == some 44) && !(r.dropLast.contains 32) && !(r.dropLast.contains 44)
  | _ => false
theorem tk_of {u : List Nat} (h : tkB u = true) : Tk u := by
  delta tkB at h
  split at h
  · rename_i r
    simp only [Bool.and_eq_true, beq_iff_eq, Bool.not_eq_true', List.contains_eq_mem, decide_eq_false_iff_not] at h
    obtain ⟨⟨h1, h2⟩, h3⟩ := h
    refine ⟨r.dropLast, ?_, h2, h3⟩
    have hr : r ≠ [] := by rintro rfl; cases h1
    rw [List.getLast?_eq_some_getLast hr] at h1
    injection h1 with h1
    rw [← h1, List.dropLast_concat_getLast]
  · cases h
theorem toks_tk : ∀ u ∈ toks, Tk u := fun u hu => tk_of (by
  have : toks.all tkB = true := by decide +kernel
  exact List.all_eq_true.mp this u hu)
theorem tokL_tk {n c s : Nat} (h : n + s ≤ 11) : ∀ u ∈ tokL n c s, Tk u := by
  intro u hu
  obtain ⟨b, hb, rfl⟩ := List.mem_map.mp hu
  have hb' := List.mem_range.mp (List.mem_filter.mp hb).1
  have hl : b + s < toks.length := by have : toks.length = 11 := rfl
                                      omega
  delta tok
  rw [List.getElem?_eq_getElem hl]
  exact toks_tk _ (List.getElem_mem _)
noncomputable def subN : List Nat → List Nat → Bool
  | [], _ => true
  | _ :: _, [] => false
  | y :: r, u :: l => if y = u then subN r l else subN (y :: r) l
theorem tok_inj {i j : Nat} (hi : i < 11) (hj : j < 11) (h : tok i = tok j) : i = j := by
  have : (List.range 11).all (fun i => (List.range 11).all fun j => !(tok i == tok j) || i == j) = true := by decide +kernel
  have h1 := List.all_eq_true.mp (List.all_eq_true.mp this i (List.mem_range.mpr hi)) j (List.mem_range.mpr hj)
  rw [h] at h1
  simpa using h1
theorem subL_map {s n : Nat} (h : n + s ≤ 11) : ∀ (us ys : List Nat), (∀ y ∈ ys, y < n) → (∀ u ∈ us, u < n) → subL (ys.map fun b => tok (b + s)) (us.map fun b => tok (b + s)) = subN ys us
  | _, [], _, _ => by simp [subL, subN]
  | [], y :: r, _, _ => by simp [subL, subN]
  | u :: us, y :: r, hy, hu => by
    have h1 := hy y (.head _)
    have h2 := hu u (.head _)
    have e : (tok (y + s) = tok (u + s)) ↔ y = u := ⟨fun q => by have := tok_inj (by omega) (by omega) q; omega, fun q => by rw [q]⟩
    simp only [List.map_cons, subL, subN, e]
    split
    · exact subL_map h us r (fun y q => hy y (.tail _ q)) (fun u q => hu u (.tail _ q))
    · exact subL_map h us (y :: r) hy (fun u q => hu u (.tail _ q))
theorem loop_words {n c' c s : Nat} (h : n + s ≤ 11) : loopS (tokL n c' s) (wordC n c s) = subN (bitsOf n c') (bitsOf n c) := by
  delta wordC
  rw [loopS_tok _ _ (tokL_tk h) (tokL_tk h)]
  refine subL_map h _ _ (fun y hy => ?_) (fun y hy => ?_)
  all_goals exact List.mem_range.mp (List.mem_filter.mp hy).1
noncomputable def splitOK (n c s : Nat) : Bool := Txt.split (patS n c s) ⟨#[46, 46, 46]⟩ == ⟨#[]⟩ :: ((tokL n c s).map (fun l => (⟨l.toArray⟩ : Str)) ++ [⟨#[]⟩])
theorem dots3 : ("..." : Str) = ⟨#[46, 46, 46]⟩ := by decide +kernel
theorem len_flat {l : List (List Nat)} {b : Nat} (h : ∀ u ∈ l, u.length ≤ b) : l.flatten.length ≤ l.length * b := by
  induction l with
  | nil => simp
  | cons a r ih =>
    have h1 := h a (.head _)
    have h2 := ih (fun u q => h u (.tail _ q))
    simp only [List.flatten_cons, List.length_append, List.length_cons, Nat.succ_mul]
    omega
theorem tok_len (i : Nat) : (tok i).length ≤ 20 := by
  delta tok
  cases h : toks[i]? with
  | none => simp
  | some u =>
    have : toks.all (fun u => decide (u.length ≤ 20)) = true := by decide +kernel
    have := List.all_eq_true.mp this u (List.mem_of_getElem? h)
    simpa using this
theorem bits_len (n c : Nat) : (bitsOf n c).length ≤ n := by
  have := List.length_filter_le (fun b => c / 2 ^ b % 2 == 1) (List.range n)
  rw [List.length_range] at this
  exact this
theorem word_len {n c s : Nat} (h : n ≤ 11) : (wordS n c s).length ≤ 300 := by
  have h1 : (wordC n c s).length ≤ (tokL n c s).length * 20 := len_flat (fun u hu => by
    obtain ⟨b, hb, rfl⟩ := List.mem_map.mp hu
    exact tok_len _)
  have h2 := bits_len n c
  have h3 : (tokL n c s).length = (bitsOf n c).length := by simp [tokL]
  show (wordC n c s).toArray.size ≤ 300
  rw [List.size_toArray]
  omega
theorem pat_len {n c s : Nat} (h : n ≤ 11) : (patS n c s).length ≤ 300 := by
  have h1 : ((tokL n c s).map fun t => t ++ [46, 46, 46]).flatten.length ≤ ((tokL n c s).map fun t => t ++ [46, 46, 46]).length * 23 := len_flat (fun u hu => by
    obtain ⟨v, hv, rfl⟩ := List.mem_map.mp hu
    obtain ⟨b, hb, rfl⟩ := List.mem_map.mp hv
    have := tok_len (b + s)
    simp; omega)
  have h2 := bits_len n c
  have h3 : ((tokL n c s).map fun t => t ++ [46, 46, 46]).length = (bitsOf n c).length := by simp [tokL]
  show (patC n c s).toArray.size ≤ 300
  rw [List.size_toArray]
  delta patC
  simp only [List.length_cons]
  omega
theorem match_words {n c' c s : Nat} (h : n + s ≤ 11) (hs : splitOK n c' s = true) (σ : AS) : match_g [.str (patS n c' s), .str (wordS n c s)] σ = some (.bool (subN (bitsOf n c') (bitsOf n c)), σ) := by
  have hsp := beq_iff_eq.mp hs
  have hl : ∀ y ∈ (tokL n c' s).map (fun l => (⟨l.toArray⟩ : Str)), y.length ≤ 100000 := fun y hy => by
    obtain ⟨v, hv, rfl⟩ := List.mem_map.mp hy
    obtain ⟨b, hb, rfl⟩ := List.mem_map.mp hv
    have := tok_len (b + s)
    show (tok (b + s)).toArray.size ≤ _
    rw [List.size_toArray]; omega
  have hm := match_eq (patS n c' s) (wordS n c s) ((tokL n c' s).map (fun l => (⟨l.toArray⟩ : Str))) σ ?_ (by rw [dots3]; exact hsp) (by have := pat_len (n := n) (c := c') (s := s) (by omega); omega) (by have := word_len (n := n) (c := c) (s := s) (by omega); omega) hl (by
    have := bits_len n c'
    simp [tokL]; omega)
  · rw [hm]
    have : ((tokL n c' s).map (fun l => (⟨l.toArray⟩ : Str))).map (fun y => y.cps.toList) = tokL n c' s := by
      rw [List.map_map]; exact List.map_id'' (fun _ => rfl) _
    rw [this]
    rw [show (wordS n c s).cps.toList = wordC n c s from rfl, loop_words h]
  · rw [dots3]
    have := occ_find (patS n c' s) ⟨#[46, 46, 46]⟩ 0 (Nat.zero_le _)
    have e : findS (⟨#[46, 46, 46]⟩ : Str).cps.toList ((patS n c' s).cps.toList.drop 0) = some (((tokL n c' s).map fun t => t ++ [46, 46, 46]).flatten) := by
      show findS [46, 46, 46] (patC n c' s) = _
      unfold patC findS
      rw [if_pos (by simp [List.isPrefixOf])]
      rfl
    rw [e] at this
    obtain ⟨k, r, h1, _⟩ := this
    rw [h1]; rfl
noncomputable def prettyOK (n c s : Nat) : Bool := match pretty_f ⟨[some (.int ((c * 2 ^ s : Nat) : Int)), none, none, none], none, []⟩ with
  | some (.ret (.str x), _) => (⟨(32 :: (x.cps.toList ++ [44])).toArray⟩ : Str) == wordS n c s
  | _ => false
noncomputable def repOK (n c s : Nat) : Bool := decide ((⟨#[46, 46, 46]⟩ : Str) ++ Txt.replace (wordS n c s) ", " ",... " ++ (⟨#[46, 46, 46]⟩ : Str) = patS n c s)
theorem pretty_eq {n c s : Nat} (h : prettyOK n c s = true) : ∃ x : Str, ((⟨#[32]⟩ : Str) ++ x) ++ (⟨#[44]⟩ : Str) = wordS n c s ∧ ∀ σ, pretty_g [.int ((c * 2 ^ s : Nat) : Int)] σ = some (.str x, σ) := by
  delta prettyOK at h
  split at h
  · rename_i x σc e
    refine ⟨x, ?_, fun σ => ?_⟩
    · rw [← beq_iff_eq.mp h]
      apply Str.ext'
      apply Array.toList_inj.mp
      show ((#[32] ++ x.cps) ++ #[44]).toList = _
      simp
    · delta pretty_g
      exact defG_flat rfl rfl rfl rfl e
  · cases h
end Mine
-- part QC
namespace Mine
theorem q32 : (" " : Str) = ⟨#[32]⟩ := by decide +kernel
theorem q44 : ("," : Str) = ⟨#[44]⟩ := by decide +kernel
theorem pl_sadd {x y : Str} {σ : AS} (h : x.length + y.length ≤ 100000) : abin .Add (.str x) (.str y) σ = some (.str (x ++ y), σ) := by
  show Option.map _ (if x.length + y.length ≤ 100000 then some (AV.str (x ++ y)) else none) = _
  rw [if_pos h]; rfl
theorem pl_mul {a b : Int} {σ : AS} (h : (small a || small b) = true) : abin .Mult (.int a) (.int b) σ = some (.int (a * b), σ) := by
  show Option.map _ (if (small a || small b) = true then some (AV.int (a * b)) else none) = _
  rw [if_pos h]; rfl
theorem slen_app (x y : Str) : (x ++ y).length = x.length + y.length := by
  show (x.cps ++ y.cps).size = _
  rw [Array.size_append]; rfl
theorem forL_rest {α β : Type} {chk : AS → Bool} {body els : AS → Option (AF × AS)} (Q : List α → β → AS → Prop) (bd : α → AS → Option AS) (step : β → α → β)
    (H : ∀ a r b σ, Q (a :: r) b σ → ∃ σ₁ σ₂, bd a σ = some σ₁ ∧ body σ₁ = some (.next, σ₂) ∧ chk σ₂ = true ∧ Q r (step b a) σ₂) :
    ∀ (l : List α) (b : β) (σ : AS), Q l b σ → ∃ σ', forL chk body els (l.map bd) σ = els σ' ∧ Q [] (l.foldl step b) σ'
  | [], b, σ, h => ⟨σ, rfl, h⟩
  | a :: r, b, σ, h => by
    obtain ⟨σ₁, σ₂, h1, h2, h3, h4⟩ := H a r b σ h
    obtain ⟨σ', h5, h6⟩ := forL_rest (els := els) Q bd step H r (step b a) σ₂ h4
    refine ⟨σ', ?_, h6⟩
    simp only [List.map_cons, forL, h1, h2, h3, if_true]
    exact h5
theorem merge_one {α : Type} {i : Nat} {o : α} {new old : List α} (hi : old[i]? = some o) (hn : new[0]? = some o) : mergeO [i] new old = old := by
  delta mergeO
  refine List.ext_getElem? fun k => ?_
  rw [List.getElem?_mapIdx]
  cases hk : old[k]? with
  | none => rfl
  | some x =>
    simp only [Option.map_some]
    by_cases e : i = k
    · subst e
      rw [hi] at hk; cases hk
      have : List.idxOf i [i] = 0 := by simp
      simp only [this, List.length_singleton, List.getElem?_take]
      rw [if_pos (by omega), hn]
    · have e2 : (i == k) = false := beq_eq_false_iff_ne.mpr e
      have e1 : List.idxOf k [i] = 1 := by simp [List.idxOf_cons, e2]
      simp only [e1, List.length_singleton, List.getElem?_take]
      rw [if_neg (by omega)]
theorem pick_one {α : Type} {i : Nat} {o : α} {l : List α} (h : l[i]? = some o) : pick l [i] = [o] := by simp [pick, h]
theorem defG_one {np : Nat} {slots cslots : List (Option Nat)} {fb : AS → Option (AF × AS)} {as : List AV} {σ σc : AS} {i : Nat} {o : AO} {v : AV} (h1 : as.length = np) (hs : selOf as = [i]) (hi : σ.objs[i]? = some o) (hm : movable o = true) (ho : σc.objs[0]? = some o)
    (h : fb (iniB slots cslots (as.map (renum [i])) [o]) = some (.ret v, σc)) : defG np 1 slots cslots fb as σ = retG [i] σ v σc := by
  have hc : as.length = np ∧ ([i] : List Nat).length = 1 ∧ (∀ k ∈ ([i] : List Nat), k < σ.objs.length) ∧ ([i] : List Nat).Nodup ∧ (pick σ.objs [i]).all movable = true := by
    refine ⟨h1, rfl, fun k hk => ?_, by simp, by rw [pick_one hi]; simp [hm]⟩
    rw [List.mem_singleton.mp hk]
    exact (List.getElem?_eq_some_iff.mp hi).1
  delta defG
  simp only [hs]
  rw [if_pos hc, pick_one hi, h]
theorem retG_ref {σ σc : AS} {i j : Nat} {o : AO} {xs : List AV} (hi : σ.objs[i]? = some o) (hm : movable o = true) (ho : σc.objs[0]? = some o) (hj : σc.objs[j]? = some (.flat xs)) (h1 : 1 ≤ j) : retG [i] σ (.ref j) σc = some (.ref σ.objs.length, { σ with objs := σ.objs ++ [.flat xs] }) := by
  have ht : (σc.objs.take ([i] : List Nat).length).all movable = true := by
    cases hq : σc.objs with
    | nil => rw [hq] at ho; cases ho
    | cons a r => rw [hq] at ho; cases ho; simp [hm]
  delta retG
  rw [if_pos ht]
  simp only [hj]
  rw [if_pos (show ([i] : List Nat).length ≤ j from h1), merge_one hi ho]
theorem end_get {α : Type} {o : List α} {x : α} : (o ++ [x])[o.length]? = some x := by simp
theorem end_set {α : Type} {o : List α} {x y : α} : (o ++ [x]).set o.length y = o ++ [y] := by simp
theorem comp_go {chk : AS → Bool} {fe : AS → Option (AV × AS)} {l : List (Option AV)} {o : List AO} (g : AV → AV) : ∀ (xs acc : List AV) (cv : Option AV), (∀ x ∈ xs, plainV (g x) = true ∧ ∀ acc, fe ⟨l, some x, o ++ [.flat acc]⟩ = some (g x, ⟨l, some x, o ++ [.flat acc]⟩)) → (∀ cv acc, chk ⟨l, cv, o ++ [.flat acc]⟩ = true) → acc.length + xs.length ≤ 1000 →
    ∃ cv', compL chk o.length ttT fe xs ⟨l, cv, o ++ [.flat acc]⟩ = some ⟨l, cv', o ++ [.flat (acc ++ xs.map g)]⟩
  | [], acc, cv, _, _, _ => ⟨cv, by simp [compL]⟩
  | x :: xs, acc, cv, h, hc, hl => by
    obtain ⟨h1, h2⟩ := h x (.head _)
    simp only [List.length_cons] at hl
    have f3 : appendG [.ref o.length, g x] ⟨l, some x, o ++ [.flat acc]⟩ = some (.none, ⟨l, some x, o ++ [.flat (acc ++ [g x])]⟩) := by
      simp only [appendG, end_get]
      rw [if_pos ⟨h1, by omega⟩, end_set]
    obtain ⟨cv', ih⟩ := comp_go g xs (acc ++ [g x]) (some x) (fun y hy => h y (.tail _ hy)) hc (by simp; omega)
    refine ⟨cv', ?_⟩
    have f1 : ttT ⟨l, some x, o ++ [.flat acc]⟩ = some (true, ⟨l, some x, o ++ [.flat acc]⟩) := rfl
    simp only [compL, f1, h2, f3, hc, if_true]
    rw [ih]
    simp
theorem comp_map {chk : AS → Bool} {fi : AS → Option ((List AV × (AS → Bool)) × AS)} {fe : AS → Option (AV × AS)} {σ : AS} {l : List (Option AV)} {c : Option AV} {o : List AO} (g : AV → AV) {xs : List AV} (hi : fi σ = some ((xs, chk), ⟨l, c, o⟩)) (h : ∀ x ∈ xs, plainV (g x) = true ∧ ∀ acc, fe ⟨l, some x, o ++ [.flat acc]⟩ = some (g x, ⟨l, some x, o ++ [.flat acc]⟩)) (hc : ∀ cv acc, chk ⟨l, cv, o ++ [.flat acc]⟩ = true) (hl : xs.length ≤ 1000) :
    compA fi ttT fe σ = some (.ref o.length, ⟨l, none, o ++ [.flat (xs.map g)]⟩) := by
  obtain ⟨cv', h1⟩ := comp_go g xs [] c h hc (by simpa using hl)
  delta compA
  rw [hi]
  simp only [hc, if_true]
  rw [h1]
  rfl
theorem itl {f : AS → Option (AV × AS)} {σ σ₁ : AS} {j : Nat} {xs : List AV} (h : f σ = some (.ref j, σ₁)) (h2 : getFlat σ₁ j = some xs) : itListA f σ = some ((xs, fun σ => decide (getFlat σ j = some xs)), σ₁) := by
  simp only [itListA, h, h2]
theorem flat_pre {l : List (Option AV)} {c : Option AV} {o : List AO} {x : AO} {j : Nat} {xs : List AV} (h : o[j]? = some (.flat xs)) : getFlat ⟨l, c, o ++ [x]⟩ j = some xs := by
  have hj := (List.getElem?_eq_some_iff.mp h).1
  delta getFlat
  simp only
  rw [List.getElem?_append_left hj, h]
theorem retG_flat {σ σc : AS} {j : Nat} {xs : List AV} (hj : σc.objs[j]? = some (.flat xs)) : retG [] σ (.ref j) σc = some (.ref σ.objs.length, { σ with objs := σ.objs ++ [.flat xs] }) := by
  have hm : mergeO [] σc.objs σ.objs = σ.objs := by
    delta mergeO
    exact List.ext_getElem (by simp) (by simp)
  have ht : (σc.objs.take ([] : List Nat).length).all movable = true := rfl
  delta retG
  rw [if_pos ht]
  simp only [hj]
  rw [if_pos (show ([] : List Nat).length ≤ j from Nat.zero_le _), hm]
theorem defG_zero {np : Nat} {slots cslots : List (Option Nat)} {fb : AS → Option (AF × AS)} {as : List AV} {σ σc : AS} {v : AV} (h1 : as.length = np) (hs : selOf as = []) 
    (h : fb (iniB slots cslots (as.map (renum [])) []) = some (.ret v, σc)) : defG np 0 slots cslots fb as σ = retG [] σ v σc := by
  have hc : as.length = np ∧ ([] : List Nat).length = 0 ∧ (∀ i ∈ ([] : List Nat), i < σ.objs.length) ∧ ([] : List Nat).Nodup ∧ (pick σ.objs []).all movable = true :=
    ⟨h1, rfl, fun i hi => absurd hi List.not_mem_nil, List.nodup_nil, rfl⟩
  delta defG
  simp only [hs]
  rw [if_pos hc]
  have : pick σ.objs [] = [] := rfl
  rw [this, h]
noncomputable def modA (m : Int) : AV → AV
  | .int x => .int (x.fmod m)
  | a => a
theorem cut_takeN {α : Type} {xs : List α} {k : Nat} : cutL xs none (some (k : Int)) = xs.take k := by
  delta cutL
  simp only [Option.elim, List.drop_zero, Nat.sub_zero]
  rw [clipAt_nat]
  rcases Nat.le_total k xs.length with h | h
  · rw [Nat.min_eq_left h]
  · rw [Nat.min_eq_right h, List.take_of_length_le (Nat.le_refl _), List.take_of_length_le h]
theorem cut_dropN {α : Type} {xs : List α} {k : Nat} : cutL xs (some (k : Int)) none = xs.drop k := by
  delta cutL
  simp only [Option.elim]
  rw [clipAt_nat]
  rcases Nat.le_total k xs.length with h | h
  · rw [Nat.min_eq_left h]; exact List.take_of_length_le (by rw [List.length_drop]; exact Nat.le_refl _)
  · rw [Nat.min_eq_right h, List.drop_of_length_le (Nat.le_refl _), List.drop_of_length_le h, List.take_nil]
theorem cut_drop {α : Type} {xs : List α} {k : Nat} (_ : k ≤ xs.length) : cutL xs (some (k : Int)) none = xs.drop k := cut_dropN
end Mine
-- part QR
namespace Mine
noncomputable def numsL (ns : List Int) : List Int := (ns.take 5).map (fun x => x.fmod 1000000) ++ [11, 1, 4, 5, 2].drop (ns.take 5).length
theorem cut_take {ns : List Int} : cutL ns none (some 5) = ns.take 5 := cut_takeN
theorem numbers_eq {a : Addr} {ns : List Int} (hn : ns.length ≤ 100000) (σ : AS) : numbers_g (some (a, ns)) [.adr a] σ = some (.ref σ.objs.length, { σ with objs := σ.objs ++ [.flat ((numsL ns).map .int)] }) := by
  have hm4 : (ns.take 5).length ≤ 5 := by rw [List.length_take]; omega
  have hb : numbers_f (some (a, ns)) ⟨[some (.adr a), none], none, []⟩ = some (.ret (.ref 4), ⟨[some (.adr a), some (.ref 1)], none, [.flat ((ns.take 5).map .int), .flat (((ns.take 5).map AV.int).map (modA 1000000)), .flat [.int 11, .int 1, .int 4, .int 5, .int 2], .flat (([.int 11, .int 1, .int 4, .int 5, .int 2] : List AV).drop (ns.take 5).length), .flat ((numsL ns).map .int)]⟩) := by
    have c1 : ∀ l, cutA (some (a, ns)) (ldA (.fast 0)) ptN (ptS (cstA (.int 5))) ⟨some (.adr a) :: l, none, []⟩ = some (.ref 0, ⟨some (.adr a) :: l, none, [.flat ((ns.take 5).map .int)]⟩) := fun l => by
      show (if a = a ∧ ns.length ≤ 100000 then _ else none) = _
      rw [if_pos ⟨rfl, hn⟩, cut_take]; rfl
    have c2 : ∀ l, compA (itListA (cutA (some (a, ns)) (ldA (.fast 0)) ptN (ptS (cstA (.int 5))))) ttT (b2A (ldA .cv) (b2A (cstA (.int 10)) (cstA (.int 6)) (abin .Pow)) (abin .Mod)) ⟨some (.adr a) :: l, none, []⟩ = some (.ref 1, ⟨some (.adr a) :: l, none, [.flat ((ns.take 5).map .int), .flat (((ns.take 5).map AV.int).map (modA 1000000))]⟩) := fun l => by
      refine comp_map (o := [.flat ((ns.take 5).map .int)]) (modA 1000000) (itl (c1 l) rfl) (fun x hx => ?_) (fun cv acc => decide_eq_true rfl) (by simp; omega)
      obtain ⟨i, _, rfl⟩ := List.mem_map.mp hx
      refine ⟨rfl, fun acc => ?_⟩
      have p1 : ∀ σ : AS, abin .Pow (.int 10) (.int 6) σ = some (.int 1000000, σ) := fun σ => rfl
      show b2A _ _ _ _ = some (.int (i.fmod 1000000), _)
      (repeat (first | (with_reducible exact p1 _) | (with_reducible exact pl_mod (by decide)) | (with_reducible exact e_cst) | (with_reducible apply e_fast) | (with_reducible apply e_cell) | (with_reducible exact e_cv) | (with_reducible exact get0) | (with_reducible apply getS) | (with_reducible exact e_sk) | (with_reducible exact e_brk) | (with_reducible exact e_argN) | (with_reducible apply e_seqK) | (with_reducible apply seqK_next) | (with_reducible exact seqK_ret) | (with_reducible exact seqK_brk) | (with_reducible apply selB_not) | (with_reducible refine selB_t (by assumption) ?_) | (with_reducible refine selB_f (by assumption) ?_) | (with_reducible refine selB_t (by rfl) ?_) | (with_reducible refine selB_f (by rfl) ?_) | (with_reducible apply e_ite) | (with_reducible apply e_b2) | (with_reducible apply e_truP) | (with_reducible exact ptru_bool) | (with_reducible exact ptru_int) | (with_reducible apply e_not) | (with_reducible apply e_and) | (with_reducible apply e_or) | (with_reducible exact e_tt) | (with_reducible exact e_ff) | (with_reducible apply e_argC) | (with_reducible apply e_call) | (with_reducible apply e_methK) | (with_reducible exact sel_str) | (with_reducible apply e_asgK) | (with_reducible apply e_asgCK) | (with_reducible apply e_augK) | (with_reducible apply e_ret) | (with_reducible apply e_drop) | (with_reducible apply e_negK) | (with_reducible apply e_assK) | (with_reducible apply e_pairK) | (with_reducible exact set0) | (with_reducible apply setS) | (with_reducible exact pl_add) | (with_reducible exact pl_sub) | (with_reducible exact pl_eq) | (with_reducible exact pl_ne) | (with_reducible exact pl_ge) | (with_reducible exact pl_iadd) | (with_reducible exact pl_isub) | (with_reducible exact pl_lt) | (with_reducible exact pl_gt) | (with_reducible exact some_rfl)))
    have c3 : ∀ l o1 o2, listA (argC (cstA (.int 11)) (argC (cstA (.int 1)) (argC (cstA (.int 4)) (argC (cstA (.int 5)) (argC (cstA (.int 2)) argN))))) ⟨l, none, [o1, o2]⟩ = some (.ref 2, ⟨l, none, [o1, o2, .flat [.int 11, .int 1, .int 4, .int 5, .int 2]]⟩) := fun l o1 o2 => rfl
    have c4 : ∀ q o1, cutA none (listA (argC (cstA (.int 11)) (argC (cstA (.int 1)) (argC (cstA (.int 4)) (argC (cstA (.int 5)) (argC (cstA (.int 2)) argN)))))) (ptS (callA (argC (ldA (.fast 1)) argN) lenG)) ptN ⟨[q, some (.ref 1)], none, [o1, .flat (((ns.take 5).map AV.int).map (modA 1000000))]⟩ = some (.ref 3, ⟨[q, some (.ref 1)], none, [o1, .flat (((ns.take 5).map AV.int).map (modA 1000000)), .flat [.int 11, .int 1, .int 4, .int 5, .int 2], .flat (([.int 11, .int 1, .int 4, .int 5, .int 2] : List AV).drop (ns.take 5).length)]⟩) := fun q o1 => by
      have hL : (((ns.take 5).map AV.int).map (modA 1000000)).length = (ns.take 5).length := by simp
      have hp : ∀ o2, ptS (callA (argC (ldA (.fast 1)) argN) lenG) ⟨[q, some (.ref 1)], none, [o1, .flat (((ns.take 5).map AV.int).map (modA 1000000)), o2]⟩ = some (some ((ns.take 5).length : Int), ⟨[q, some (.ref 1)], none, [o1, .flat (((ns.take 5).map AV.int).map (modA 1000000)), o2]⟩) := fun o2 => by
        have : callA (argC (ldA (.fast 1)) argN) lenG ⟨[q, some (.ref 1)], none, [o1, .flat (((ns.take 5).map AV.int).map (modA 1000000)), o2]⟩ = some (.int ((ns.take 5).length : Int), ⟨[q, some (.ref 1)], none, [o1, .flat (((ns.take 5).map AV.int).map (modA 1000000)), o2]⟩) := by
          show (if (((ns.take 5).map AV.int).map (modA 1000000)).length ≤ 100000 then some (AV.int (((ns.take 5).map AV.int).map (modA 1000000)).length, _) else none) = _
          rw [hL, if_pos (by omega)]
        simp only [ptS, this]
      simp only [cutA, c3, hp, ptN]
      show (if (5 : Nat) ≤ 100000 then newO (.flat (cutL ([.int 11, .int 1, .int 4, .int 5, .int 2] : List AV) (some ((ns.take 5).length : Int)) none)) _ else none) = _
      rw [if_pos (by omega), cut_drop hm4]
      rfl
    have c5 : ∀ l o1 o2, abin .Add (.ref 1) (.ref 3) ⟨l, none, [o1, .flat (((ns.take 5).map AV.int).map (modA 1000000)), o2, .flat (([.int 11, .int 1, .int 4, .int 5, .int 2] : List AV).drop (ns.take 5).length)]⟩ = some (.ref 4, ⟨l, none, [o1, .flat (((ns.take 5).map AV.int).map (modA 1000000)), o2, .flat (([.int 11, .int 1, .int 4, .int 5, .int 2] : List AV).drop (ns.take 5).length), .flat ((numsL ns).map .int)]⟩) := fun l o1 o2 => by
      show (if (((ns.take 5).map AV.int).map (modA 1000000)).length + (([.int 11, .int 1, .int 4, .int 5, .int 2] : List AV).drop (ns.take 5).length).length ≤ 100000 then newO _ _ else none) = _
      rw [if_pos (by simp; omega)]
      have : ((ns.take 5).map AV.int).map (modA 1000000) ++ ([.int 11, .int 1, .int 4, .int 5, .int 2] : List AV).drop (ns.take 5).length = (numsL ns).map .int := by
        delta numsL
        rw [List.map_append, List.map_map, List.map_map, List.map_drop]
        rfl
      rw [this]
      rfl
    delta numbers_f
    (repeat (first | (with_reducible exact c2 _) | (with_reducible exact c4 _ _) | (with_reducible exact c5 _ _ _) | (with_reducible exact e_cst) | (with_reducible apply e_fast) | (with_reducible apply e_cell) | (with_reducible exact e_cv) | (with_reducible exact get0) | (with_reducible apply getS) | (with_reducible exact e_sk) | (with_reducible exact e_brk) | (with_reducible exact e_argN) | (with_reducible apply e_seqK) | (with_reducible apply seqK_next) | (with_reducible exact seqK_ret) | (with_reducible exact seqK_brk) | (with_reducible apply selB_not) | (with_reducible refine selB_t (by assumption) ?_) | (with_reducible refine selB_f (by assumption) ?_) | (with_reducible refine selB_t (by rfl) ?_) | (with_reducible refine selB_f (by rfl) ?_) | (with_reducible apply e_ite) | (with_reducible apply e_b2) | (with_reducible apply e_truP) | (with_reducible exact ptru_bool) | (with_reducible exact ptru_int) | (with_reducible apply e_not) | (with_reducible apply e_and) | (with_reducible apply e_or) | (with_reducible exact e_tt) | (with_reducible exact e_ff) | (with_reducible apply e_argC) | (with_reducible apply e_call) | (with_reducible apply e_methK) | (with_reducible exact sel_str) | (with_reducible apply e_asgK) | (with_reducible apply e_asgCK) | (with_reducible apply e_augK) | (with_reducible apply e_ret) | (with_reducible apply e_drop) | (with_reducible apply e_negK) | (with_reducible apply e_assK) | (with_reducible apply e_pairK) | (with_reducible exact set0) | (with_reducible apply setS) | (with_reducible exact pl_add) | (with_reducible exact pl_sub) | (with_reducible exact pl_eq) | (with_reducible exact pl_ne) | (with_reducible exact pl_ge) | (with_reducible exact pl_iadd) | (with_reducible exact pl_isub) | (with_reducible exact pl_lt) | (with_reducible exact pl_gt) | (with_reducible exact some_rfl)))
  delta numbers_g
  rw [defG_zero (np := 1) (as := [.adr a]) (v := .ref 4) rfl rfl hb]
  exact retG_flat rfl

theorem pl_addR {i j : Nat} {xs ys : List AV} {l : List (Option AV)} {c : Option AV} {o : List AO} (h1 : o[i]? = some (.flat xs)) (h2 : o[j]? = some (.flat ys)) (h3 : xs.length + ys.length ≤ 100000) : abin .Add (.ref i) (.ref j) ⟨l, c, o⟩ = some (.ref o.length, ⟨l, c, o ++ [.flat (xs ++ ys)]⟩) := by
  have e1 : getFlat ⟨l, c, o⟩ i = some xs := by delta getFlat; simp only [h1]
  have e2 : getFlat ⟨l, c, o⟩ j = some ys := by delta getFlat; simp only [h2]
  simp only [abin, e1, e2]
  rw [if_pos h3]; rfl
theorem pl_cutR {i : Nat} {xs : List AV} {lo hi : Option Int} {l : List (Option AV)} {c : Option AV} {o : List AO} (h1 : o[i]? = some (.flat xs)) (h3 : xs.length ≤ 100000) : cutG none (.ref i) lo hi ⟨l, c, o⟩ = some (.ref o.length, ⟨l, c, o ++ [.flat (cutL xs lo hi)]⟩) := by
  have e1 : getFlat ⟨l, c, o⟩ i = some xs := by delta getFlat; simp only [h1]
  simp only [cutG, e1]
  rw [if_pos h3]; rfl
theorem app_get {α : Type} {o r : List α} {x : α} {i : Nat} (h : o[i]? = some x) : (o ++ r)[i]? = some x := by
  have hi := (List.getElem?_eq_some_iff.mp h).1
  rw [List.getElem?_append_left hi, h]
theorem app_at {α : Type} {o r : List α} {i : Nat} : (o ++ r)[o.length + i]? = r[i]? := by
  rw [List.getElem?_append_right (by omega)]
  congr 1; omega
noncomputable def rowStep (nums : List Int) (row : List Int) (k : Nat) : List Int := row.take (((nums[k]?.getD 0).fmod (2 * k + 1)).toNat) ++ [(k : Int), -1] ++ row.drop (((nums[k]?.getD 0).fmod (2 * k + 1)).toNat)
theorem row_body {nums row : List Int} {k r : Nat} {sp : Option AV} {o : List AO} (h0 : o[0]? = some (.flat (nums.map .int))) (hr : o[r]? = some (.flat (row.map .int))) (hk : k < 5) (hn : nums.length = 5) (hl : row.length ≤ 100) :
    ∃ sp' A B C D, row_b1 ⟨[some (.ref 0), some (.ref r), some (.int (k : Int)), sp], none, o⟩ = some (.next, ⟨[some (.ref 0), some (.ref (o.length + 4)), some (.int (k : Int)), sp'], none, o ++ [A, B, C, D, .flat ((rowStep nums row k).map .int)]⟩) := by
  have hx : nums[k]? = some (nums[k]?.getD 0) := by rw [List.getElem?_eq_getElem (by omega)]; rfl
  have eR : rowStep nums row k = row.take (((nums[k]?.getD 0).fmod (2 * k + 1)).toNat) ++ [(k : Int), -1] ++ row.drop (((nums[k]?.getD 0).fmod (2 * k + 1)).toNat) := rfl
  have hs0 : 0 ≤ (nums[k]?.getD 0).fmod (2 * k + 1) := Int.fmod_nonneg_of_pos _ (by omega)
  generalize nums[k]?.getD 0 = x at hx eR hs0
  obtain ⟨s, hs⟩ := Int.eq_ofNat_of_zero_le hs0
  rw [hs] at eR
  simp only [Int.toNat_natCast] at eR
  have a1 : ∀ l, subG (.ref 0) (.int (k : Int)) ⟨l, none, o⟩ = some (.int x, ⟨l, none, o⟩) := fun l => pl_sub_at h0 (by omega) (by rw [List.getElem?_map, hx]; rfl)
  have a2 : ∀ σ : AS, abin .Mult (.int 2) (.int (k : Int)) σ = some (.int (2 * k), σ) := fun σ => pl_mul (by rw [Bool.or_eq_true]; exact .inl (by decide))
  have a3 : ∀ σ : AS, abin .Mod (.int x) (.int (2 * (k : Int) + 1)) σ = some (.int (s : Int), σ) := fun σ => by rw [pl_mod (by omega), hs]
  have a4 : ∀ y l, cutA none (ldA (.fast 1)) ptN (ptS (ldA (.fast 3))) ⟨[y, some (.ref r), l, some (.int (s : Int))], none, o⟩ = some (.ref o.length, ⟨[y, some (.ref r), l, some (.int (s : Int))], none, o ++ [.flat ((row.map .int).take s)]⟩) := fun y l => by
    have := pl_cutR (lo := none) (hi := some (s : Int)) (l := [y, some (.ref r), l, some (.int (s : Int))]) (c := none) hr (by simp; omega)
    rw [cut_takeN] at this
    exact this
  have a5 : ∀ y z w A, listA (argC (ldA (.fast 2)) (argC (negA (cstA (.int 1))) argN)) ⟨[y, z, some (.int (k : Int)), w], none, o ++ [A]⟩ = some (.ref (o.length + 1), ⟨[y, z, some (.int (k : Int)), w], none, o ++ [A, .flat [.int (k : Int), .int (-1)]]⟩) := fun y z w A => by
    have : listA (argC (ldA (.fast 2)) (argC (negA (cstA (.int 1))) argN)) ⟨[y, z, some (.int (k : Int)), w], none, o ++ [A]⟩ = some (.ref (o ++ [A]).length, ⟨[y, z, some (.int (k : Int)), w], none, (o ++ [A]) ++ [.flat [.int (k : Int), .int (-1)]]⟩) := rfl
    rw [this]; simp
  have a6 : ∀ l, abin .Add (.ref o.length) (.ref (o.length + 1)) ⟨l, none, o ++ [.flat ((row.map .int).take s), .flat [.int (k : Int), .int (-1)]]⟩ = some (.ref (o.length + 2), ⟨l, none, o ++ [.flat ((row.map .int).take s), .flat [.int (k : Int), .int (-1)], .flat ((row.map .int).take s ++ [.int (k : Int), .int (-1)])]⟩) := fun l => by
    rw [pl_addR (i := o.length) (j := o.length + 1) (xs := (row.map .int).take s) (ys := [.int (k : Int), .int (-1)]) (app_at (i := 0)) (app_at (i := 1)) (by simp; omega)]
    simp
  have a7 : ∀ y l A B C, cutA none (ldA (.fast 1)) (ptS (ldA (.fast 3))) ptN ⟨[y, some (.ref r), l, some (.int (s : Int))], none, o ++ [A, B, C]⟩ = some (.ref (o.length + 3), ⟨[y, some (.ref r), l, some (.int (s : Int))], none, o ++ [A, B, C, .flat ((row.map .int).drop s)]⟩) := fun y l A B C => by
    have := pl_cutR (lo := some (s : Int)) (hi := none) (l := [y, some (.ref r), l, some (.int (s : Int))]) (c := none) (app_get (r := [A, B, C]) hr) (by simp; omega)
    rw [cut_dropN] at this
    refine Eq.trans this ?_
    simp
  have a8 : ∀ l A B, abin .Add (.ref (o.length + 2)) (.ref (o.length + 3)) ⟨l, none, o ++ [A, B, .flat ((row.map .int).take s ++ [.int (k : Int), .int (-1)]), .flat ((row.map .int).drop s)]⟩ = some (.ref (o.length + 4), ⟨l, none, o ++ [A, B, .flat ((row.map .int).take s ++ [.int (k : Int), .int (-1)]), .flat ((row.map .int).drop s), .flat ((rowStep nums row k).map .int)]⟩) := fun l A B => by
    rw [pl_addR (i := o.length + 2) (j := o.length + 3) (xs := (row.map .int).take s ++ [.int (k : Int), .int (-1)]) (ys := (row.map .int).drop s) (app_at (i := 2)) (app_at (i := 3)) (by simp; omega), eR]
    simp
  refine ⟨some (.int (s : Int)), .flat ((row.map .int).take s), .flat [.int (k : Int), .int (-1)], .flat ((row.map .int).take s ++ [.int (k : Int), .int (-1)]), .flat ((row.map .int).drop s), ?_⟩
  delta row_b1
  (repeat (first | (with_reducible exact a1 _) | (with_reducible exact a2 _) | (with_reducible exact a3 _) | (with_reducible exact a4 _ _) | (with_reducible exact a5 _ _ _ _) | (with_reducible exact a6 _) | (with_reducible exact a7 _ _ _ _ _) | (with_reducible exact a8 _ _ _) | (with_reducible exact e_cst) | (with_reducible apply e_fast) | (with_reducible apply e_cell) | (with_reducible exact e_cv) | (with_reducible exact get0) | (with_reducible apply getS) | (with_reducible exact e_sk) | (with_reducible exact e_brk) | (with_reducible exact e_argN) | (with_reducible apply e_seqK) | (with_reducible apply seqK_next) | (with_reducible exact seqK_ret) | (with_reducible exact seqK_brk) | (with_reducible apply selB_not) | (with_reducible refine selB_t (by assumption) ?_) | (with_reducible refine selB_f (by assumption) ?_) | (with_reducible refine selB_t (by rfl) ?_) | (with_reducible refine selB_f (by rfl) ?_) | (with_reducible apply e_ite) | (with_reducible apply e_b2) | (with_reducible apply e_truP) | (with_reducible exact ptru_bool) | (with_reducible exact ptru_int) | (with_reducible apply e_not) | (with_reducible apply e_and) | (with_reducible apply e_or) | (with_reducible exact e_tt) | (with_reducible exact e_ff) | (with_reducible apply e_argC) | (with_reducible apply e_call) | (with_reducible apply e_methK) | (with_reducible exact sel_str) | (with_reducible apply e_asgK) | (with_reducible apply e_asgCK) | (with_reducible apply e_augK) | (with_reducible apply e_ret) | (with_reducible apply e_drop) | (with_reducible apply e_negK) | (with_reducible apply e_assK) | (with_reducible apply e_pairK) | (with_reducible exact set0) | (with_reducible apply setS) | (with_reducible exact pl_add) | (with_reducible exact pl_sub) | (with_reducible exact pl_eq) | (with_reducible exact pl_ne) | (with_reducible exact pl_ge) | (with_reducible exact pl_iadd) | (with_reducible exact pl_isub) | (with_reducible exact pl_lt) | (with_reducible exact pl_gt) | (with_reducible exact some_rfl)))
noncomputable def rowL (nums : List Int) : List Int := (List.range 5).foldl (rowStep nums) []
theorem row_eq {i : Nat} {nums : List Int} {σ : AS} (hn : nums.length = 5) (hi : σ.objs[i]? = some (.flat (nums.map .int))) : row_g [.ref i] σ = some (.ref σ.objs.length, { σ with objs := σ.objs ++ [.flat ((rowL nums).map .int)] }) := by
  obtain ⟨σ', h1, _, r, k, sp, o, h2, h3, h4, rfl⟩ := forL_rest (α := Nat) (β := List Int) (chk := fun _ => true) (body := row_b1) (els := skA) (fun rr q σ => ((∀ k ∈ rr, k < 5) ∧ q.length + 2 * rr.length ≤ 20) ∧ ∃ r k sp o, o[0]? = some (.flat (nums.map .int)) ∧ o[r]? = some (.flat (q.map .int)) ∧ 1 ≤ r ∧ σ = ⟨[some (.ref 0), some (.ref r), k, sp], none, o⟩)
    (fun k => stV (.fast 2) (.int (k : Int))) (rowStep nums) (by
      rintro k rr row σ ⟨⟨h1, hq⟩, r, k', sp, o, h2, h3, h4, rfl⟩
      simp only [List.length_cons] at hq
      obtain ⟨sp', A, B, C, D, hb⟩ := row_body (sp := sp) h2 h3 (h1 k (.head _)) hn (by omega)
      refine ⟨_, _, rfl, hb, rfl, ⟨fun x hx => h1 x (.tail _ hx), ?_⟩, o.length + 4, _, _, _, app_get h2, app_at (i := 4), by omega, rfl⟩
      delta rowStep
      simp only [List.length_append, List.length_take, List.length_drop, List.length_cons, List.length_nil]
      omega) (List.range 5) [] ⟨[some (.ref 0), some (.ref 1), none, none], none, [.flat (nums.map .int), .flat []]⟩ ⟨⟨fun x hx => List.mem_range.mp hx, by simp⟩, 1, none, none, [.flat (nums.map .int), .flat []], rfl, rfl, Nat.le_refl _, rfl⟩
  have h1' : forA (itA (.fast 2) (itRangeA (argC (cstA (.int 5)) argN))) row_b1 skA ⟨[some (.ref 0), some (.ref 1), none, none], none, [.flat (nums.map .int), .flat []]⟩ = some (.next, ⟨[some (.ref 0), some (.ref r), k, sp], none, o⟩) := by
    refine e_for (its := (List.range 5).map fun (k : Nat) => stV (.fast 2) (.int (k : Int))) (chk := fun _ => true) (σ₁ := ⟨[some (.ref 0), some (.ref 1), none, none], none, [.flat (nums.map .int), .flat []]⟩) ?_ h1
    rfl
  have hb : row_f (iniB [some 0, none, none, none] [] [.ref 0] [.flat (nums.map .int)]) = some (.ret (.ref r), ⟨[some (.ref 0), some (.ref r), k, sp], none, o⟩) := by
    show row_f ⟨[some (.ref 0), none, none, none], none, [.flat (nums.map .int)]⟩ = _
    delta row_f
    have l1 : ∀ l o0, listA argN ⟨l, none, [o0]⟩ = some (.ref 1, ⟨l, none, [o0, .flat []]⟩) := fun l o0 => rfl
    (repeat (first | (with_reducible exact l1 _ _) | (with_reducible exact h1') | (with_reducible exact e_cst) | (with_reducible apply e_fast) | (with_reducible apply e_cell) | (with_reducible exact e_cv) | (with_reducible exact get0) | (with_reducible apply getS) | (with_reducible exact e_sk) | (with_reducible exact e_brk) | (with_reducible exact e_argN) | (with_reducible apply e_seqK) | (with_reducible apply seqK_next) | (with_reducible exact seqK_ret) | (with_reducible exact seqK_brk) | (with_reducible apply selB_not) | (with_reducible refine selB_t (by assumption) ?_) | (with_reducible refine selB_f (by assumption) ?_) | (with_reducible refine selB_t (by rfl) ?_) | (with_reducible refine selB_f (by rfl) ?_) | (with_reducible apply e_ite) | (with_reducible apply e_b2) | (with_reducible apply e_truP) | (with_reducible exact ptru_bool) | (with_reducible exact ptru_int) | (with_reducible apply e_not) | (with_reducible apply e_and) | (with_reducible apply e_or) | (with_reducible exact e_tt) | (with_reducible exact e_ff) | (with_reducible apply e_argC) | (with_reducible apply e_call) | (with_reducible apply e_methK) | (with_reducible exact sel_str) | (with_reducible apply e_asgK) | (with_reducible apply e_asgCK) | (with_reducible apply e_augK) | (with_reducible apply e_ret) | (with_reducible apply e_drop) | (with_reducible apply e_negK) | (with_reducible apply e_assK) | (with_reducible apply e_pairK) | (with_reducible exact set0) | (with_reducible apply setS) | (with_reducible exact pl_add) | (with_reducible exact pl_sub) | (with_reducible exact pl_eq) | (with_reducible exact pl_ne) | (with_reducible exact pl_ge) | (with_reducible exact pl_iadd) | (with_reducible exact pl_isub) | (with_reducible exact pl_lt) | (with_reducible exact pl_gt) | (with_reducible exact some_rfl)))
  delta row_g
  rw [defG_one (np := 1) (as := [.ref i]) (i := i) (v := .ref r) rfl rfl hi rfl h2 (by
    have e : ([.ref i] : List AV).map (renum [i]) = [.ref 0] := by simp [renum]
    rw [e]; exact hb)]
  exact retG_ref hi rfl h2 h3 h4
end Mine
-- part QT
namespace Mine
noncomputable def dressC (d : Nat) : List Nat := ([[], [34, 40, 34], [34, 41, 34], [34, 92, 34, 41, 34]] : List (List Nat))[d]?.getD []
noncomputable def textI (dress : List Nat) (e : Nat) (x : Int) : List Nat := if 0 ≤ x then (if x = (e : Int) then dress else []) ++ [65 + x.toNat, 40] else [41]
noncomputable def strL (l : List Nat) : Str := ⟨l.toArray⟩
noncomputable def textsS (row : List Int) (n : Int) (dr : List Nat) (ts : List Str) (k t : Option AV) (dl : List AV) : AS := ⟨[some (.ref 0), some (.int n), some (.str (strL dr)), some (.ref 2), k, t], none, [.flat (row.map .int), .flat dl, .flat (ts.map .str)]⟩
theorem strL_app {a b : List Nat} : strL a ++ strL b = strL (a ++ b) := by
  apply Str.ext'
  apply Array.toList_inj.mp
  show (a.toArray ++ b.toArray).toList = _
  simp [strL]
theorem texts_body {row : List Int} {n : Int} {d e : Nat} {ts : List Str} {t : Option AV} {dl : List AV} {x : Int} (hx : -1 ≤ x ∧ x < 5) (he : n.fmod 5 = (e : Int)) (hd : d < 4) (hl : ts.length ≤ 100) :
    ∃ t', texts_b1 (textsS row n (dressC d) ts (some (.int x)) t dl) = some (.next, textsS row n (dressC d) (ts ++ [strL (textI (dressC d) e x)]) (some (.int x)) t' dl) := by
  have hdl : (dressC d).length ≤ 5 := by
    have hc : d = 0 ∨ d = 1 ∨ d = 2 ∨ d = 3 := by omega
    rcases hc with rfl | rfl | rfl | rfl <;> decide
  generalize dressC d = dr at hdl
  have a_isl : ∀ l cv a b d, isListV (.ref 2) ⟨l, cv, [a, b, .flat d]⟩ = true := fun l cv a b d => rfl
  have a_app : ∀ (s : Str) l cv a b, appendG [.ref 2, .str s] ⟨l, cv, [a, b, .flat (ts.map .str)]⟩ = some (.none, ⟨l, cv, [a, b, .flat ((ts ++ [s]).map .str)]⟩) := fun s l cv a b => by
    show (if plainV (.str s) = true ∧ (ts.map AV.str).length ≤ 100000 then _ else _) = _
    rw [if_pos ⟨rfl, by rw [List.length_map]; omega⟩, List.map_append]; rfl
  have b1 : ∀ σ : AS, abin .Add (.int 65) (.int x) σ = some (.int (65 + x), σ) := fun σ => rfl
  have b3 : ∀ σ : AS, abin .Mod (.int n) (.int 5) σ = some (.int (e : Int), σ) := fun σ => by rw [pl_mod (by decide), he]
  by_cases h0 : 0 ≤ x
  · obtain ⟨m, rfl⟩ := Int.eq_ofNat_of_zero_le h0
    have c1 : decide ((0 : Int) ≤ (m : Int)) = true := decide_eq_true h0
    have b2 : ∀ σ : AS, chrG [.int (65 + (m : Int))] σ = some (.str (strL [65 + m]), σ) := fun σ => by
      have : (decide ((65 + (m : Int)) < 0) || decide ((65 + (m : Int)) > 0x10FFFF)) = false := by
        rw [Bool.or_eq_false_iff]; exact ⟨decide_eq_false (by omega), decide_eq_false (by omega)⟩
      show (if (decide ((65 + (m : Int)) < 0) || decide ((65 + (m : Int)) > 0x10FFFF)) = false then _ else _) = _
      rw [if_pos this]
      have e1 : (65 + (m : Int)).toNat = 65 + m := by omega
      rw [e1]; rfl
    have b4 : ∀ σ : AS, abin .Add (.str (strL [65 + m])) (.str ⟨#[40]⟩) σ = some (.str (strL [65 + m, 40]), σ) := fun σ => by
      rw [pl_sadd (by show 1 + 1 ≤ _; omega)]
      have : strL [65 + m] ++ (⟨#[40]⟩ : Str) = strL [65 + m, 40] := strL_app (a := [65 + m]) (b := [40])
      rw [this]
    by_cases h1 : (m : Int) = (e : Int)
    · have c2 : ((m : Int) == (e : Int)) = true := by rw [beq_iff_eq]; exact h1
      have b5 : ∀ σ : AS, abin .Add (.str (strL dr)) (.str (strL [65 + m, 40])) σ = some (.str (strL (dr ++ [65 + m, 40])), σ) := fun σ => by
        rw [pl_sadd (by show dr.toArray.size + 2 ≤ _; rw [List.size_toArray]; omega), strL_app]
      have eT : textI dr e (m : Int) = dr ++ [65 + m, 40] := by delta textI; rw [if_pos h0, if_pos h1, Int.toNat_natCast]
      rw [eT]
      refine ⟨some (.str (strL (dr ++ [65 + m, 40]))), ?_⟩
      delta texts_b1 textsS
      rw [q40, q41]
      (repeat (first | (with_reducible exact a_isl _ _ _ _ _) | (with_reducible exact a_app _ _ _ _ _) | (with_reducible exact b1 _) | (with_reducible exact b2 _) | (with_reducible exact b3 _) | (with_reducible exact b4 _) | (with_reducible exact b5 _) | (with_reducible exact e_cst) | (with_reducible apply e_fast) | (with_reducible apply e_cell) | (with_reducible exact e_cv) | (with_reducible exact get0) | (with_reducible apply getS) | (with_reducible exact e_sk) | (with_reducible exact e_brk) | (with_reducible exact e_argN) | (with_reducible apply e_seqK) | (with_reducible apply seqK_next) | (with_reducible exact seqK_ret) | (with_reducible exact seqK_brk) | (with_reducible apply selB_not) | (with_reducible refine selB_t (by assumption) ?_) | (with_reducible refine selB_f (by assumption) ?_) | (with_reducible refine selB_t (by rfl) ?_) | (with_reducible refine selB_f (by rfl) ?_) | (with_reducible apply e_ite) | (with_reducible apply e_b2) | (with_reducible apply e_truP) | (with_reducible exact ptru_bool) | (with_reducible exact ptru_int) | (with_reducible apply e_not) | (with_reducible apply e_and) | (with_reducible apply e_or) | (with_reducible exact e_tt) | (with_reducible exact e_ff) | (with_reducible apply e_argC) | (with_reducible apply e_call) | (with_reducible apply e_methK) | (with_reducible exact sel_str) | (with_reducible apply e_asgK) | (with_reducible apply e_asgCK) | (with_reducible apply e_augK) | (with_reducible apply e_ret) | (with_reducible apply e_drop) | (with_reducible apply e_negK) | (with_reducible apply e_assK) | (with_reducible apply e_pairK) | (with_reducible exact set0) | (with_reducible apply setS) | (with_reducible exact pl_add) | (with_reducible exact pl_sub) | (with_reducible exact pl_eq) | (with_reducible exact pl_ne) | (with_reducible exact pl_ge) | (with_reducible exact pl_iadd) | (with_reducible exact pl_isub) | (with_reducible exact pl_lt) | (with_reducible exact pl_gt) | (with_reducible exact some_rfl)))
    · have c2 : ((m : Int) == (e : Int)) = false := by rw [beq_eq_false_iff_ne]; exact h1
      have eT : textI dr e (m : Int) = [65 + m, 40] := by delta textI; rw [if_pos h0, if_neg h1, Int.toNat_natCast]; rfl
      rw [eT]
      refine ⟨some (.str (strL [65 + m, 40])), ?_⟩
      delta texts_b1 textsS
      rw [q40, q41]
      (repeat (first | (with_reducible exact a_isl _ _ _ _ _) | (with_reducible exact a_app _ _ _ _ _) | (with_reducible exact b1 _) | (with_reducible exact b2 _) | (with_reducible exact b3 _) | (with_reducible exact b4 _) | (with_reducible exact e_cst) | (with_reducible apply e_fast) | (with_reducible apply e_cell) | (with_reducible exact e_cv) | (with_reducible exact get0) | (with_reducible apply getS) | (with_reducible exact e_sk) | (with_reducible exact e_brk) | (with_reducible exact e_argN) | (with_reducible apply e_seqK) | (with_reducible apply seqK_next) | (with_reducible exact seqK_ret) | (with_reducible exact seqK_brk) | (with_reducible apply selB_not) | (with_reducible refine selB_t (by assumption) ?_) | (with_reducible refine selB_f (by assumption) ?_) | (with_reducible refine selB_t (by rfl) ?_) | (with_reducible refine selB_f (by rfl) ?_) | (with_reducible apply e_ite) | (with_reducible apply e_b2) | (with_reducible apply e_truP) | (with_reducible exact ptru_bool) | (with_reducible exact ptru_int) | (with_reducible apply e_not) | (with_reducible apply e_and) | (with_reducible apply e_or) | (with_reducible exact e_tt) | (with_reducible exact e_ff) | (with_reducible apply e_argC) | (with_reducible apply e_call) | (with_reducible apply e_methK) | (with_reducible exact sel_str) | (with_reducible apply e_asgK) | (with_reducible apply e_asgCK) | (with_reducible apply e_augK) | (with_reducible apply e_ret) | (with_reducible apply e_drop) | (with_reducible apply e_negK) | (with_reducible apply e_assK) | (with_reducible apply e_pairK) | (with_reducible exact set0) | (with_reducible apply setS) | (with_reducible exact pl_add) | (with_reducible exact pl_sub) | (with_reducible exact pl_eq) | (with_reducible exact pl_ne) | (with_reducible exact pl_ge) | (with_reducible exact pl_iadd) | (with_reducible exact pl_isub) | (with_reducible exact pl_lt) | (with_reducible exact pl_gt) | (with_reducible exact some_rfl)))
  · have c1 : decide ((0 : Int) ≤ x) = false := decide_eq_false h0
    have eT : textI dr e x = [41] := by delta textI; rw [if_neg h0]
    rw [eT]
    have eq41 : (⟨#[41]⟩ : Str) = strL [41] := rfl
    refine ⟨some (.str (strL [41])), ?_⟩
    delta texts_b1 textsS
    rw [q41, eq41]
    (repeat (first | (with_reducible exact a_isl _ _ _ _ _) | (with_reducible exact a_app _ _ _ _ _) | (with_reducible exact e_cst) | (with_reducible apply e_fast) | (with_reducible apply e_cell) | (with_reducible exact e_cv) | (with_reducible exact get0) | (with_reducible apply getS) | (with_reducible exact e_sk) | (with_reducible exact e_brk) | (with_reducible exact e_argN) | (with_reducible apply e_seqK) | (with_reducible apply seqK_next) | (with_reducible exact seqK_ret) | (with_reducible exact seqK_brk) | (with_reducible apply selB_not) | (with_reducible refine selB_t (by assumption) ?_) | (with_reducible refine selB_f (by assumption) ?_) | (with_reducible refine selB_t (by rfl) ?_) | (with_reducible refine selB_f (by rfl) ?_) | (with_reducible apply e_ite) | (with_reducible apply e_b2) | (with_reducible apply e_truP) | (with_reducible exact ptru_bool) | (with_reducible exact ptru_int) | (with_reducible apply e_not) | (with_reducible apply e_and) | (with_reducible apply e_or) | (with_reducible exact e_tt) | (with_reducible exact e_ff) | (with_reducible apply e_argC) | (with_reducible apply e_call) | (with_reducible apply e_methK) | (with_reducible exact sel_str) | (with_reducible apply e_asgK) | (with_reducible apply e_asgCK) | (with_reducible apply e_augK) | (with_reducible apply e_ret) | (with_reducible apply e_drop) | (with_reducible apply e_negK) | (with_reducible apply e_assK) | (with_reducible apply e_pairK) | (with_reducible exact set0) | (with_reducible apply setS) | (with_reducible exact pl_add) | (with_reducible exact pl_sub) | (with_reducible exact pl_eq) | (with_reducible exact pl_ne) | (with_reducible exact pl_ge) | (with_reducible exact pl_iadd) | (with_reducible exact pl_isub) | (with_reducible exact pl_lt) | (with_reducible exact pl_gt) | (with_reducible exact some_rfl)))
theorem dress_eq : listA (argC (cstA (.str "")) (argC (cstA (.str "\"(\"")) (argC (cstA (.str "\")\"")) (argC (cstA (.str "\"\\\")\"")) argN)))) = listA (fun σ => some ((List.range 4).map fun k => .str (strL (dressC k)), σ)) := by
  have h : ([.str "", .str "\"(\"", .str "\")\"", .str "\"\\\")\""] : List AV) = (List.range 4).map fun k => .str (strL (dressC k)) := by decide +kernel
  have : (argC (cstA (.str "")) (argC (cstA (.str "\"(\"")) (argC (cstA (.str "\")\"")) (argC (cstA (.str "\"\\\")\"")) argN)))) = fun σ => some ((List.range 4).map fun k => AV.str (strL (dressC k)), σ) := by
    funext σ
    rw [← h]
    rfl
  rw [this]
theorem texts_eq {i d e : Nat} {row : List Int} {n : Int} {σ : AS} (hr : ∀ x ∈ row, -1 ≤ x ∧ x < 5) (hl : row.length ≤ 50) (he : n.fmod 5 = (e : Int)) (hd : d < 4) (hde : (n.fdiv 5).fmod 4 = (d : Int)) (hi : σ.objs[i]? = some (.flat (row.map .int))) :
    texts_g [.ref i, .int n] σ = some (.ref σ.objs.length, { σ with objs := σ.objs ++ [.flat ((row.map fun x => strL (textI (dressC d) e x)).map .str)] }) := by
  obtain ⟨σ', h1, _, k, t, hσ⟩ := forL_rest (α := Int) (β := List Str) (chk := fun σ => decide (getFlat σ 0 = some (row.map .int))) (body := texts_b1) (els := skA) (fun rr q σ => ((∀ x ∈ rr, -1 ≤ x ∧ x < 5) ∧ q.length + rr.length ≤ 50) ∧ ∃ k t, σ = textsS row n (dressC d) q k t ((List.range 4).map fun k => .str (strL (dressC k))))
    (fun x => stV (.fast 4) (.int x)) (fun q x => q ++ [strL (textI (dressC d) e x)]) (by
      rintro x rr ts σ ⟨⟨h1, hq⟩, k, t, rfl⟩
      simp only [List.length_cons] at hq
      obtain ⟨t', hb⟩ := texts_body (row := row) (ts := ts) (t := t) (dl := (List.range 4).map fun k => .str (strL (dressC k))) (h1 x (.head _)) he hd (by omega)
      exact ⟨_, _, rfl, hb, decide_eq_true rfl, ⟨fun y hy => h1 y (.tail _ hy), by simp; omega⟩, _, _, rfl⟩) row [] (textsS row n (dressC d) [] none none ((List.range 4).map fun k => .str (strL (dressC k)))) ⟨⟨hr, by simpa using hl⟩, none, none, rfl⟩
  have hf : ∀ (r : List Int) (q : List Str), r.foldl (fun q x => q ++ [strL (textI (dressC d) e x)]) q = q ++ r.map fun x => strL (textI (dressC d) e x) := by
    intro r
    induction r with
    | nil => intro q; simp
    | cons a r ih => intro q; rw [List.foldl_cons, ih]; simp
  rw [hf, List.nil_append] at hσ
  subst hσ
  have h1' : forA (itA (.fast 4) (itListA (ldA (.fast 0)))) texts_b1 skA (textsS row n (dressC d) [] none none ((List.range 4).map fun k => .str (strL (dressC k)))) = some (.next, textsS row n (dressC d) (row.map fun x => strL (textI (dressC d) e x)) k t ((List.range 4).map fun k => .str (strL (dressC k)))) := by
    refine e_for (e_itL (e_fast get0) rfl) ?_
    rw [List.map_map]
    exact h1
  have hb : texts_f (iniB [some 0, some 1, none, none, none, none] [] [.ref 0, .int n] [.flat (row.map .int)]) = some (.ret (.ref 2), textsS row n (dressC d) (row.map fun x => strL (textI (dressC d) e x)) k t ((List.range 4).map fun k => .str (strL (dressC k)))) := by
    show texts_f ⟨[some (.ref 0), some (.int n), none, none, none, none], none, [.flat (row.map .int)]⟩ = _
    delta texts_f
    rw [dress_eq]
    have l1 : ∀ l o0, listA (fun σ => some ((List.range 4).map fun k => .str (strL (dressC k)), σ)) ⟨l, none, [o0]⟩ = some (.ref 1, ⟨l, none, [o0, .flat ((List.range 4).map fun k => .str (strL (dressC k)))]⟩) := fun l o0 => rfl
    have l2 : ∀ l o0 o1, listA argN ⟨l, none, [o0, o1]⟩ = some (.ref 2, ⟨l, none, [o0, o1, .flat (([] : List Str).map .str)]⟩) := fun l o0 o1 => rfl
    have l3 : ∀ σ : AS, abin .Mod (.int (n.fdiv 5)) (.int 4) σ = some (.int (d : Int), σ) := fun σ => by rw [pl_mod (by decide), hde]
    have l4 : ∀ l o0, subG (.ref 1) (.int (d : Int)) ⟨l, none, [o0, .flat ((List.range 4).map fun k => .str (strL (dressC k)))]⟩ = some (.str (strL (dressC d)), ⟨l, none, [o0, .flat ((List.range 4).map fun k => .str (strL (dressC k)))]⟩) := fun l o0 => pl_sub_at rfl (by omega) (by rw [List.getElem?_map, List.getElem?_range hd]; rfl)
    delta textsS at h1' ⊢
    (repeat (first | (with_reducible exact l1 _ _) | (with_reducible exact l2 _ _ _) | (with_reducible exact l3 _) | (with_reducible exact l4 _ _) | (with_reducible exact h1') | (with_reducible exact pl_fdiv (by decide) (by decide)) | (with_reducible exact e_cst) | (with_reducible apply e_fast) | (with_reducible apply e_cell) | (with_reducible exact e_cv) | (with_reducible exact get0) | (with_reducible apply getS) | (with_reducible exact e_sk) | (with_reducible exact e_brk) | (with_reducible exact e_argN) | (with_reducible apply e_seqK) | (with_reducible apply seqK_next) | (with_reducible exact seqK_ret) | (with_reducible exact seqK_brk) | (with_reducible apply selB_not) | (with_reducible refine selB_t (by assumption) ?_) | (with_reducible refine selB_f (by assumption) ?_) | (with_reducible refine selB_t (by rfl) ?_) | (with_reducible refine selB_f (by rfl) ?_) | (with_reducible apply e_ite) | (with_reducible apply e_b2) | (with_reducible apply e_truP) | (with_reducible exact ptru_bool) | (with_reducible exact ptru_int) | (with_reducible apply e_not) | (with_reducible apply e_and) | (with_reducible apply e_or) | (with_reducible exact e_tt) | (with_reducible exact e_ff) | (with_reducible apply e_argC) | (with_reducible apply e_call) | (with_reducible apply e_methK) | (with_reducible exact sel_str) | (with_reducible apply e_asgK) | (with_reducible apply e_asgCK) | (with_reducible apply e_augK) | (with_reducible apply e_ret) | (with_reducible apply e_drop) | (with_reducible apply e_negK) | (with_reducible apply e_assK) | (with_reducible apply e_pairK) | (with_reducible exact set0) | (with_reducible apply setS) | (with_reducible exact pl_add) | (with_reducible exact pl_sub) | (with_reducible exact pl_eq) | (with_reducible exact pl_ne) | (with_reducible exact pl_ge) | (with_reducible exact pl_iadd) | (with_reducible exact pl_isub) | (with_reducible exact pl_lt) | (with_reducible exact pl_gt) | (with_reducible exact some_rfl)))
  delta texts_g
  rw [defG_one (np := 2) (as := [.ref i, .int n]) (i := i) (v := .ref 2) rfl rfl hi rfl rfl (by
    have e : ([.ref i, .int n] : List AV).map (renum [i]) = [.ref 0, .int n] := by simp [renum]
    rw [e]; exact hb)]
  exact retG_ref hi rfl rfl rfl (by omega)
end Mine
-- part QO
namespace Mine
theorem e_cut {old : Option (Addr × List Int)} {fv : AS → Option (AV × AS)} {fl fu : AS → Option (Option Int × AS)} {σ σ₁ σ₂ σ₃ : AS} {a : AV} {lo hi : Option Int} {r : Option (AV × AS)} (h1 : fv σ = some (a, σ₁)) (h2 : fl σ₁ = some (lo, σ₂)) (h3 : fu σ₂ = some (hi, σ₃)) (h4 : cutG old a lo hi σ₃ = r) : cutA old fv fl fu σ = r := by
  simp only [cutA, h1, h2, h3, h4]
theorem e_ptS {f : AS → Option (AV × AS)} {σ σ₁ : AS} {i : Int} (h : f σ = some (.int i, σ₁)) : ptS f σ = some (some i, σ₁) := by simp only [ptS, h]
noncomputable def countR : Nat → List Int → Bool
  | k, [] => k == 1
  | k, x :: r => if 0 ≤ x then countR (k + 1) r else match k with
    | 0 => false
    | j + 1 => countR j r
theorem dress_strip : ∀ d, d < 4 → ∀ r, stripGo none false (dressC d ++ r) = stripGo none false r
  | 0, _, _ => rfl
  | 1, _, _ => rfl
  | 2, _, _ => rfl
  | 3, _, _ => rfl
  | d + 4, h, _ => absurd h (Nat.not_lt.mpr (Nat.le_add_left 4 d))
theorem letter_count : ∀ m, m < 5 → ∀ k l, countGo false k (stripGo none false ((65 + m) :: 40 :: l)) = countGo false (k + 1) (stripGo none false l)
  | 0, _, _, _ => rfl
  | 1, _, _, _ => rfl
  | 2, _, _, _ => rfl
  | 3, _, _, _ => rfl
  | 4, _, _, _ => rfl
  | d + 5, h, _, _ => absurd h (Nat.not_lt.mpr (Nat.le_add_left 5 d))
theorem text_one {d e : Nat} {x : Int} (hd : d < 4) (hx : -1 ≤ x ∧ x < 5) (k : Nat) (l : List Nat) : countGo false k (stripGo none false (textI (dressC d) e x ++ l)) = if 0 ≤ x then countGo false (k + 1) (stripGo none false l) else match k with
    | 0 => false
    | j + 1 => countGo false j (stripGo none false l) := by
  by_cases h0 : 0 ≤ x
  · obtain ⟨m, rfl⟩ := Int.eq_ofNat_of_zero_le h0
    have hm : m < 5 := Int.ofNat_lt.mp hx.2
    rw [if_pos h0]
    delta textI
    rw [if_pos h0, Int.toNat_natCast]
    by_cases he : (m : Int) = (e : Int)
    · rw [if_pos he, List.append_assoc, dress_strip d hd]
      exact letter_count m hm k l
    · rw [if_neg he]
      exact letter_count m hm k l
  · rw [if_neg h0]
    delta textI
    rw [if_neg h0]
    cases k <;> rfl
theorem texts_count {d e : Nat} (hd : d < 4) : ∀ (r : List Int) (k : Nat), (∀ x ∈ r, -1 ≤ x ∧ x < 5) → countGo false k (stripGo none false ((r.map (textI (dressC d) e)).flatten ++ [41])) = countR k r
  | [], k, _ => by
    match k with
    | 0 => rfl
    | 1 => rfl
    | k + 2 => simp [stripGo, countGo, countR]
  | x :: r, k, h => by
    rw [List.map_cons, List.flatten_cons, List.append_assoc, text_one hd (h x (.head _))]
    unfold countR
    split
    · exact texts_count hd r _ (fun y hy => h y (.tail _ hy))
    · cases k with
      | zero => rfl
      | succ k => exact texts_count hd r _ (fun y hy => h y (.tail _ hy))
noncomputable def offT (T : Int → List Nat) (row : List Int) (i : Nat) : Nat := ((row.take i).map T).flatten.length
theorem seg_off {T : Int → List Nat} {row : List Int} {p i : Nat} (hp : p ≤ i) (hi : i ≤ row.length) : segN (strL (row.map T).flatten) (offT T row p) (offT T row i) = (((row.take i).drop p).map T).flatten := by
  have h1 : row = (row.take p ++ (row.take i).drop p) ++ row.drop i := by
    have e1 : row.take p = (row.take i).take p := by rw [List.take_take, Nat.min_eq_left hp]
    rw [e1, List.take_append_drop, List.take_append_drop]
  have h2 : row.take i = row.take p ++ (row.take i).drop p := by
    have e1 : row.take p = (row.take i).take p := by rw [List.take_take, Nat.min_eq_left hp]
    rw [e1, List.take_append_drop]
  have e3 : offT T row i = offT T row p + (((row.take i).drop p).map T).flatten.length := by
    delta offT
    conv => lhs; rw [h2]
    rw [List.map_append, List.flatten_append, List.length_append]
  delta segN
  rw [e3, Nat.add_sub_cancel_left]
  show (((row.map T).flatten.toArray.toList).drop (offT T row p)).take _ = _
  have e4 : (row.map T).flatten = ((row.take p).map T).flatten ++ ((((row.take i).drop p).map T).flatten ++ ((row.drop i).map T).flatten) := by
    conv => lhs; rw [h1]
    simp only [List.map_append, List.flatten_append, List.append_assoc]
  rw [show (row.map T).flatten.toArray.toList = (row.map T).flatten from rfl, e4]
  have e5 : offT T row p = ((row.take p).map T).flatten.length := rfl
  rw [e5, List.drop_left, List.take_left]
theorem off_le {T : Int → List Nat} {row : List Int} {p i : Nat} (hp : p ≤ i) : offT T row p ≤ offT T row i := by
  have h2 : row.take i = row.take p ++ (row.take i).drop p := by
    have e1 : row.take p = (row.take i).take p := by rw [List.take_take, Nat.min_eq_left hp]
    rw [e1, List.take_append_drop]
  delta offT
  rw [h2, List.map_append, List.flatten_append, List.length_append]
  exact Nat.le_add_right _ _
theorem off_len {T : Int → List Nat} {row : List Int} (hT : ∀ x, (T x).length ≤ 10) (i : Nat) (hr : row.length ≤ 50) : offT T row i ≤ 500 := by
  delta offT
  have h1 : ((row.take i).map T).flatten.length ≤ ((row.take i).map T).length * 10 := len_flat (fun u hu => by
    obtain ⟨x, _, rfl⟩ := List.mem_map.mp hu
    exact hT x)
  rw [List.length_map, List.length_take] at h1
  omega
theorem off_succ {T : Int → List Nat} {row : List Int} {i : Nat} {x : Int} (h : row[i]? = some x) : offT T row (i + 1) = offT T row i + (T x).length := by
  delta offT
  rw [List.take_add_one, h]
  simp
noncomputable def whileR (row : List Int) (i : Nat) (ps : List Nat) (outs : List Int) : Nat → Int → Option Int
  | 0, _ => none
  | k + 1, j => if 0 ≤ j then match ps[j.toNat]? with
      | none => none
      | some p => if countR 0 ((row.take i).drop p) = true then some j else match outs[j.toNat]? with
        | none => none
        | some j' => whileR row i ps outs k j'
    else some j
noncomputable def outersGo (row : List Int) : Nat → Nat → List Nat → List Int → Option (List Nat × List Int)
  | 0, _, ps, outs => some (ps, outs)
  | m + 1, i, ps, outs => match row[i]? with
    | none => none
    | some x => if 0 ≤ x then match whileR row i ps outs 12 ((ps.length : Int) - 1) with
        | none => none
        | some j => outersGo row m (i + 1) (ps ++ [i]) (outs ++ [j])
      else outersGo row m (i + 1) ps outs
noncomputable def outersS (T : Int → List Nat) (row : List Int) (ps : List Nat) (outs : List Int) (place : Nat) (t j : Option AV) : AS :=
  ⟨[some (.ref 0), some (.str (strL (row.map T).flatten)), some (.ref 1), some (.ref 2), some (.int (place : Int)), t, j], none, [.flat ((row.map fun x => strL (T x)).map .str), .flat (ps.map fun p => .int ((offT T row p : Nat) : Int)), .flat (outs.map .int)]⟩
noncomputable abbrev testO : AS → Option (Bool × AS) := (andT (truA (b2A (ldA (.fast 6)) (cstA (.int 0)) (cmpG .GtE))) (andT (notT (truA (callA (argC (b2A (cutA none (ldA (.fast 1)) (ptS (b2A (ldA (.fast 2)) (ldA (.fast 6)) subG)) (ptS (ldA (.fast 4)))) (cstA (.str ")")) (abin .Add)) argN) check_g))) ttT))
section
variable {d e : Nat} {row : List Int} {ps : List Nat} {outs : List Int} {t : Option AV}
theorem dress_len : ∀ d, d < 4 → (dressC d).length ≤ 5 := by decide
theorem textI_len (hd : d < 4) (x : Int) : (textI (dressC d) e x).length ≤ 10 := by
  unfold textI
  by_cases h0 : 0 ≤ x
  · rw [if_pos h0]
    by_cases h1 : x = (e : Int)
    · rw [if_pos h1, List.length_append]
      exact Nat.le_trans (Nat.add_le_add_right (dress_len d hd) 2) (by decide)
    · rw [if_neg h1]; exact (by decide : 2 ≤ 10)
  · rw [if_neg h0]; exact (by decide : 1 ≤ 10)
theorem test_eq (hd : d < 4) (hr : ∀ x ∈ row, -1 ≤ x ∧ x < 5) (hl : row.length ≤ 50) {i : Nat} (hi : i ≤ row.length) {j p : Nat} (hp : ps[j]? = some p) (hpi : p ≤ i) (hj : ps.length ≤ 100) :
    testO (outersS (textI (dressC d) e) row ps outs (offT (textI (dressC d) e) row i) t (some (.int (j : Int)))) = some (!countR 0 ((row.take i).drop p), outersS (textI (dressC d) e) row ps outs (offT (textI (dressC d) e) row i) t (some (.int (j : Int)))) := by
  have hj' := (List.getElem?_eq_some_iff.mp hp).1
  have hT := textI_len (e := e) hd
  have hc : ∀ x ∈ (row.take i).drop p, -1 ≤ x ∧ x < 5 := fun x hx => hr x (List.mem_of_mem_take (List.mem_of_mem_drop hx))
  have hcnt := texts_count (d := d) (e := e) hd ((row.take i).drop p) 0 hc
  generalize textI (dressC d) e = T at hT hcnt ⊢
  have hseg := seg_off (T := T) (row := row) hpi hi
  have h1 := off_le (T := T) (row := row) hpi
  have h2 := off_le (T := T) (row := row) hi
  have h3 := off_len (T := T) (row := row) hT i hl
  have hll : (strL (row.map T).flatten).length = offT T row row.length := by
    delta offT; rw [List.take_length]; show (row.map T).flatten.toArray.size = _; rw [List.size_toArray]
  have h4 := off_len (T := T) (row := row) hT row.length hl
  have c1 : decide ((0 : Int) ≤ (j : Int)) = true := decide_eq_true (by omega)
  have a1 : ∀ l c o q, subG (.ref 1) (.int (j : Int)) ⟨l, c, [o, .flat (ps.map fun p => .int ((offT T row p : Nat) : Int)), q]⟩ = some (.int ((offT T row p : Nat) : Int), ⟨l, c, [o, .flat (ps.map fun p => .int ((offT T row p : Nat) : Int)), q]⟩) := fun l c o q => pl_sub_at rfl (by omega) (by rw [List.getElem?_map, hp]; rfl)
  obtain ⟨sl, hsl⟩ : ∃ sl, sl = Txt.slice (strL (row.map T).flatten) (some ((offT T row p : Nat) : Int)) (some ((offT T row i : Nat) : Int)) := ⟨_, rfl⟩
  have hslc : sl.cps.toList = (((row.take i).drop p).map T).flatten := by
    rw [hsl, slice_seg h1 (by rw [hll]; exact h2), hseg]
  have hsll : sl.length ≤ 500 := by
    have : sl.length = sl.cps.toList.length := by simp [Str.length]
    rw [this, hslc, ← hseg]
    delta segN
    rw [List.length_take]; exact Nat.le_trans (Nat.min_le_left _ _) (Nat.le_trans (Nat.sub_le _ _) h3)
  have a2 : ∀ σ : AS, cutG none (.str (strL (row.map T).flatten)) (some ((offT T row p : Nat) : Int)) (some ((offT T row i : Nat) : Int)) σ = some (.str sl, σ) := fun σ => by
    rw [hsl]
    show (if (strL (row.map T).flatten).length ≤ 100000 then _ else _) = _
    rw [if_pos (by omega)]
  have a3 : ∀ σ : AS, abin .Add (.str sl) (.str ⟨#[41]⟩) σ = some (.str (sl ++ ⟨#[41]⟩), σ) := fun σ => pl_sadd (by show sl.length + 1 ≤ _; omega)
  have a4 : ∀ σ : AS, check_g [.str (sl ++ ⟨#[41]⟩)] σ = some (.bool (countR 0 ((row.take i).drop p)), σ) := fun σ => by
    rw [check_eq _ (by rw [slen_app]; show sl.length + 1 ≤ _; omega)]
    have : (sl ++ (⟨#[41]⟩ : Str)).cps.toList = (((row.take i).drop p).map T).flatten ++ [41] := by
      show (sl.cps ++ #[41]).toList = _
      rw [Array.toList_append, hslc]
    rw [this]
    delta checkC
    rw [hcnt]
  delta testO outersS
  rw [q41]
  cases hX : countR 0 ((row.take i).drop p)
  all_goals
    rw [hX] at a4
    first | rw [Bool.not_false] | rw [Bool.not_true]
    (repeat (first | (with_reducible apply e_cut) | (with_reducible apply e_ptS) | (with_reducible exact a1 _ _ _ _) | (with_reducible exact a2 _) | (with_reducible exact a3 _) | (with_reducible exact a4 _) | (with_reducible exact e_cst) | (with_reducible apply e_fast) | (with_reducible apply e_cell) | (with_reducible exact e_cv) | (with_reducible exact get0) | (with_reducible apply getS) | (with_reducible exact e_sk) | (with_reducible exact e_brk) | (with_reducible exact e_argN) | (with_reducible apply e_seqK) | (with_reducible apply seqK_next) | (with_reducible exact seqK_ret) | (with_reducible exact seqK_brk) | (with_reducible apply selB_not) | (with_reducible refine selB_t (by assumption) ?_) | (with_reducible refine selB_f (by assumption) ?_) | (with_reducible refine selB_t (by rfl) ?_) | (with_reducible refine selB_f (by rfl) ?_) | (with_reducible apply e_ite) | (with_reducible apply e_b2) | (with_reducible apply e_truP) | (with_reducible exact ptru_bool) | (with_reducible exact ptru_int) | (with_reducible apply e_not) | (with_reducible apply e_and) | (with_reducible apply e_or) | (with_reducible exact e_tt) | (with_reducible exact e_ff) | (with_reducible apply e_argC) | (with_reducible apply e_call) | (with_reducible apply e_methK) | (with_reducible exact sel_str) | (with_reducible apply e_asgK) | (with_reducible apply e_asgCK) | (with_reducible apply e_augK) | (with_reducible apply e_ret) | (with_reducible apply e_drop) | (with_reducible apply e_negK) | (with_reducible apply e_assK) | (with_reducible apply e_pairK) | (with_reducible exact set0) | (with_reducible apply setS) | (with_reducible exact pl_add) | (with_reducible exact pl_sub) | (with_reducible exact pl_eq) | (with_reducible exact pl_ne) | (with_reducible exact pl_ge) | (with_reducible exact pl_iadd) | (with_reducible exact pl_isub) | (with_reducible exact pl_lt) | (with_reducible exact pl_gt) | (with_reducible exact some_rfl)))
theorem test_neg {T : Int → List Nat} {place : Nat} {j : Int} (hj : ¬ 0 ≤ j) : testO (outersS T row ps outs place t (some (.int j))) = some (false, outersS T row ps outs place t (some (.int j))) := by
  have c1 : decide ((0 : Int) ≤ j) = false := decide_eq_false hj
  delta testO outersS
  (repeat (first | (with_reducible exact e_cst) | (with_reducible apply e_fast) | (with_reducible apply e_cell) | (with_reducible exact e_cv) | (with_reducible exact get0) | (with_reducible apply getS) | (with_reducible exact e_sk) | (with_reducible exact e_brk) | (with_reducible exact e_argN) | (with_reducible apply e_seqK) | (with_reducible apply seqK_next) | (with_reducible exact seqK_ret) | (with_reducible exact seqK_brk) | (with_reducible apply selB_not) | (with_reducible refine selB_t (by assumption) ?_) | (with_reducible refine selB_f (by assumption) ?_) | (with_reducible refine selB_t (by rfl) ?_) | (with_reducible refine selB_f (by rfl) ?_) | (with_reducible apply e_ite) | (with_reducible apply e_b2) | (with_reducible apply e_truP) | (with_reducible exact ptru_bool) | (with_reducible exact ptru_int) | (with_reducible apply e_not) | (with_reducible apply e_and) | (with_reducible apply e_or) | (with_reducible exact e_tt) | (with_reducible exact e_ff) | (with_reducible apply e_argC) | (with_reducible apply e_call) | (with_reducible apply e_methK) | (with_reducible exact sel_str) | (with_reducible apply e_asgK) | (with_reducible apply e_asgCK) | (with_reducible apply e_augK) | (with_reducible apply e_ret) | (with_reducible apply e_drop) | (with_reducible apply e_negK) | (with_reducible apply e_assK) | (with_reducible apply e_pairK) | (with_reducible exact set0) | (with_reducible apply setS) | (with_reducible exact pl_add) | (with_reducible exact pl_sub) | (with_reducible exact pl_eq) | (with_reducible exact pl_ne) | (with_reducible exact pl_ge) | (with_reducible exact pl_iadd) | (with_reducible exact pl_isub) | (with_reducible exact pl_lt) | (with_reducible exact pl_gt) | (with_reducible exact some_rfl)))
theorem body_eq {T : Int → List Nat} {place j : Nat} {j' : Int} (hj : outs[j]? = some j') (hl : outs.length ≤ 100) : outers_b1 (outersS T row ps outs place t (some (.int (j : Int)))) = some (.next, outersS T row ps outs place t (some (.int j'))) := by
  have hj2 := (List.getElem?_eq_some_iff.mp hj).1
  have a1 : ∀ l c o q, subG (.ref 2) (.int (j : Int)) ⟨l, c, [o, q, .flat (outs.map .int)]⟩ = some (.int j', ⟨l, c, [o, q, .flat (outs.map .int)]⟩) := fun l c o q => pl_sub_at rfl (by omega) (by rw [List.getElem?_map, hj]; rfl)
  delta outers_b1 outersS
  (repeat (first | (with_reducible exact a1 _ _ _ _) | (with_reducible exact e_cst) | (with_reducible apply e_fast) | (with_reducible apply e_cell) | (with_reducible exact e_cv) | (with_reducible exact get0) | (with_reducible apply getS) | (with_reducible exact e_sk) | (with_reducible exact e_brk) | (with_reducible exact e_argN) | (with_reducible apply e_seqK) | (with_reducible apply seqK_next) | (with_reducible exact seqK_ret) | (with_reducible exact seqK_brk) | (with_reducible apply selB_not) | (with_reducible refine selB_t (by assumption) ?_) | (with_reducible refine selB_f (by assumption) ?_) | (with_reducible refine selB_t (by rfl) ?_) | (with_reducible refine selB_f (by rfl) ?_) | (with_reducible apply e_ite) | (with_reducible apply e_b2) | (with_reducible apply e_truP) | (with_reducible exact ptru_bool) | (with_reducible exact ptru_int) | (with_reducible apply e_not) | (with_reducible apply e_and) | (with_reducible apply e_or) | (with_reducible exact e_tt) | (with_reducible exact e_ff) | (with_reducible apply e_argC) | (with_reducible apply e_call) | (with_reducible apply e_methK) | (with_reducible exact sel_str) | (with_reducible apply e_asgK) | (with_reducible apply e_asgCK) | (with_reducible apply e_augK) | (with_reducible apply e_ret) | (with_reducible apply e_drop) | (with_reducible apply e_negK) | (with_reducible apply e_assK) | (with_reducible apply e_pairK) | (with_reducible exact set0) | (with_reducible apply setS) | (with_reducible exact pl_add) | (with_reducible exact pl_sub) | (with_reducible exact pl_eq) | (with_reducible exact pl_ne) | (with_reducible exact pl_ge) | (with_reducible exact pl_iadd) | (with_reducible exact pl_isub) | (with_reducible exact pl_lt) | (with_reducible exact pl_gt) | (with_reducible exact some_rfl)))
theorem while_eq (hd : d < 4) (hr : ∀ x ∈ row, -1 ≤ x ∧ x < 5) (hl : row.length ≤ 50) {i : Nat} (hi : i ≤ row.length) (hps : ∀ p ∈ ps, p ≤ i) (hpl : ps.length ≤ 100) (hol : outs.length ≤ 100) : ∀ (k : Nat) (j j' : Int), whileR row i ps outs k j = some j' →
    whlA testO outers_b1 k (outersS (textI (dressC d) e) row ps outs (offT (textI (dressC d) e) row i) t (some (.int j))) = some (.next, outersS (textI (dressC d) e) row ps outs (offT (textI (dressC d) e) row i) t (some (.int j')))
  | 0, _, _, h => by cases h
  | k + 1, j, j', h => by
    unfold whileR at h
    split at h
    · rename_i h0
      obtain ⟨m, rfl⟩ := Int.eq_ofNat_of_zero_le h0
      rw [Int.toNat_natCast] at h
      split at h
      · cases h
      · rename_i p hp
        have ht := test_eq (outs := outs) (e := e) (t := t) hd hr hl hi hp (hps p (List.mem_of_getElem? hp)) hpl
        split at h
        · rename_i hc
          cases h
          rw [hc] at ht
          simp only [whlA, ht, Bool.not_true]
        · rename_i hc
          rw [Bool.not_eq_true] at hc
          rw [hc] at ht
          split at h
          · cases h
          · rename_i j2 hj2
            have hb := body_eq (row := row) (ps := ps) (t := t) (T := textI (dressC d) e) (place := offT (textI (dressC d) e) row i) hj2 hol
            simp only [whlA, ht, Bool.not_false, hb]
            exact while_eq hd hr hl hi hps hpl hol k j2 j' h
    · rename_i h0
      cases h
      simp only [whlA, test_neg h0]
end
end Mine
-- part QP
namespace Mine
section
variable {d e : Nat} {row : List Int} {ps : List Nat} {outs : List Int} {t j : Option AV}
theorem textI_ne (hd : d < 4) {x : Int} (h0 : 0 ≤ x) : (strL (textI (dressC d) e x) != (⟨#[41]⟩ : Str)) = true := by
  rw [bne_iff_ne]
  intro h
  have h2 := congrArg (fun s : Str => s.cps.size) h
  simp only [strL, List.size_toArray] at h2
  delta textI at h2
  rw [if_pos h0] at h2
  simp at h2
theorem ob_close {i : Nat} {x : Int} (h0 : ¬ 0 ≤ x) (hx : row[i]? = some x) : outers_b2 (outersS (textI (dressC d) e) row ps outs (offT (textI (dressC d) e) row i) (some (.str (strL (textI (dressC d) e x)))) j) = some (.next, outersS (textI (dressC d) e) row ps outs (offT (textI (dressC d) e) row (i + 1)) (some (.str (strL (textI (dressC d) e x)))) j) := by
  have eT : textI (dressC d) e x = [41] := by delta textI; rw [if_neg h0]
  rw [off_succ hx, eT]
  generalize textI (dressC d) e = T
  have c1 : ∀ σ : AS, cmpG .NotEq (.str (strL [41])) (.str ⟨#[41]⟩) σ = some (.bool false, σ) := fun σ => rfl
  have c2 : ∀ σ : AS, lenG [.str (strL [41])] σ = some (.int (1 : Int), σ) := fun σ => rfl
  have c3 : ((offT T row i + [41].length : Nat) : Int) = ((offT T row i : Nat) : Int) + 1 := by simp
  delta outers_b2 outersS
  rw [q41, c3]
  (repeat (first | (with_reducible exact c1 _) | (with_reducible exact c2 _) | (with_reducible exact e_cst) | (with_reducible apply e_fast) | (with_reducible apply e_cell) | (with_reducible exact e_cv) | (with_reducible exact get0) | (with_reducible apply getS) | (with_reducible exact e_sk) | (with_reducible exact e_brk) | (with_reducible exact e_argN) | (with_reducible apply e_seqK) | (with_reducible apply seqK_next) | (with_reducible exact seqK_ret) | (with_reducible exact seqK_brk) | (with_reducible apply selB_not) | (with_reducible refine selB_t (by assumption) ?_) | (with_reducible refine selB_f (by assumption) ?_) | (with_reducible refine selB_t (by rfl) ?_) | (with_reducible refine selB_f (by rfl) ?_) | (with_reducible apply e_ite) | (with_reducible apply e_b2) | (with_reducible apply e_truP) | (with_reducible exact ptru_bool) | (with_reducible exact ptru_int) | (with_reducible apply e_not) | (with_reducible apply e_and) | (with_reducible apply e_or) | (with_reducible exact e_tt) | (with_reducible exact e_ff) | (with_reducible apply e_argC) | (with_reducible apply e_call) | (with_reducible apply e_methK) | (with_reducible exact sel_str) | (with_reducible apply e_asgK) | (with_reducible apply e_asgCK) | (with_reducible apply e_augK) | (with_reducible apply e_ret) | (with_reducible apply e_drop) | (with_reducible apply e_negK) | (with_reducible apply e_assK) | (with_reducible apply e_pairK) | (with_reducible exact set0) | (with_reducible apply setS) | (with_reducible exact pl_add) | (with_reducible exact pl_sub) | (with_reducible exact pl_eq) | (with_reducible exact pl_ne) | (with_reducible exact pl_ge) | (with_reducible exact pl_iadd) | (with_reducible exact pl_isub) | (with_reducible exact pl_lt) | (with_reducible exact pl_gt) | (with_reducible exact some_rfl)))
theorem ob_open {i : Nat} (hd : d < 4) (hr : ∀ x ∈ row, -1 ≤ x ∧ x < 5) (hl : row.length ≤ 50) (hps : ∀ p ∈ ps, p ≤ i) (hpl : ps.length ≤ 99) (hol : outs.length ≤ 99) {x jv : Int} (h0 : 0 ≤ x) (hx : row[i]? = some x) (hw : whileR row i ps outs 12 ((ps.length : Int) - 1) = some jv) :
    outers_b2 (outersS (textI (dressC d) e) row ps outs (offT (textI (dressC d) e) row i) (some (.str (strL (textI (dressC d) e x)))) j) = some (.next, outersS (textI (dressC d) e) row (ps ++ [i]) (outs ++ [jv]) (offT (textI (dressC d) e) row (i + 1)) (some (.str (strL (textI (dressC d) e x)))) (some (.int jv))) := by
  have hi : i ≤ row.length := by have := (List.getElem?_eq_some_iff.mp hx).1; omega
  have w := while_eq (d := d) (e := e) (outs := outs) (t := some (.str (strL (textI (dressC d) e x)))) hd hr hl hi hps (by omega) (by omega) 12 ((ps.length : Int) - 1) jv hw
  have hne := textI_ne (e := e) hd h0
  have hTl := textI_len (e := e) hd x
  rw [off_succ hx]
  generalize textI (dressC d) e = T at w hne hTl ⊢
  have c1 : ∀ σ : AS, cmpG .NotEq (.str (strL (T x))) (.str ⟨#[41]⟩) σ = some (.bool true, σ) := fun σ => by
    show some (AV.bool (strL (T x) != ⟨#[41]⟩), σ) = _; rw [hne]
  have c2 : ∀ σ : AS, lenG [.str (strL (T x))] σ = some (.int ((T x).length : Int), σ) := fun σ => by
    have e1 : (strL (T x)).length = (T x).length := by show (T x).toArray.size = _; rw [List.size_toArray]
    rw [pl_lenS (by rw [e1]; omega), e1]
  have c3 : ((offT T row i + (T x).length : Nat) : Int) = ((offT T row i : Nat) : Int) + ((T x).length : Int) := by omega
  have c4 : ∀ l c o q, lenG [.ref 1] ⟨l, c, [o, .flat (ps.map fun p => .int ((offT T row p : Nat) : Int)), q]⟩ = some (.int (ps.length : Int), ⟨l, c, [o, .flat (ps.map fun p => .int ((offT T row p : Nat) : Int)), q]⟩) := fun l c o q => by
    show (if (ps.map fun p => AV.int ((offT T row p : Nat) : Int)).length ≤ 100000 then some (AV.int (ps.map fun p => AV.int ((offT T row p : Nat) : Int)).length, _) else none) = _
    rw [List.length_map, if_pos (by omega)]
  have c5 : ∀ l c o q, appendG [.ref 1, .int ((offT T row i : Nat) : Int)] ⟨l, c, [o, .flat (ps.map fun p => .int ((offT T row p : Nat) : Int)), q]⟩ = some (.none, ⟨l, c, [o, .flat ((ps ++ [i]).map fun p => .int ((offT T row p : Nat) : Int)), q]⟩) := fun l c o q => by
    show (if plainV (.int ((offT T row i : Nat) : Int)) = true ∧ (ps.map fun p => AV.int ((offT T row p : Nat) : Int)).length ≤ 100000 then _ else _) = _
    rw [if_pos ⟨rfl, by rw [List.length_map]; omega⟩, List.map_append]; rfl
  have c6 : ∀ l c o q, appendG [.ref 2, .int jv] ⟨l, c, [o, q, .flat (outs.map .int)]⟩ = some (.none, ⟨l, c, [o, q, .flat ((outs ++ [jv]).map .int)]⟩) := fun l c o q => by
    show (if plainV (.int jv) = true ∧ (outs.map AV.int).length ≤ 100000 then _ else _) = _
    rw [if_pos ⟨rfl, by rw [List.length_map]; omega⟩, List.map_append]; rfl
  have c7 : ∀ l c o q p, isListV (.ref 1) ⟨l, c, [o, .flat q, p]⟩ = true := fun l c o q p => rfl
  have c8 : ∀ l c o q p, isListV (.ref 2) ⟨l, c, [o, p, .flat q]⟩ = true := fun l c o q p => rfl
  delta outers_b2
  delta testO at w
  delta outersS at w ⊢
  rw [q41] at w ⊢
  rw [c3]
  (repeat (first | (with_reducible exact c1 _) | (with_reducible exact c2 _) | (with_reducible exact c4 _ _ _ _) | (with_reducible exact c5 _ _ _ _) | (with_reducible exact c6 _ _ _ _) | (with_reducible exact c7 _ _ _ _ _) | (with_reducible exact c8 _ _ _ _ _) | (with_reducible exact w) | (with_reducible exact e_cst) | (with_reducible apply e_fast) | (with_reducible apply e_cell) | (with_reducible exact e_cv) | (with_reducible exact get0) | (with_reducible apply getS) | (with_reducible exact e_sk) | (with_reducible exact e_brk) | (with_reducible exact e_argN) | (with_reducible apply e_seqK) | (with_reducible apply seqK_next) | (with_reducible exact seqK_ret) | (with_reducible exact seqK_brk) | (with_reducible apply selB_not) | (with_reducible refine selB_t (by assumption) ?_) | (with_reducible refine selB_f (by assumption) ?_) | (with_reducible refine selB_t (by rfl) ?_) | (with_reducible refine selB_f (by rfl) ?_) | (with_reducible apply e_ite) | (with_reducible apply e_b2) | (with_reducible apply e_truP) | (with_reducible exact ptru_bool) | (with_reducible exact ptru_int) | (with_reducible apply e_not) | (with_reducible apply e_and) | (with_reducible apply e_or) | (with_reducible exact e_tt) | (with_reducible exact e_ff) | (with_reducible apply e_argC) | (with_reducible apply e_call) | (with_reducible apply e_methK) | (with_reducible exact sel_str) | (with_reducible apply e_asgK) | (with_reducible apply e_asgCK) | (with_reducible apply e_augK) | (with_reducible apply e_ret) | (with_reducible apply e_drop) | (with_reducible apply e_negK) | (with_reducible apply e_assK) | (with_reducible apply e_pairK) | (with_reducible exact set0) | (with_reducible apply setS) | (with_reducible exact pl_add) | (with_reducible exact pl_sub) | (with_reducible exact pl_eq) | (with_reducible exact pl_ne) | (with_reducible exact pl_ge) | (with_reducible exact pl_iadd) | (with_reducible exact pl_isub) | (with_reducible exact pl_lt) | (with_reducible exact pl_gt) | (with_reducible exact some_rfl)))
theorem outers_loop (hd : d < 4) (hr : ∀ x ∈ row, -1 ≤ x ∧ x < 5) (hl : row.length ≤ 50) : ∀ (m i : Nat) (ps : List Nat) (outs : List Int) (t j : Option AV) (q : List Nat × List Int), i + m = row.length → (∀ p ∈ ps, p ≤ i) → ps.length ≤ i → outs.length ≤ i → outersGo row m i ps outs = some q →
    ∃ t' j', forL (fun σ => decide (getFlat σ 0 = some ((row.map fun x => strL (textI (dressC d) e x)).map .str))) outers_b2 skA (((row.drop i).map fun x => AV.str (strL (textI (dressC d) e x))).map (stV (.fast 5))) (outersS (textI (dressC d) e) row ps outs (offT (textI (dressC d) e) row i) t j) = some (.next, outersS (textI (dressC d) e) row q.1 q.2 (offT (textI (dressC d) e) row row.length) t' j')
  | 0, i, ps, outs, t, j, q, h1, h2, h3, h4, h => by
    cases h
    have e1 : i = row.length := by omega
    subst e1
    rw [List.drop_length]
    exact ⟨t, j, rfl⟩
  | m + 1, i, ps, outs, t, j, q, h1, h2, h3, h4, h => by
    have hi : i < row.length := by omega
    have hx : row[i]? = some row[i] := List.getElem?_eq_getElem hi
    have hd2 : row.drop i = row[i] :: row.drop (i + 1) := List.drop_eq_getElem_cons hi
    generalize row[i] = x at hx hd2
    unfold outersGo at h
    rw [hx] at h
    simp only at h
    rw [hd2]
    have hs : stV (.fast 5) (.str (strL (textI (dressC d) e x))) (outersS (textI (dressC d) e) row ps outs (offT (textI (dressC d) e) row i) t j) = some (outersS (textI (dressC d) e) row ps outs (offT (textI (dressC d) e) row i) (some (.str (strL (textI (dressC d) e x)))) j) := rfl
    simp only [List.map_cons, forL, hs]
    by_cases h0 : 0 ≤ x
    · rw [if_pos h0] at h
      split at h
      · cases h
      · rename_i jv hw
        have hb := ob_open (e := e) (j := j) hd hr hl h2 (by omega) (by omega) h0 hx hw
        obtain ⟨t', j', ih⟩ := outers_loop hd hr hl m (i + 1) (ps ++ [i]) (outs ++ [jv]) (some (.str (strL (textI (dressC d) e x)))) (some (.int jv)) q (by omega) (fun p hp => by
          rcases List.mem_append.mp hp with hp | hp
          · have := h2 p hp; omega
          · rw [List.mem_singleton.mp hp]; omega) (by simp; omega) (by simp; omega) h
        refine ⟨t', j', ?_⟩
        simp only [hb]
        exact (if_pos (decide_eq_true rfl)).trans ih
    · rw [if_neg h0] at h
      have hb := ob_close (d := d) (e := e) (ps := ps) (outs := outs) (j := j) h0 hx
      obtain ⟨t', j', ih⟩ := outers_loop hd hr hl m (i + 1) ps outs (some (.str (strL (textI (dressC d) e x)))) j q (by omega) (fun p hp => by have := h2 p hp; omega) (by omega) (by omega) h
      refine ⟨t', j', ?_⟩
      simp only [hb]
      exact (if_pos (decide_eq_true rfl)).trans ih
end
theorem outers_eq {d e i : Nat} {row : List Int} {σ : AS} {q : List Nat × List Int} (hd : d < 4) (hr : ∀ x ∈ row, -1 ≤ x ∧ x < 5) (hl : row.length ≤ 50) (hq : outersGo row row.length 0 [] [] = some q) (hi : σ.objs[i]? = some (.flat ((row.map fun x => strL (textI (dressC d) e x)).map .str))) :
    outers_g [.ref i] σ = some (.ref σ.objs.length, { σ with objs := σ.objs ++ [.flat (q.2.map .int)] }) := by
  obtain ⟨t', j', h1⟩ := outers_loop (e := e) hd hr hl row.length 0 [] [] none none q (by omega) (fun p hp => absurd hp List.not_mem_nil) (by simp) (by simp) hq
  have hTl := textI_len (e := e) hd
  have h1' : forA (itA (.fast 5) (itListA (ldA (.fast 0)))) outers_b2 skA (outersS (textI (dressC d) e) row [] [] 0 none none) = some (.next, outersS (textI (dressC d) e) row q.1 q.2 (offT (textI (dressC d) e) row row.length) t' j') := by
    refine e_for (e_itL (e_fast get0) rfl) ?_
    rw [List.drop_zero] at h1
    have e1 : (row.map fun x => strL (textI (dressC d) e x)).map AV.str = row.map fun x => AV.str (strL (textI (dressC d) e x)) := by rw [List.map_map]; rfl
    have e2 : offT (textI (dressC d) e) row 0 = 0 := by simp [offT]
    rw [e2] at h1
    have e3 : ((row.map fun x => strL (textI (dressC d) e x)).map AV.str).map (stV (.fast 5)) = (row.map fun x => AV.str (strL (textI (dressC d) e x))).map (stV (.fast 5)) := by rw [e1]
    rw [e3]
    exact h1
  generalize textI (dressC d) e = T at *
  have hb : outers_f (iniB [some 0, none, none, none, none, none, none] [] [.ref 0] [.flat ((row.map fun x => strL (T x)).map .str)]) = some (.ret (.ref 2), outersS T row q.1 q.2 (offT T row row.length) t' j') := by
    show outers_f ⟨[some (.ref 0), none, none, none, none, none, none], none, [.flat ((row.map fun x => strL (T x)).map .str)]⟩ = _
    delta outers_f
    rw [q0]
    have ej : joinL (row.map fun x => strL (T x)) = (row.map T).flatten := by
      delta joinL; rw [List.map_map]; rfl
    have hlen : (row.map T).flatten.length ≤ 500 := by
      have := off_len (T := T) (row := row) hTl row.length hl
      unfold offT at this
      rw [List.take_length] at this
      exact this
    have l0 : ∀ l, joinG [.str ⟨#[]⟩, .ref 0] ⟨l, none, [.flat ((row.map fun x => strL (T x)).map .str)]⟩ = some (.str (strL (row.map T).flatten), ⟨l, none, [.flat ((row.map fun x => strL (T x)).map .str)]⟩) := fun l => by
      have := pl_join (res := row.map fun x => strL (T x)) (i := 0) (σ := ⟨l, none, [.flat ((row.map fun x => strL (T x)).map .str)]⟩) rfl (by rw [ej]; omega) (by simp; omega)
      rw [ej] at this
      exact this
    have l1 : ∀ l o0, listA argN ⟨l, none, [o0]⟩ = some (.ref 1, ⟨l, none, [o0, .flat []]⟩) := fun l o0 => rfl
    have l2 : ∀ l o0 o1, listA argN ⟨l, none, [o0, o1]⟩ = some (.ref 2, ⟨l, none, [o0, o1, .flat []]⟩) := fun l o0 o1 => rfl
    have h1'' : forA (itA (.fast 5) (itListA (ldA (.fast 0)))) outers_b2 skA ⟨[some (.ref 0), some (.str (strL (row.map T).flatten)), some (.ref 1), some (.ref 2), some (.int 0), none, none], none, [.flat ((row.map fun x => strL (T x)).map .str), .flat [], .flat []]⟩ = some (.next, outersS T row q.1 q.2 (offT T row row.length) t' j') := h1'
    delta outersS at h1'' ⊢
    (repeat (first | (with_reducible exact l0 _) | (with_reducible exact l1 _ _) | (with_reducible exact l2 _ _ _) | (with_reducible exact h1'') | (with_reducible exact e_cst) | (with_reducible apply e_fast) | (with_reducible apply e_cell) | (with_reducible exact e_cv) | (with_reducible exact get0) | (with_reducible apply getS) | (with_reducible exact e_sk) | (with_reducible exact e_brk) | (with_reducible exact e_argN) | (with_reducible apply e_seqK) | (with_reducible apply seqK_next) | (with_reducible exact seqK_ret) | (with_reducible exact seqK_brk) | (with_reducible apply selB_not) | (with_reducible refine selB_t (by assumption) ?_) | (with_reducible refine selB_f (by assumption) ?_) | (with_reducible refine selB_t (by rfl) ?_) | (with_reducible refine selB_f (by rfl) ?_) | (with_reducible apply e_ite) | (with_reducible apply e_b2) | (with_reducible apply e_truP) | (with_reducible exact ptru_bool) | (with_reducible exact ptru_int) | (with_reducible apply e_not) | (with_reducible apply e_and) | (with_reducible apply e_or) | (with_reducible exact e_tt) | (with_reducible exact e_ff) | (with_reducible apply e_argC) | (with_reducible apply e_call) | (with_reducible apply e_methK) | (with_reducible exact sel_str) | (with_reducible apply e_asgK) | (with_reducible apply e_asgCK) | (with_reducible apply e_augK) | (with_reducible apply e_ret) | (with_reducible apply e_drop) | (with_reducible apply e_negK) | (with_reducible apply e_assK) | (with_reducible apply e_pairK) | (with_reducible exact set0) | (with_reducible apply setS) | (with_reducible exact pl_add) | (with_reducible exact pl_sub) | (with_reducible exact pl_eq) | (with_reducible exact pl_ne) | (with_reducible exact pl_ge) | (with_reducible exact pl_iadd) | (with_reducible exact pl_isub) | (with_reducible exact pl_lt) | (with_reducible exact pl_gt) | (with_reducible exact some_rfl)))
  delta outers_g
  rw [defG_one (np := 1) (as := [.ref i]) (i := i) (v := .ref 2) rfl rfl hi rfl rfl (by
    have e : ([.ref i] : List AV).map (renum [i]) = [.ref 0] := by simp [renum]
    rw [e]; exact hb)]
  exact retG_ref hi rfl rfl rfl (by omega)
end Mine
-- part QH
namespace Mine
noncomputable def hungGo : List Int → List Int → List Int → Option (List Int)
  | [], outs, _ => some outs
  | x :: r, outs, ops => if x < 0 then (if ops = [] then none else hungGo r outs ops.dropLast) else hungGo r (outs ++ [(ops.getLast?).getD (-1)]) (ops ++ [(outs.length : Int)])
noncomputable def hungS (row outs ops : List Int) (k : Option AV) (gs : List AO) : AS := ⟨[some (.ref 0), some (.ref 1), some (.ref 2), k], none, .flat (row.map .int) :: .flat (outs.map .int) :: .flat (ops.map .int) :: gs⟩
theorem h_isl1 {l : List (Option AV)} {c : Option AV} {o : AO} {q : List AV} {p : List AO} : isListV (.ref 1) ⟨l, c, o :: .flat q :: p⟩ = true := rfl
theorem h_isl2 {l : List (Option AV)} {c : Option AV} {o r : AO} {q : List AV} {p : List AO} : isListV (.ref 2) ⟨l, c, o :: r :: .flat q :: p⟩ = true := rfl
theorem hung_pop {row outs ops : List Int} {x : Int} {gs : List AO} (hx : x < 0) (ho : ops ≠ []) (hl : ops.length ≤ 100) : hung_b1 (hungS row outs ops (some (.int x)) gs) = some (.next, hungS row outs ops.dropLast (some (.int x)) gs) := by
  have c1 : decide (x < 0) = true := decide_eq_true hx
  have hl0 : 0 < ops.length := List.length_pos_iff.mpr ho
  have c2 : ∀ l o r, popG [.ref 2] ⟨l, none, o :: r :: .flat (ops.map .int) :: gs⟩ = some (.int (ops.getLast ho), ⟨l, none, o :: r :: .flat (ops.dropLast.map .int) :: gs⟩) := fun l o r => by
    have e1 : (ops.map AV.int)[(ops.map AV.int).length - 1]? = some (.int (ops.getLast ho)) := by
      rw [List.length_map, List.getElem?_map, ← List.getLast?_eq_getElem?, List.getLast?_eq_some_getLast ho]; rfl
    have e2 : (ops.map AV.int).eraseIdx ((ops.map AV.int).length - 1) = ops.dropLast.map .int := by
      rw [List.eraseIdx_length_sub_one, ← List.map_dropLast]
    simp only [popG, List.getElem?_cons_zero, List.getElem?_cons_succ, e1, e2]
    rw [if_pos (by simp; omega)]
    rfl
  delta hung_b1 hungS
  (repeat (first | (with_reducible exact c2 _ _ _) | (with_reducible exact h_isl1) | (with_reducible exact h_isl2) | (with_reducible exact e_cst) | (with_reducible apply e_fast) | (with_reducible apply e_cell) | (with_reducible exact e_cv) | (with_reducible exact get0) | (with_reducible apply getS) | (with_reducible exact e_sk) | (with_reducible exact e_brk) | (with_reducible exact e_argN) | (with_reducible apply e_seqK) | (with_reducible apply seqK_next) | (with_reducible exact seqK_ret) | (with_reducible exact seqK_brk) | (with_reducible apply selB_not) | (with_reducible refine selB_t (by assumption) ?_) | (with_reducible refine selB_f (by assumption) ?_) | (with_reducible refine selB_t (by rfl) ?_) | (with_reducible refine selB_f (by rfl) ?_) | (with_reducible apply e_ite) | (with_reducible apply e_b2) | (with_reducible apply e_truP) | (with_reducible exact ptru_bool) | (with_reducible exact ptru_int) | (with_reducible apply e_not) | (with_reducible apply e_and) | (with_reducible apply e_or) | (with_reducible exact e_tt) | (with_reducible exact e_ff) | (with_reducible apply e_argC) | (with_reducible apply e_call) | (with_reducible apply e_methK) | (with_reducible exact sel_str) | (with_reducible apply e_asgK) | (with_reducible apply e_asgCK) | (with_reducible apply e_augK) | (with_reducible apply e_ret) | (with_reducible apply e_drop) | (with_reducible apply e_negK) | (with_reducible apply e_assK) | (with_reducible apply e_pairK) | (with_reducible exact set0) | (with_reducible apply setS) | (with_reducible exact pl_add) | (with_reducible exact pl_sub) | (with_reducible exact pl_eq) | (with_reducible exact pl_ne) | (with_reducible exact pl_ge) | (with_reducible exact pl_iadd) | (with_reducible exact pl_isub) | (with_reducible exact pl_lt) | (with_reducible exact pl_gt) | (with_reducible exact some_rfl)))
theorem hung_push {row outs ops : List Int} {x : Int} {gs : List AO} (hx : ¬ x < 0) (hl : ops.length ≤ 100) (hl2 : outs.length ≤ 100) : ∃ gs', hung_b1 (hungS row outs ops (some (.int x)) gs) = some (.next, hungS row (outs ++ [(ops.getLast?).getD (-1)]) (ops ++ [(outs.length : Int)]) (some (.int x)) gs') := by
  have c1 : decide (x < 0) = false := decide_eq_false hx
  refine ⟨gs ++ [.flat []], ?_⟩
  have c2 : ∀ l o r, listA argN ⟨l, none, o :: r :: .flat (ops.map .int) :: gs⟩ = some (.ref (gs.length + 3), ⟨l, none, o :: r :: .flat (ops.map .int) :: (gs ++ [.flat []])⟩) := fun l o r => rfl
  have c3 : ∀ l o r, cmpG .NotEq (.ref 2) (.ref (gs.length + 3)) ⟨l, none, o :: r :: .flat (ops.map .int) :: (gs ++ [.flat []])⟩ = some (.bool (!decide (ops = [])), ⟨l, none, o :: r :: .flat (ops.map .int) :: (gs ++ [.flat []])⟩) := fun l o r => by
    have g1 : getInts ⟨l, none, o :: r :: .flat (ops.map .int) :: (gs ++ [.flat []])⟩ 2 = some ops := intsOf_map ops
    have g2 : getInts ⟨l, none, o :: r :: .flat (ops.map .int) :: (gs ++ [.flat []])⟩ (gs.length + 3) = some [] := by
      have : (o :: r :: AO.flat (ops.map .int) :: (gs ++ [AO.flat []]))[gs.length + 3]? = some (.flat []) := by simp
      delta getInts getFlat
      simp only [this]; rfl
    simp only [cmpG, acmp, g1, g2, Option.bind_some, Option.map_some]
  have c4 : ∀ (z : Int) l o r p, appendG [.ref 1, .int z] ⟨l, none, o :: .flat (outs.map .int) :: r :: p⟩ = some (.none, ⟨l, none, o :: .flat ((outs ++ [z]).map .int) :: r :: p⟩) := fun z l o r p => by
    show (if plainV (.int z) = true ∧ (outs.map AV.int).length ≤ 100000 then _ else _) = _
    rw [if_pos ⟨rfl, by rw [List.length_map]; omega⟩, List.map_append]; rfl
  have c5 : ∀ (z : Int) l o r p, appendG [.ref 2, .int z] ⟨l, none, o :: r :: .flat (ops.map .int) :: p⟩ = some (.none, ⟨l, none, o :: r :: .flat ((ops ++ [z]).map .int) :: p⟩) := fun z l o r p => by
    show (if plainV (.int z) = true ∧ (ops.map AV.int).length ≤ 100000 then _ else _) = _
    rw [if_pos ⟨rfl, by rw [List.length_map]; omega⟩, List.map_append]; rfl
  have c6 : ∀ (z : Int) l o r p, lenG [.ref 1] ⟨l, none, o :: .flat ((outs ++ [z]).map .int) :: r :: p⟩ = some (.int ((outs.length : Int) + 1), ⟨l, none, o :: .flat ((outs ++ [z]).map .int) :: r :: p⟩) := fun z l o r p => by
    show (if ((outs ++ [z]).map AV.int).length ≤ 100000 then some (AV.int ((outs ++ [z]).map AV.int).length, _) else none) = _
    rw [List.length_map, List.length_append, if_pos (by simp; omega)]; rfl
  have c7 : ∀ σ : AS, abin .Sub (.int ((outs.length : Int) + 1)) (.int 1) σ = some (.int (outs.length : Int), σ) := fun σ => by
    rw [pl_sub]; rw [show (outs.length : Int) + 1 - 1 = outs.length by omega]
  by_cases ho : ops = []
  · subst ho
    have c8 : decide (([] : List Int) = []) = true := rfl
    rw [show (([] : List Int).getLast?).getD (-1) = -1 from rfl]
    delta hung_b1 hungS
    (repeat (first | (with_reducible exact c2 _ _ _) | (with_reducible exact c3 _ _ _) | (with_reducible exact c4 _ _ _ _ _) | (with_reducible exact c5 _ _ _ _ _) | (with_reducible exact c6 _ _ _ _ _) | (with_reducible exact c7 _) | (with_reducible exact h_isl1) | (with_reducible exact h_isl2) | (with_reducible exact e_cst) | (with_reducible apply e_fast) | (with_reducible apply e_cell) | (with_reducible exact e_cv) | (with_reducible exact get0) | (with_reducible apply getS) | (with_reducible exact e_sk) | (with_reducible exact e_brk) | (with_reducible exact e_argN) | (with_reducible apply e_seqK) | (with_reducible apply seqK_next) | (with_reducible exact seqK_ret) | (with_reducible exact seqK_brk) | (with_reducible apply selB_not) | (with_reducible refine selB_t (by assumption) ?_) | (with_reducible refine selB_f (by assumption) ?_) | (with_reducible refine selB_t (by rfl) ?_) | (with_reducible refine selB_f (by rfl) ?_) | (with_reducible apply e_ite) | (with_reducible apply e_b2) | (with_reducible apply e_truP) | (with_reducible exact ptru_bool) | (with_reducible exact ptru_int) | (with_reducible apply e_not) | (with_reducible apply e_and) | (with_reducible apply e_or) | (with_reducible exact e_tt) | (with_reducible exact e_ff) | (with_reducible apply e_argC) | (with_reducible apply e_call) | (with_reducible apply e_methK) | (with_reducible exact sel_str) | (with_reducible apply e_asgK) | (with_reducible apply e_asgCK) | (with_reducible apply e_augK) | (with_reducible apply e_ret) | (with_reducible apply e_drop) | (with_reducible apply e_negK) | (with_reducible apply e_assK) | (with_reducible apply e_pairK) | (with_reducible exact set0) | (with_reducible apply setS) | (with_reducible exact pl_add) | (with_reducible exact pl_sub) | (with_reducible exact pl_eq) | (with_reducible exact pl_ne) | (with_reducible exact pl_ge) | (with_reducible exact pl_iadd) | (with_reducible exact pl_isub) | (with_reducible exact pl_lt) | (with_reducible exact pl_gt) | (with_reducible exact some_rfl)))
  · have c8 : decide (ops = []) = false := decide_eq_false ho
    have hl0 : 0 < ops.length := List.length_pos_iff.mpr ho
    have c9 : ∀ l o r p, subG (.ref 2) (.int (-1)) ⟨l, none, o :: r :: .flat (ops.map .int) :: p⟩ = some (.int ((ops.getLast?).getD (-1)), ⟨l, none, o :: r :: .flat (ops.map .int) :: p⟩) := fun l o r p => by
      have e0 : ((-1 : Int) + (ops.length : Int)).toNat = ops.length - 1 := by omega
      have : atI (ops.map AV.int) (-1) = some (.int ((ops.getLast?).getD (-1))) := by
        delta atI
        rw [if_neg (by decide), List.length_map, if_pos ⟨by omega, by omega⟩, e0, List.getElem?_map, ← List.getLast?_eq_getElem?, List.getLast?_eq_some_getLast ho]; rfl
      simp only [subG, List.getElem?_cons_zero, List.getElem?_cons_succ, this, Option.map_some]
    delta hung_b1 hungS
    (repeat (first | (with_reducible exact c2 _ _ _) | (with_reducible exact c3 _ _ _) | (with_reducible exact c4 _ _ _ _ _) | (with_reducible exact c5 _ _ _ _ _) | (with_reducible exact c6 _ _ _ _ _) | (with_reducible exact c7 _) | (with_reducible exact c9 _ _ _ _) | (with_reducible exact h_isl1) | (with_reducible exact h_isl2) | (with_reducible exact e_cst) | (with_reducible apply e_fast) | (with_reducible apply e_cell) | (with_reducible exact e_cv) | (with_reducible exact get0) | (with_reducible apply getS) | (with_reducible exact e_sk) | (with_reducible exact e_brk) | (with_reducible exact e_argN) | (with_reducible apply e_seqK) | (with_reducible apply seqK_next) | (with_reducible exact seqK_ret) | (with_reducible exact seqK_brk) | (with_reducible apply selB_not) | (with_reducible refine selB_t (by assumption) ?_) | (with_reducible refine selB_f (by assumption) ?_) | (with_reducible refine selB_t (by rfl) ?_) | (with_reducible refine selB_f (by rfl) ?_) | (with_reducible apply e_ite) | (with_reducible apply e_b2) | (with_reducible apply e_truP) | (with_reducible exact ptru_bool) | (with_reducible exact ptru_int) | (with_reducible apply e_not) | (with_reducible apply e_and) | (with_reducible apply e_or) | (with_reducible exact e_tt) | (with_reducible exact e_ff) | (with_reducible apply e_argC) | (with_reducible apply e_call) | (with_reducible apply e_methK) | (with_reducible exact sel_str) | (with_reducible apply e_asgK) | (with_reducible apply e_asgCK) | (with_reducible apply e_augK) | (with_reducible apply e_ret) | (with_reducible apply e_drop) | (with_reducible apply e_negK) | (with_reducible apply e_assK) | (with_reducible apply e_pairK) | (with_reducible exact set0) | (with_reducible apply setS) | (with_reducible exact pl_add) | (with_reducible exact pl_sub) | (with_reducible exact pl_eq) | (with_reducible exact pl_ne) | (with_reducible exact pl_ge) | (with_reducible exact pl_iadd) | (with_reducible exact pl_isub) | (with_reducible exact pl_lt) | (with_reducible exact pl_gt) | (with_reducible exact some_rfl)))
theorem hung_loop {row : List Int} : ∀ (r outs ops : List Int) (k : Option AV) (gs : List AO) (q : List Int), outs.length + r.length ≤ 100 → ops.length + r.length ≤ 100 → hungGo r outs ops = some q →
    ∃ ops' k' gs', forL (fun σ => decide (getFlat σ 0 = some (row.map .int))) hung_b1 skA ((r.map .int).map (stV (.fast 3))) (hungS row outs ops k gs) = some (.next, hungS row q ops' k' gs')
  | [], outs, ops, k, gs, q, _, _, h => by cases h; exact ⟨ops, k, gs, rfl⟩
  | x :: r, outs, ops, k, gs, q, h1, h2, h => by
    simp only [List.length_cons] at h1 h2
    have hs : stV (.fast 3) (.int x) (hungS row outs ops k gs) = some (hungS row outs ops (some (.int x)) gs) := rfl
    unfold hungGo at h
    simp only [List.map_cons, forL, hs]
    by_cases hx : x < 0
    · rw [if_pos hx] at h
      split at h
      · cases h
      · rename_i ho
        obtain ⟨ops', k', gs', ih⟩ := hung_loop (row := row) r outs ops.dropLast (some (.int x)) gs q (by omega) (by rw [List.length_dropLast]; omega) h
        refine ⟨ops', k', gs', ?_⟩
        simp only [hung_pop hx ho (by omega)]
        exact (if_pos (decide_eq_true rfl)).trans ih
    · rw [if_neg hx] at h
      obtain ⟨gs1, hb⟩ := hung_push (row := row) (outs := outs) (ops := ops) (gs := gs) hx (by omega) (by omega)
      obtain ⟨ops', k', gs', ih⟩ := hung_loop (row := row) r _ _ (some (.int x)) gs1 q (by simp; omega) (by simp; omega) h
      refine ⟨ops', k', gs', ?_⟩
      simp only [hb]
      exact (if_pos (decide_eq_true rfl)).trans ih
theorem hung_eq {i : Nat} {row q : List Int} {σ : AS} (hl : row.length ≤ 50) (hq : hungGo row [] [] = some q) (hi : σ.objs[i]? = some (.flat (row.map .int))) : hung_g [.ref i] σ = some (.ref σ.objs.length, { σ with objs := σ.objs ++ [.flat (q.map .int)] }) := by
  obtain ⟨ops', k', gs', h1⟩ := hung_loop (row := row) row [] [] none [] q (by simp; omega) (by simp; omega) hq
  have h1' : forA (itA (.fast 3) (itListA (ldA (.fast 0)))) hung_b1 skA ⟨[some (.ref 0), some (.ref 1), some (.ref 2), none], none, [.flat (row.map .int), .flat [], .flat []]⟩ = some (.next, hungS row q ops' k' gs') := e_for (e_itL (e_fast get0) rfl) h1
  have hb : hung_f (iniB [some 0, none, none, none] [] [.ref 0] [.flat (row.map .int)]) = some (.ret (.ref 1), hungS row q ops' k' gs') := by
    show hung_f ⟨[some (.ref 0), none, none, none], none, [.flat (row.map .int)]⟩ = _
    delta hung_f
    have l1 : ∀ l o0, listA argN ⟨l, none, [o0]⟩ = some (.ref 1, ⟨l, none, [o0, .flat []]⟩) := fun l o0 => rfl
    have l2 : ∀ l o0 o1, listA argN ⟨l, none, [o0, o1]⟩ = some (.ref 2, ⟨l, none, [o0, o1, .flat []]⟩) := fun l o0 o1 => rfl
    delta hungS at h1' ⊢
    (repeat (first | (with_reducible exact l1 _ _) | (with_reducible exact l2 _ _ _) | (with_reducible exact h1') | (with_reducible exact e_cst) | (with_reducible apply e_fast) | (with_reducible apply e_cell) | (with_reducible exact e_cv) | (with_reducible exact get0) | (with_reducible apply getS) | (with_reducible exact e_sk) | (with_reducible exact e_brk) | (with_reducible exact e_argN) | (with_reducible apply e_seqK) | (with_reducible apply seqK_next) | (with_reducible exact seqK_ret) | (with_reducible exact seqK_brk) | (with_reducible apply selB_not) | (with_reducible refine selB_t (by assumption) ?_) | (with_reducible refine selB_f (by assumption) ?_) | (with_reducible refine selB_t (by rfl) ?_) | (with_reducible refine selB_f (by rfl) ?_) | (with_reducible apply e_ite) | (with_reducible apply e_b2) | (with_reducible apply e_truP) | (with_reducible exact ptru_bool) | (with_reducible exact ptru_int) | (with_reducible apply e_not) | (with_reducible apply e_and) | (with_reducible apply e_or) | (with_reducible exact e_tt) | (with_reducible exact e_ff) | (with_reducible apply e_argC) | (with_reducible apply e_call) | (with_reducible apply e_methK) | (with_reducible exact sel_str) | (with_reducible apply e_asgK) | (with_reducible apply e_asgCK) | (with_reducible apply e_augK) | (with_reducible apply e_ret) | (with_reducible apply e_drop) | (with_reducible apply e_negK) | (with_reducible apply e_assK) | (with_reducible apply e_pairK) | (with_reducible exact set0) | (with_reducible apply setS) | (with_reducible exact pl_add) | (with_reducible exact pl_sub) | (with_reducible exact pl_eq) | (with_reducible exact pl_ne) | (with_reducible exact pl_ge) | (with_reducible exact pl_iadd) | (with_reducible exact pl_isub) | (with_reducible exact pl_lt) | (with_reducible exact pl_gt) | (with_reducible exact some_rfl)))
  delta hung_g
  rw [defG_one (np := 1) (as := [.ref i]) (i := i) (v := .ref 1) rfl rfl hi rfl rfl (by
    have e : ([.ref i] : List AV).map (renum [i]) = [.ref 0] := by simp [renum]
    rw [e]; exact hb)]
  exact retG_ref hi rfl rfl rfl (by omega)
end Mine
-- part QL
namespace Mine
theorem comp_flt_go {chk : AS → Bool} {ft : AS → Option (Bool × AS)} {fe : AS → Option (AV × AS)} {l : List (Option AV)} {o : List AO} (p : AV → Bool) (g : AV → AV) : ∀ (xs acc : List AV) (cv : Option AV), (∀ x ∈ xs, plainV (g x) = true ∧ ∀ acc, ft ⟨l, some x, o ++ [.flat acc]⟩ = some (p x, ⟨l, some x, o ++ [.flat acc]⟩) ∧ fe ⟨l, some x, o ++ [.flat acc]⟩ = some (g x, ⟨l, some x, o ++ [.flat acc]⟩)) → (∀ cv acc, chk ⟨l, cv, o ++ [.flat acc]⟩ = true) → acc.length + xs.length ≤ 1000 →
    ∃ cv', compL chk o.length ft fe xs ⟨l, cv, o ++ [.flat acc]⟩ = some ⟨l, cv', o ++ [.flat (acc ++ (xs.filter p).map g)]⟩
  | [], acc, cv, _, _, _ => ⟨cv, by simp [compL]⟩
  | x :: xs, acc, cv, h, hc, hl => by
    obtain ⟨h1, h2⟩ := h x (.head _)
    obtain ⟨h2, h3⟩ := h2 acc
    simp only [List.length_cons] at hl
    cases e : p x
    · obtain ⟨cv', ih⟩ := comp_flt_go p g xs acc (some x) (fun y hy => h y (.tail _ hy)) hc (by omega)
      refine ⟨cv', ?_⟩
      simp only [compL, h2, e, hc, if_true]
      rw [ih, List.filter_cons, e]; rfl
    · have f3 : appendG [.ref o.length, g x] ⟨l, some x, o ++ [.flat acc]⟩ = some (.none, ⟨l, some x, o ++ [.flat (acc ++ [g x])]⟩) := by
        simp only [appendG, end_get]
        rw [if_pos ⟨h1, by omega⟩, end_set]
      obtain ⟨cv', ih⟩ := comp_flt_go p g xs (acc ++ [g x]) (some x) (fun y hy => h y (.tail _ hy)) hc (by simp; omega)
      refine ⟨cv', ?_⟩
      simp only [compL, h2, h3, e, f3, hc, if_true]
      rw [ih, List.filter_cons, e]
      simp
theorem comp_flt {chk : AS → Bool} {fi : AS → Option ((List AV × (AS → Bool)) × AS)} {ft : AS → Option (Bool × AS)} {fe : AS → Option (AV × AS)} {σ : AS} {l : List (Option AV)} {c : Option AV} {o : List AO} (p : AV → Bool) (g : AV → AV) {xs : List AV} (hi : fi σ = some ((xs, chk), ⟨l, c, o⟩)) (h : ∀ x ∈ xs, plainV (g x) = true ∧ ∀ acc, ft ⟨l, some x, o ++ [.flat acc]⟩ = some (p x, ⟨l, some x, o ++ [.flat acc]⟩) ∧ fe ⟨l, some x, o ++ [.flat acc]⟩ = some (g x, ⟨l, some x, o ++ [.flat acc]⟩)) (hc : ∀ cv acc, chk ⟨l, cv, o ++ [.flat acc]⟩ = true) (hl : xs.length ≤ 1000) :
    compA fi ft fe σ = some (.ref o.length, ⟨l, none, o ++ [.flat ((xs.filter p).map g)]⟩) := by
  obtain ⟨cv', h1⟩ := comp_flt_go p g xs [] c h hc (by simpa using hl)
  delta compA
  rw [hi]
  simp only [hc, if_true]
  rw [h1]
  rfl
noncomputable def natV (l : List Nat) : List AV := l.map fun (c : Nat) => .int (c : Int)
noncomputable def tieN (w i : Nat) : Nat := 2 ^ w + 2 ^ i
noncomputable def looseStep (outers : List Int) (loose : List Nat) (i : Nat) : List Nat :=
  loose ++ (if 0 ≤ outers[i]?.getD (-1) then (loose.map (· + 2 ^ i)).filter (fun c => !subN (bitsOf 5 (tieN (outers[i]?.getD (-1)).toNat i)) (bitsOf 5 c)) else loose.map (· + 2 ^ i))
noncomputable def looseS (outers : List Int) (s lr : Nat) (t c1 c2 c3 ci : Option AV) (gs : List AO) : AS :=
  ⟨[some (.ref 0), some (.ref lr), t], none, .flat (outers.map .int) :: .cell c1 :: .cell c2 :: .cell c3 :: .cell ci :: .cell (some (.int (s : Int))) :: gs⟩
section
variable {outers : List Int} {s lr i : Nat} {t c1 c2 c3 : Option AV} {gs : List AO} {loose : List Nat}
theorem pow_cast (k : Nat) : (2 : Int) ^ k = ((2 ^ k : Nat) : Int) := by rw [Int.natCast_pow]; rfl
theorem loose_c1 (hi : i < 5) (hl : loose.length ≤ 100) {oo c1 c2 c3 s : AO} (h : (oo :: c1 :: c2 :: c3 :: .cell (some (.int (i : Int))) :: s :: gs)[lr]? = some (.flat (natV loose))) {x t : Option AV} :
    compA (itListA (ldA (.fast 1))) ttT (b2A (ldA .cv) (b2A (cstA (.int 2)) (ldA (.cell 4)) (abin .Pow)) (abin .Add)) ⟨[x, some (.ref lr), t], none, oo :: c1 :: c2 :: c3 :: .cell (some (.int (i : Int))) :: s :: gs⟩ =
      some (.ref (gs.length + 6), ⟨[x, some (.ref lr), t], none, oo :: c1 :: c2 :: c3 :: .cell (some (.int (i : Int))) :: s :: (gs ++ [.flat (natV (loose.map (· + 2 ^ i)))])⟩) := by
  have := comp_map (fe := b2A (ldA .cv) (b2A (cstA (.int 2)) (ldA (.cell 4)) (abin .Pow)) (abin .Add)) (σ := ⟨[x, some (.ref lr), t], none, oo :: c1 :: c2 :: c3 :: .cell (some (.int (i : Int))) :: s :: gs⟩) (c := none) (o := oo :: c1 :: c2 :: c3 :: .cell (some (.int (i : Int))) :: s :: gs) (fun v => match v with | .int k => .int (k + 2 ^ i) | v => v) (itl (f := ldA (.fast 1)) (e_fast (getS get0)) (by delta getFlat; simp only [h])) (fun v hv => by
    obtain ⟨k, hk, rfl⟩ := List.mem_map.mp hv
    refine ⟨rfl, fun acc => ?_⟩
    show b2A _ _ _ ⟨_, _, oo :: c1 :: c2 :: c3 :: .cell (some (.int (i : Int))) :: s :: (gs ++ [.flat acc])⟩ = some (.int ((k : Int) + 2 ^ i), ⟨_, _, oo :: c1 :: c2 :: c3 :: .cell (some (.int (i : Int))) :: s :: (gs ++ [.flat acc])⟩)
    (repeat (first | (with_reducible exact pl_pow2 (by omega)) | (with_reducible exact e_cst) | (with_reducible apply e_fast) | (with_reducible apply e_cell) | (with_reducible exact e_cv) | (with_reducible exact get0) | (with_reducible apply getS) | (with_reducible exact e_sk) | (with_reducible exact e_brk) | (with_reducible exact e_argN) | (with_reducible apply e_seqK) | (with_reducible apply seqK_next) | (with_reducible exact seqK_ret) | (with_reducible exact seqK_brk) | (with_reducible apply selB_not) | (with_reducible refine selB_t (by assumption) ?_) | (with_reducible refine selB_f (by assumption) ?_) | (with_reducible refine selB_t (by rfl) ?_) | (with_reducible refine selB_f (by rfl) ?_) | (with_reducible apply e_ite) | (with_reducible apply e_b2) | (with_reducible apply e_truP) | (with_reducible exact ptru_bool) | (with_reducible exact ptru_int) | (with_reducible apply e_not) | (with_reducible apply e_and) | (with_reducible apply e_or) | (with_reducible exact e_tt) | (with_reducible exact e_ff) | (with_reducible apply e_argC) | (with_reducible apply e_call) | (with_reducible apply e_methK) | (with_reducible exact sel_str) | (with_reducible apply e_asgK) | (with_reducible apply e_asgCK) | (with_reducible apply e_augK) | (with_reducible apply e_ret) | (with_reducible apply e_drop) | (with_reducible apply e_negK) | (with_reducible apply e_assK) | (with_reducible apply e_pairK) | (with_reducible exact set0) | (with_reducible apply setS) | (with_reducible exact pl_add) | (with_reducible exact pl_sub) | (with_reducible exact pl_eq) | (with_reducible exact pl_ne) | (with_reducible exact pl_ge) | (with_reducible exact pl_iadd) | (with_reducible exact pl_isub) | (with_reducible exact pl_lt) | (with_reducible exact pl_gt) | (with_reducible exact some_rfl)))) (fun cv acc => decide_eq_true (flat_pre h)) (by simp [natV]; omega)
  rw [this]
  have e : (natV loose).map (fun v => match v with | .int k => AV.int (k + 2 ^ i) | v => v) = natV (loose.map (· + 2 ^ i)) := by
    delta natV
    rw [List.map_map, List.map_map]
    refine List.map_congr_left fun k _ => ?_
    show AV.int ((k : Int) + 2 ^ i) = .int ((k + 2 ^ i : Nat) : Int)
    rw [Int.natCast_add, pow_cast]
  rw [e]
  rfl
theorem loose_c2 {grown : List Nat} (hs : s < 7) (hl : grown.length ≤ 100) (hg : ∀ c ∈ grown, prettyOK 5 c s = true ∧ c < 32) {oo c1 c2 ci : AO} {l : List (Option AV)} {j : Nat} (h : (oo :: c1 :: c2 :: .cell (some (.ref j)) :: ci :: .cell (some (.int (s : Int))) :: gs)[j]? = some (.flat (natV grown))) :
    compA (itListA (ldA (.cell 3))) ttT (b2A (b2A (cstA (.str ⟨#[32]⟩)) (callA (argC (b2A (ldA .cv) (b2A (cstA (.int 2)) (ldA (.cell 5)) (abin .Pow)) (abin .Mult)) argN) pretty_g) (abin .Add)) (cstA (.str ⟨#[44]⟩)) (abin .Add)) ⟨l, none, oo :: c1 :: c2 :: .cell (some (.ref j)) :: ci :: .cell (some (.int (s : Int))) :: gs⟩ =
      some (.ref (gs.length + 6), ⟨l, none, oo :: c1 :: c2 :: .cell (some (.ref j)) :: ci :: .cell (some (.int (s : Int))) :: (gs ++ [.flat (grown.map fun c => .str (wordS 5 c s))])⟩) := by
  have := comp_map (fe := (b2A (b2A (cstA (.str ⟨#[32]⟩)) (callA (argC (b2A (ldA .cv) (b2A (cstA (.int 2)) (ldA (.cell 5)) (abin .Pow)) (abin .Mult)) argN) pretty_g) (abin .Add)) (cstA (.str ⟨#[44]⟩)) (abin .Add))) (σ := ⟨l, none, oo :: c1 :: c2 :: .cell (some (.ref j)) :: ci :: .cell (some (.int (s : Int))) :: gs⟩) (c := none) (o := oo :: c1 :: c2 :: .cell (some (.ref j)) :: ci :: .cell (some (.int (s : Int))) :: gs) (fun v => match v with | .int k => .str (wordS 5 k.toNat s) | v => v) (itl (f := ldA (.cell 3)) (e_cell (getS (getS (getS get0)))) (by delta getFlat; simp only [h])) (fun v hv => by
    obtain ⟨k, hk, rfl⟩ := List.mem_map.mp hv
    refine ⟨rfl, fun acc => ?_⟩
    obtain ⟨hpre, hk32⟩ := hg k hk
    obtain ⟨y, hy, hpr⟩ := pretty_eq hpre
    have hwl := word_len (n := 5) (c := k) (s := s) (by omega)
    have hxl : 1 + y.length + 1 ≤ 300 := by
      rw [← hy, slen_app, slen_app] at hwl; exact hwl
    have b1 : ∀ σ : AS, abin .Mult (.int (k : Int)) (.int (2 ^ s)) σ = some (.int ((k * 2 ^ s : Nat) : Int), σ) := fun σ => by
      rw [pl_mul (by
        rw [Bool.or_eq_true]; left
        delta small
        rw [Bool.and_eq_true, decide_eq_true_eq, decide_eq_true_eq]; omega), Int.natCast_mul, pow_cast]
    have b2 : ∀ σ : AS, abin .Add (.str ⟨#[32]⟩) (.str y) σ = some (.str ((⟨#[32]⟩ : Str) ++ y), σ) := fun σ => pl_sadd (by show 1 + y.length ≤ _; omega)
    have b3 : ∀ σ : AS, abin .Add (.str ((⟨#[32]⟩ : Str) ++ y)) (.str ⟨#[44]⟩) σ = some (.str (wordS 5 k s), σ) := fun σ => by
      rw [← hy]; exact pl_sadd (by rw [slen_app]; show 1 + y.length + 1 ≤ _; omega)
    show b2A _ _ _ ⟨_, _, oo :: c1 :: c2 :: .cell (some (.ref j)) :: ci :: .cell (some (.int (s : Int))) :: (gs ++ [.flat acc])⟩ = some (.str (wordS 5 k s), ⟨_, _, oo :: c1 :: c2 :: .cell (some (.ref j)) :: ci :: .cell (some (.int (s : Int))) :: (gs ++ [.flat acc])⟩)
    (repeat (first | (with_reducible exact pl_pow2 (by omega)) | (with_reducible exact b1 _) | (with_reducible exact hpr _) | (with_reducible exact b2 _) | (with_reducible exact b3 _) | (with_reducible exact e_cst) | (with_reducible apply e_fast) | (with_reducible apply e_cell) | (with_reducible exact e_cv) | (with_reducible exact get0) | (with_reducible apply getS) | (with_reducible exact e_sk) | (with_reducible exact e_brk) | (with_reducible exact e_argN) | (with_reducible apply e_seqK) | (with_reducible apply seqK_next) | (with_reducible exact seqK_ret) | (with_reducible exact seqK_brk) | (with_reducible apply selB_not) | (with_reducible refine selB_t (by assumption) ?_) | (with_reducible refine selB_f (by assumption) ?_) | (with_reducible refine selB_t (by rfl) ?_) | (with_reducible refine selB_f (by rfl) ?_) | (with_reducible apply e_ite) | (with_reducible apply e_b2) | (with_reducible apply e_truP) | (with_reducible exact ptru_bool) | (with_reducible exact ptru_int) | (with_reducible apply e_not) | (with_reducible apply e_and) | (with_reducible apply e_or) | (with_reducible exact e_tt) | (with_reducible exact e_ff) | (with_reducible apply e_argC) | (with_reducible apply e_call) | (with_reducible apply e_methK) | (with_reducible exact sel_str) | (with_reducible apply e_asgK) | (with_reducible apply e_asgCK) | (with_reducible apply e_augK) | (with_reducible apply e_ret) | (with_reducible apply e_drop) | (with_reducible apply e_negK) | (with_reducible apply e_assK) | (with_reducible apply e_pairK) | (with_reducible exact set0) | (with_reducible apply setS) | (with_reducible exact pl_add) | (with_reducible exact pl_sub) | (with_reducible exact pl_eq) | (with_reducible exact pl_ne) | (with_reducible exact pl_ge) | (with_reducible exact pl_iadd) | (with_reducible exact pl_isub) | (with_reducible exact pl_lt) | (with_reducible exact pl_gt) | (with_reducible exact some_rfl)))) (fun cv acc => decide_eq_true (flat_pre h)) (by simp [natV]; omega)
  rw [this]
  have e : (natV grown).map (fun v => match v with | .int k => AV.str (wordS 5 k.toNat s) | v => v) = grown.map fun c => .str (wordS 5 c s) := by
    delta natV
    rw [List.map_map]
    rfl
  rw [e]
  rfl
theorem range_filter (grown : List Nat) (p : Nat → Bool) : ((List.range grown.length).filter fun k => p (grown[k]?.getD 0)).map (fun k => grown[k]?.getD 0) = grown.filter p := by
  have h : grown = (List.range grown.length).map fun k => grown[k]?.getD 0 := by
    refine List.ext_getElem (by simp) fun k h1 h2 => ?_
    simp [List.getElem?_eq_getElem h1]
  conv => rhs; rw [h]
  rw [List.filter_map]; rfl
theorem loose_c3 {grown : List Nat} {w : Nat} (hs : s < 7) (hl : grown.length ≤ 100) (hsp : splitOK 5 w s = true) {oo ci sh : AO} {l : List (Option AV)} {j k : Nat} (h : (oo :: .cell (some (.ref k)) :: .cell (some (.str (patS 5 w s))) :: .cell (some (.ref j)) :: ci :: sh :: gs)[j]? = some (.flat (natV grown))) (h' : (oo :: .cell (some (.ref k)) :: .cell (some (.str (patS 5 w s))) :: .cell (some (.ref j)) :: ci :: sh :: gs)[k]? = some (.flat (grown.map fun c => .str (wordS 5 c s)))) :
    compA (itRangeA (argC (callA (argC (ldA (.cell 3)) argN) lenG) argN)) (notT (truA (callA (argC (ldA (.cell 2)) (argC (b2A (ldA (.cell 1)) (ldA .cv) subG) argN)) match_g))) (b2A (ldA (.cell 3)) (ldA .cv) subG) ⟨l, none, oo :: .cell (some (.ref k)) :: .cell (some (.str (patS 5 w s))) :: .cell (some (.ref j)) :: ci :: sh :: gs⟩ =
      some (.ref (gs.length + 6), ⟨l, none, oo :: .cell (some (.ref k)) :: .cell (some (.str (patS 5 w s))) :: .cell (some (.ref j)) :: ci :: sh :: (gs ++ [.flat (natV (grown.filter fun c => !subN (bitsOf 5 w) (bitsOf 5 c)))])⟩) := by
  have hlen : (natV grown).length = grown.length := by simp [natV]
  have hr : itRangeA (argC (callA (argC (ldA (.cell 3)) argN) lenG) argN) ⟨l, none, oo :: .cell (some (.ref k)) :: .cell (some (.str (patS 5 w s))) :: .cell (some (.ref j)) :: ci :: sh :: gs⟩ = some ((natV (List.range grown.length), fun _ => true), ⟨l, none, oo :: .cell (some (.ref k)) :: .cell (some (.str (patS 5 w s))) :: .cell (some (.ref j)) :: ci :: sh :: gs⟩) := by
    have e1 : argC (callA (argC (ldA (.cell 3)) argN) lenG) argN ⟨l, none, oo :: .cell (some (.ref k)) :: .cell (some (.str (patS 5 w s))) :: .cell (some (.ref j)) :: ci :: sh :: gs⟩ = some ([.int (grown.length : Int)], ⟨l, none, oo :: .cell (some (.ref k)) :: .cell (some (.str (patS 5 w s))) :: .cell (some (.ref j)) :: ci :: sh :: gs⟩) := by
      have b1 : ∀ l, lenG [.ref j] ⟨l, none, oo :: .cell (some (.ref k)) :: .cell (some (.str (patS 5 w s))) :: .cell (some (.ref j)) :: ci :: sh :: gs⟩ = some (.int (grown.length : Int), ⟨l, none, oo :: .cell (some (.ref k)) :: .cell (some (.str (patS 5 w s))) :: .cell (some (.ref j)) :: ci :: sh :: gs⟩) := fun l => by
        simp only [lenG, getFlat, h, hlen]
        rw [if_pos (by omega)]
      (repeat (first | (with_reducible exact b1 _) | (with_reducible exact e_cst) | (with_reducible apply e_fast) | (with_reducible apply e_cell) | (with_reducible exact e_cv) | (with_reducible exact get0) | (with_reducible apply getS) | (with_reducible exact e_sk) | (with_reducible exact e_brk) | (with_reducible exact e_argN) | (with_reducible apply e_seqK) | (with_reducible apply seqK_next) | (with_reducible exact seqK_ret) | (with_reducible exact seqK_brk) | (with_reducible apply selB_not) | (with_reducible refine selB_t (by assumption) ?_) | (with_reducible refine selB_f (by assumption) ?_) | (with_reducible refine selB_t (by rfl) ?_) | (with_reducible refine selB_f (by rfl) ?_) | (with_reducible apply e_ite) | (with_reducible apply e_b2) | (with_reducible apply e_truP) | (with_reducible exact ptru_bool) | (with_reducible exact ptru_int) | (with_reducible apply e_not) | (with_reducible apply e_and) | (with_reducible apply e_or) | (with_reducible exact e_tt) | (with_reducible exact e_ff) | (with_reducible apply e_argC) | (with_reducible apply e_call) | (with_reducible apply e_methK) | (with_reducible exact sel_str) | (with_reducible apply e_asgK) | (with_reducible apply e_asgCK) | (with_reducible apply e_augK) | (with_reducible apply e_ret) | (with_reducible apply e_drop) | (with_reducible apply e_negK) | (with_reducible apply e_assK) | (with_reducible apply e_pairK) | (with_reducible exact set0) | (with_reducible apply setS) | (with_reducible exact pl_add) | (with_reducible exact pl_sub) | (with_reducible exact pl_eq) | (with_reducible exact pl_ne) | (with_reducible exact pl_ge) | (with_reducible exact pl_iadd) | (with_reducible exact pl_isub) | (with_reducible exact pl_lt) | (with_reducible exact pl_gt) | (with_reducible exact some_rfl)))
    simp only [itRangeA, e1, rngOf]
    have hsm : Builtin.Range.small 0 (grown.length : Int) 1 = true ∧ 0 ≤ Builtin.Range.rangeSize 0 (grown.length : Int) 1 ∧ rngIts (0, (grown.length : Int), 1) = natV (List.range grown.length) := by
      have : ∀ m : Nat, m ≤ 100 → (Builtin.Range.small 0 (m : Int) 1 = true ∧ 0 ≤ Builtin.Range.rangeSize 0 (m : Int) 1 ∧ rngIts (0, (m : Int), 1) = natV (List.range m)) := by
        have hall : (List.range 101).all (fun m => Builtin.Range.small 0 (m : Int) 1 && decide (0 ≤ Builtin.Range.rangeSize 0 (m : Int) 1) && decide (rngIts (0, (m : Int), 1) = natV (List.range m))) = true := by decide +kernel
        intro m hm
        have := List.all_eq_true.mp hall m (List.mem_range.mpr (by omega))
        simpa [Bool.and_eq_true, and_assoc] using this
      exact this _ hl
    rw [if_pos ⟨hsm.1, hsm.2.1⟩, hsm.2.2]
  have := comp_flt (ft := notT (truA (callA (argC (ldA (.cell 2)) (argC (b2A (ldA (.cell 1)) (ldA .cv) subG) argN)) match_g))) (fe := b2A (ldA (.cell 3)) (ldA .cv) subG) (c := none) (o := oo :: .cell (some (.ref k)) :: .cell (some (.str (patS 5 w s))) :: .cell (some (.ref j)) :: ci :: sh :: gs) (fun v => match v with | .int z => !subN (bitsOf 5 w) (bitsOf 5 (grown[z.toNat]?.getD 0)) | _ => false) (fun v => match v with | .int z => .int ((grown[z.toNat]?.getD 0 : Nat) : Int) | v => v) hr (fun v hv => by
    obtain ⟨z, hz, rfl⟩ := List.mem_map.mp hv
    have hz' := List.mem_range.mp hz
    refine ⟨rfl, fun acc => ?_⟩
    have hA : (oo :: .cell (some (.ref k)) :: .cell (some (.str (patS 5 w s))) :: .cell (some (.ref j)) :: ci :: sh :: (gs ++ [AO.flat acc]))[j]? = some (.flat (natV grown)) := by
      have := app_get (r := [AO.flat acc]) h
      exact this
    have hB : (oo :: .cell (some (.ref k)) :: .cell (some (.str (patS 5 w s))) :: .cell (some (.ref j)) :: ci :: sh :: (gs ++ [AO.flat acc]))[k]? = some (.flat (grown.map fun c => .str (wordS 5 c s))) := by
      have := app_get (r := [AO.flat acc]) h'
      exact this
    have b1 : ∀ l c, subG (.ref j) (.int (z : Int)) ⟨l, c, oo :: .cell (some (.ref k)) :: .cell (some (.str (patS 5 w s))) :: .cell (some (.ref j)) :: ci :: sh :: (gs ++ [.flat acc])⟩ = some (.int ((grown[z]?.getD 0 : Nat) : Int), ⟨l, c, oo :: .cell (some (.ref k)) :: .cell (some (.str (patS 5 w s))) :: .cell (some (.ref j)) :: ci :: sh :: (gs ++ [.flat acc])⟩) := fun l c => pl_sub_at hA (by omega) (by delta natV; rw [List.getElem?_map, List.getElem?_eq_getElem hz']; rfl)
    have b2 : ∀ l c, subG (.ref k) (.int (z : Int)) ⟨l, c, oo :: .cell (some (.ref k)) :: .cell (some (.str (patS 5 w s))) :: .cell (some (.ref j)) :: ci :: sh :: (gs ++ [.flat acc])⟩ = some (.str (wordS 5 (grown[z]?.getD 0) s), ⟨l, c, oo :: .cell (some (.ref k)) :: .cell (some (.str (patS 5 w s))) :: .cell (some (.ref j)) :: ci :: sh :: (gs ++ [.flat acc])⟩) := fun l c => pl_sub_at hB (by omega) (by rw [List.getElem?_map, List.getElem?_eq_getElem hz']; rfl)
    have b3 : ∀ σ : AS, match_g [.str (patS 5 w s), .str (wordS 5 (grown[z]?.getD 0) s)] σ = some (.bool (subN (bitsOf 5 w) (bitsOf 5 (grown[z]?.getD 0))), σ) := fun σ => match_words (by omega) hsp σ
    constructor
    · show notT _ ⟨_, _, oo :: .cell (some (.ref k)) :: .cell (some (.str (patS 5 w s))) :: .cell (some (.ref j)) :: ci :: sh :: (gs ++ [.flat acc])⟩ = some (!subN (bitsOf 5 w) (bitsOf 5 (grown[z]?.getD 0)), ⟨_, _, oo :: .cell (some (.ref k)) :: .cell (some (.str (patS 5 w s))) :: .cell (some (.ref j)) :: ci :: sh :: (gs ++ [.flat acc])⟩)
      (repeat (first | (with_reducible exact b2 _ _) | (with_reducible exact b3 _) | (with_reducible exact e_cst) | (with_reducible apply e_fast) | (with_reducible apply e_cell) | (with_reducible exact e_cv) | (with_reducible exact get0) | (with_reducible apply getS) | (with_reducible exact e_sk) | (with_reducible exact e_brk) | (with_reducible exact e_argN) | (with_reducible apply e_seqK) | (with_reducible apply seqK_next) | (with_reducible exact seqK_ret) | (with_reducible exact seqK_brk) | (with_reducible apply selB_not) | (with_reducible refine selB_t (by assumption) ?_) | (with_reducible refine selB_f (by assumption) ?_) | (with_reducible refine selB_t (by rfl) ?_) | (with_reducible refine selB_f (by rfl) ?_) | (with_reducible apply e_ite) | (with_reducible apply e_b2) | (with_reducible apply e_truP) | (with_reducible exact ptru_bool) | (with_reducible exact ptru_int) | (with_reducible apply e_not) | (with_reducible apply e_and) | (with_reducible apply e_or) | (with_reducible exact e_tt) | (with_reducible exact e_ff) | (with_reducible apply e_argC) | (with_reducible apply e_call) | (with_reducible apply e_methK) | (with_reducible exact sel_str) | (with_reducible apply e_asgK) | (with_reducible apply e_asgCK) | (with_reducible apply e_augK) | (with_reducible apply e_ret) | (with_reducible apply e_drop) | (with_reducible apply e_negK) | (with_reducible apply e_assK) | (with_reducible apply e_pairK) | (with_reducible exact set0) | (with_reducible apply setS) | (with_reducible exact pl_add) | (with_reducible exact pl_sub) | (with_reducible exact pl_eq) | (with_reducible exact pl_ne) | (with_reducible exact pl_ge) | (with_reducible exact pl_iadd) | (with_reducible exact pl_isub) | (with_reducible exact pl_lt) | (with_reducible exact pl_gt) | (with_reducible exact some_rfl)))
    · show b2A _ _ _ ⟨_, _, oo :: .cell (some (.ref k)) :: .cell (some (.str (patS 5 w s))) :: .cell (some (.ref j)) :: ci :: sh :: (gs ++ [.flat acc])⟩ = some (.int ((grown[z]?.getD 0 : Nat) : Int), ⟨_, _, oo :: .cell (some (.ref k)) :: .cell (some (.str (patS 5 w s))) :: .cell (some (.ref j)) :: ci :: sh :: (gs ++ [.flat acc])⟩)
      (repeat (first | (with_reducible exact b1 _ _) | (with_reducible exact e_cst) | (with_reducible apply e_fast) | (with_reducible apply e_cell) | (with_reducible exact e_cv) | (with_reducible exact get0) | (with_reducible apply getS) | (with_reducible exact e_sk) | (with_reducible exact e_brk) | (with_reducible exact e_argN) | (with_reducible apply e_seqK) | (with_reducible apply seqK_next) | (with_reducible exact seqK_ret) | (with_reducible exact seqK_brk) | (with_reducible apply selB_not) | (with_reducible refine selB_t (by assumption) ?_) | (with_reducible refine selB_f (by assumption) ?_) | (with_reducible refine selB_t (by rfl) ?_) | (with_reducible refine selB_f (by rfl) ?_) | (with_reducible apply e_ite) | (with_reducible apply e_b2) | (with_reducible apply e_truP) | (with_reducible exact ptru_bool) | (with_reducible exact ptru_int) | (with_reducible apply e_not) | (with_reducible apply e_and) | (with_reducible apply e_or) | (with_reducible exact e_tt) | (with_reducible exact e_ff) | (with_reducible apply e_argC) | (with_reducible apply e_call) | (with_reducible apply e_methK) | (with_reducible exact sel_str) | (with_reducible apply e_asgK) | (with_reducible apply e_asgCK) | (with_reducible apply e_augK) | (with_reducible apply e_ret) | (with_reducible apply e_drop) | (with_reducible apply e_negK) | (with_reducible apply e_assK) | (with_reducible apply e_pairK) | (with_reducible exact set0) | (with_reducible apply setS) | (with_reducible exact pl_add) | (with_reducible exact pl_sub) | (with_reducible exact pl_eq) | (with_reducible exact pl_ne) | (with_reducible exact pl_ge) | (with_reducible exact pl_iadd) | (with_reducible exact pl_isub) | (with_reducible exact pl_lt) | (with_reducible exact pl_gt) | (with_reducible exact some_rfl)))) (fun cv acc => rfl) (by simp [natV]; omega)
  rw [this]
  have e : ((natV (List.range grown.length)).filter (fun v => match v with | .int z => !subN (bitsOf 5 w) (bitsOf 5 (grown[z.toNat]?.getD 0)) | _ => false)).map (fun v => match v with | .int z => AV.int ((grown[z.toNat]?.getD 0 : Nat) : Int) | v => v) = natV (grown.filter fun c => !subN (bitsOf 5 w) (bitsOf 5 c)) := by
    rw [← range_filter grown (fun c => !subN (bitsOf 5 w) (bitsOf 5 c))]
    delta natV
    rw [List.filter_map, List.map_map, List.map_map]
    rfl
  rw [e]
  rfl
end
end Mine
-- part QM
namespace Mine
theorem last_get6 {a b c d e f : AO} {gs : List AO} {x : AO} : (a :: b :: c :: d :: e :: f :: (gs ++ [x]))[gs.length + 6]? = some x := by simp
theorem app_get6 {a b c d e f : AO} {gs : List AO} {x y : AO} {i : Nat} (h : (a :: b :: c :: d :: e :: f :: gs)[i]? = some y) : (a :: b :: c :: d :: e :: f :: (gs ++ [x]))[i]? = some y := by
  have := app_get (r := [x]) h
  exact this
theorem add6 {a b c d e f : AO} {gs : List AO} {l : List (Option AV)} {i j : Nat} {xs ys : List AV} (h1 : (a :: b :: c :: d :: e :: f :: gs)[i]? = some (.flat xs)) (h2 : (a :: b :: c :: d :: e :: f :: gs)[j]? = some (.flat ys)) (h3 : xs.length + ys.length ≤ 100000) : abin .Add (.ref i) (.ref j) ⟨l, none, a :: b :: c :: d :: e :: f :: gs⟩ = some (.ref (gs.length + 6), ⟨l, none, a :: b :: c :: d :: e :: f :: (gs ++ [.flat (xs ++ ys)])⟩) := by
  rw [pl_addR h1 h2 h3]; rfl
set_option maxHeartbeats 1000000 in
theorem loose_body {outers : List Int} {s m i : Nat} {t c1 c2 c3 : Option AV} {gs : List AO} {loose : List Nat} (hs : s < 7) (hi : i < 5) (ho : outers.length = 5) (hv : ∀ i w, outers[i]? = some (Int.ofNat w) → w < i) (hl : loose.length ≤ 32) (hb : ∀ c ∈ loose, c < 2 ^ i)
    (hP : ∀ c, 1 ≤ c → c < 32 → prettyOK 5 c s = true) (hT : ∀ w i, w < i → i < 5 → splitOK 5 (tieN w i) s = true ∧ repOK 5 (tieN w i) s = true)
    (hm : gs[m]? = some (.flat (natV loose))) :
    ∃ m' t' c1' c2' c3' gs', loose_b1 (looseS outers s (m + 6) t c1 c2 c3 (some (.int (i : Int))) gs) = some (.next, looseS outers s (m' + 6) t' c1' c2' c3' (some (.int (i : Int))) gs') ∧ gs'[m']? = some (.flat (natV (looseStep outers loose i))) := by
  have hx : outers[i]? = some (outers[i]?.getD (-1)) := by rw [List.getElem?_eq_getElem (by omega)]; rfl
  have hp32 : 2 ^ i ≤ 16 := by
    have : 2 ^ i ≤ 2 ^ 4 := Nat.pow_le_pow_right (by omega) (by omega)
    exact this
  have hpi : 1 ≤ 2 ^ i := Nat.pow_pos (by omega)
  have hlG : (loose.map (· + 2 ^ i)).length ≤ 32 := by simpa using hl
  have hG : ∀ c ∈ loose.map (· + 2 ^ i), prettyOK 5 c s = true ∧ c < 32 := fun c hc => by
    obtain ⟨d, hd, rfl⟩ := List.mem_map.mp hc
    have := hb d hd
    exact ⟨hP _ (by omega) (by omega), by omega⟩
  have eL : looseStep outers loose i = loose ++ (if 0 ≤ outers[i]?.getD (-1) then (loose.map (· + 2 ^ i)).filter (fun c => !subN (bitsOf 5 (tieN (outers[i]?.getD (-1)).toNat i)) (bitsOf 5 c)) else loose.map (· + 2 ^ i)) := rfl
  generalize outers[i]?.getD (-1) = ov at hx eL
  have a1 := loose_c1 (gs := gs) (c3 := .cell c3) (s := .cell (some (.int (s : Int)))) hi (by omega) (lr := m + 6) (oo := .flat (outers.map .int)) (c1 := .cell c1) (c2 := .cell c2) hm (x := some (.ref 0)) (t := t)
  generalize hgr : loose.map (· + 2 ^ i) = grown at *
  have a2 : ∀ l b c d e f g, subG (.ref 0) (.int (i : Int)) ⟨l, none, .flat (outers.map .int) :: b :: c :: d :: e :: f :: g⟩ = some (.int ov, ⟨l, none, .flat (outers.map .int) :: b :: c :: d :: e :: f :: g⟩) := fun l b c d e f g => pl_sub_at rfl (by omega) (by rw [List.getElem?_map, hx]; rfl)
  have lN : ∀ l : List Nat, (natV l).length = l.length := fun l => by simp [natV]
  have nA : ∀ a b : List Nat, natV a ++ natV b = natV (a ++ b) := fun a b => by simp [natV]
  by_cases h0 : 0 ≤ ov
  · obtain ⟨w, rfl⟩ := Int.eq_ofNat_of_zero_le h0
    have hw := hv i w hx
    obtain ⟨t1, t2⟩ := hT w i hw hi
    have hpw : 2 ^ w ≤ 16 := by
      have : 2 ^ w ≤ 2 ^ 4 := Nat.pow_le_pow_right (by omega) (by omega)
      exact this
    have hlt : tieN w i < 32 := by
      have h1 : 2 ^ w < 2 ^ i := Nat.pow_lt_pow_right (by omega) hw
      delta tieN; omega
    have hge : 1 ≤ tieN w i := Nat.le_trans hpi (Nat.le_add_left _ _)
    obtain ⟨y, hy, hpr⟩ := pretty_eq (hP _ hge hlt)
    have hwl := word_len (n := 5) (c := tieN w i) (s := s) (by omega)
    have hxl : 1 + y.length + 1 ≤ 300 := by
      rw [← hy, slen_app, slen_app] at hwl; exact hwl
    rw [if_pos h0, Int.toNat_natCast] at eL
    have c0 : decide ((0 : Int) ≤ (w : Int)) = true := decide_eq_true h0
    have b1 : ∀ σ : AS, abin .Mult (.int ((2 : Int) ^ w + 2 ^ i)) (.int (2 ^ s)) σ = some (.int ((tieN w i * 2 ^ s : Nat) : Int), σ) := fun σ => by
      have e1 : (2 : Int) ^ w + 2 ^ i = ((tieN w i : Nat) : Int) := by delta tieN; rw [Int.natCast_add, pow_cast, pow_cast]
      rw [e1, pl_mul (by
        rw [Bool.or_eq_true]; left
        delta small
        rw [Bool.and_eq_true, decide_eq_true_eq, decide_eq_true_eq]; omega), Int.natCast_mul, pow_cast]
    have b2 : ∀ σ : AS, abin .Add (.str ⟨#[32]⟩) (.str y) σ = some (.str ((⟨#[32]⟩ : Str) ++ y), σ) := fun σ => pl_sadd (by show 1 + y.length ≤ _; omega)
    have b3 : ∀ σ : AS, abin .Add (.str ((⟨#[32]⟩ : Str) ++ y)) (.str ⟨#[44]⟩) σ = some (.str (wordS 5 (tieN w i) s), σ) := fun σ => by
      rw [← hy]; exact pl_sadd (by rw [slen_app]; show 1 + y.length + 1 ≤ _; omega)
    have hre : (⟨#[46, 46, 46]⟩ : Str) ++ Txt.replace (wordS 5 (tieN w i) s) ", " ",... " ++ (⟨#[46, 46, 46]⟩ : Str) = patS 5 (tieN w i) s := of_decide_eq_true t2
    have hpL := pat_len (n := 5) (c := tieN w i) (s := s) (by omega)
    have hrl : 3 + (Txt.replace (wordS 5 (tieN w i) s) ", " ",... ").length + 3 ≤ 300 := by
      rw [← hre, slen_app, slen_app] at hpL; exact hpL
    have hz : (",... " : Str).length = 5 := by decide +kernel
    have hyz : ((", " : Str) == (",... " : Str)) = false := by decide +kernel
    have b4 : ∀ o q1 q2, repA ⟨#[46, 46, 46]⟩ (.fast 2) ", " ",... " ⟨[q1, q2, some (.str (wordS 5 (tieN w i) s))], none, o⟩ = some (.str ((⟨#[46, 46, 46]⟩ : Str) ++ Txt.replace (wordS 5 (tieN w i) s) ", " ",... "), ⟨[q1, q2, some (.str (wordS 5 (tieN w i) s))], none, o⟩) := fun o q1 q2 => by
      simp only [repA, ldV, List.getElem?_cons_succ, List.getElem?_cons_zero]
      rw [if_pos ⟨hyz, by rw [hz]; omega, by show 3 + _ ≤ _; omega⟩]
    have b5 : ∀ σ : AS, abin .Add (.str ((⟨#[46, 46, 46]⟩ : Str) ++ Txt.replace (wordS 5 (tieN w i) s) ", " ",... ")) (.str ⟨#[46, 46, 46]⟩) σ = some (.str (patS 5 (tieN w i) s), σ) := fun σ => by
      rw [← hre]; exact pl_sadd (by rw [slen_app]; show 3 + _ + 3 ≤ _; omega)
    have b6 : ∀ l oo c1 ci, compA _ ttT _ ⟨l, none, oo :: c1 :: .cell (some (.str (patS 5 (tieN w i) s))) :: .cell (some (.ref (gs.length + 6))) :: ci :: .cell (some (.int (s : Int))) :: (gs ++ [.flat (natV grown)])⟩ = some (.ref ((gs ++ [AO.flat (natV grown)]).length + 6), ⟨l, none, oo :: c1 :: .cell (some (.str (patS 5 (tieN w i) s))) :: .cell (some (.ref (gs.length + 6))) :: ci :: .cell (some (.int (s : Int))) :: ((gs ++ [.flat (natV grown)]) ++ [.flat (grown.map fun c => .str (wordS 5 c s))])⟩) := fun l oo c1 ci => loose_c2 hs (by omega) hG last_get6
    have b7 : ∀ l oo ci sh, compA _ (notT _) _ ⟨l, none, oo :: .cell (some (.ref ((gs ++ [AO.flat (natV grown)]).length + 6))) :: .cell (some (.str (patS 5 (tieN w i) s))) :: .cell (some (.ref (gs.length + 6))) :: ci :: sh :: ((gs ++ [.flat (natV grown)]) ++ [.flat (grown.map fun c => .str (wordS 5 c s))])⟩ = some (.ref (((gs ++ [AO.flat (natV grown)]) ++ [AO.flat (grown.map fun c => .str (wordS 5 c s))]).length + 6), ⟨l, none, oo :: .cell (some (.ref ((gs ++ [AO.flat (natV grown)]).length + 6))) :: .cell (some (.str (patS 5 (tieN w i) s))) :: .cell (some (.ref (gs.length + 6))) :: ci :: sh :: (((gs ++ [.flat (natV grown)]) ++ [.flat (grown.map fun c => .str (wordS 5 c s))]) ++ [.flat (natV (grown.filter fun c => !subN (bitsOf 5 (tieN w i)) (bitsOf 5 c)))])⟩) := fun l oo ci sh => loose_c3 hs (by omega) t1 (app_get6 last_get6) last_get6
    obtain ⟨g2, hg2⟩ : ∃ g2, g2 = grown.filter fun c => !subN (bitsOf 5 (tieN w i)) (bitsOf 5 c) := ⟨_, rfl⟩
    have hg2l : g2.length ≤ 32 := by rw [hg2]; exact Nat.le_trans (List.length_filter_le _ _) hlG
    rw [← hg2] at eL
    simp only [← hg2] at b7
    have b8 : ∀ l a b c d e f, abin .Add (.ref (m + 6)) (.ref (((gs ++ [AO.flat (natV grown)]) ++ [AO.flat (grown.map fun c => .str (wordS 5 c s))]).length + 6)) ⟨l, none, a :: b :: c :: d :: e :: f :: (((gs ++ [.flat (natV grown)]) ++ [.flat (grown.map fun c => .str (wordS 5 c s))]) ++ [.flat (natV g2)])⟩ = some (.ref ((((gs ++ [AO.flat (natV grown)]) ++ [AO.flat (grown.map fun c => .str (wordS 5 c s))]) ++ [AO.flat (natV g2)]).length + 6), ⟨l, none, a :: b :: c :: d :: e :: f :: ((((gs ++ [.flat (natV grown)]) ++ [.flat (grown.map fun c => .str (wordS 5 c s))]) ++ [.flat (natV g2)]) ++ [.flat (natV (loose ++ g2))])⟩) := fun l a b c d e f => by
      rw [add6 (i := m + 6) (xs := natV loose) (ys := natV g2) (app_get (app_get (app_get hm))) last_get6 (by rw [lN, lN]; omega), nA]
    refine ⟨_, some (.str (wordS 5 (tieN w i) s)), some (.ref ((gs ++ [AO.flat (natV grown)]).length + 6)), some (.str (patS 5 (tieN w i) s)), some (.ref (((gs ++ [AO.flat (natV grown)]) ++ [AO.flat (grown.map fun c => .str (wordS 5 c s))]).length + 6)), (((gs ++ [.flat (natV grown)]) ++ [.flat (grown.map fun c => .str (wordS 5 c s))]) ++ [.flat (natV g2)]) ++ [.flat (natV (loose ++ g2))], ?_, by rw [eL]; exact end_get⟩
    delta loose_b1 looseS
    rw [q32, q44, dots3]
    (repeat (first | (with_reducible exact a1) | (with_reducible exact a2 _ _ _ _ _ _ _) | (with_reducible exact pl_pow2 (by omega)) | (with_reducible exact b1 _) | (with_reducible exact hpr _) | (with_reducible exact b2 _) | (with_reducible exact b3 _) | (with_reducible exact b4 _ _ _) | (with_reducible exact b5 _) | (with_reducible exact b6 _ _ _ _) | (with_reducible exact b7 _ _ _ _) | (with_reducible exact b8 _ _ _ _ _ _ _) | (with_reducible exact e_cst) | (with_reducible apply e_fast) | (with_reducible apply e_cell) | (with_reducible exact e_cv) | (with_reducible exact get0) | (with_reducible apply getS) | (with_reducible exact e_sk) | (with_reducible exact e_brk) | (with_reducible exact e_argN) | (with_reducible apply e_seqK) | (with_reducible apply seqK_next) | (with_reducible exact seqK_ret) | (with_reducible exact seqK_brk) | (with_reducible apply selB_not) | (with_reducible refine selB_t (by assumption) ?_) | (with_reducible refine selB_f (by assumption) ?_) | (with_reducible refine selB_t (by rfl) ?_) | (with_reducible refine selB_f (by rfl) ?_) | (with_reducible apply e_ite) | (with_reducible apply e_b2) | (with_reducible apply e_truP) | (with_reducible exact ptru_bool) | (with_reducible exact ptru_int) | (with_reducible apply e_not) | (with_reducible apply e_and) | (with_reducible apply e_or) | (with_reducible exact e_tt) | (with_reducible exact e_ff) | (with_reducible apply e_argC) | (with_reducible apply e_call) | (with_reducible apply e_methK) | (with_reducible exact sel_str) | (with_reducible apply e_asgK) | (with_reducible apply e_asgCK) | (with_reducible apply e_augK) | (with_reducible apply e_ret) | (with_reducible apply e_drop) | (with_reducible apply e_negK) | (with_reducible apply e_assK) | (with_reducible apply e_pairK) | (with_reducible exact set0) | (with_reducible apply setS) | (with_reducible exact pl_add) | (with_reducible exact pl_sub) | (with_reducible exact pl_eq) | (with_reducible exact pl_ne) | (with_reducible exact pl_ge) | (with_reducible exact pl_iadd) | (with_reducible exact pl_isub) | (with_reducible exact pl_lt) | (with_reducible exact pl_gt) | (with_reducible exact some_rfl)))
  · have c0 : decide ((0 : Int) ≤ ov) = false := decide_eq_false h0
    rw [if_neg h0] at eL
    have b8 : ∀ l a b c d e f, abin .Add (.ref (m + 6)) (.ref (gs.length + 6)) ⟨l, none, a :: b :: c :: d :: e :: f :: (gs ++ [.flat (natV grown)])⟩ = some (.ref ((gs ++ [AO.flat (natV grown)]).length + 6), ⟨l, none, a :: b :: c :: d :: e :: f :: ((gs ++ [.flat (natV grown)]) ++ [.flat (natV (loose ++ grown))])⟩) := fun l a b c d e f => by
      rw [add6 (i := m + 6) (xs := natV loose) (ys := natV grown) (app_get hm) last_get6 (by rw [lN, lN]; omega), nA]
    refine ⟨_, t, c1, c2, some (.ref (gs.length + 6)), (gs ++ [.flat (natV grown)]) ++ [.flat (natV (loose ++ grown))], ?_, by rw [eL]; exact end_get⟩
    delta loose_b1 looseS
    (repeat (first | (with_reducible exact a1) | (with_reducible exact a2 _ _ _ _ _ _ _) | (with_reducible exact b8 _ _ _ _ _ _ _) | (with_reducible exact e_cst) | (with_reducible apply e_fast) | (with_reducible apply e_cell) | (with_reducible exact e_cv) | (with_reducible exact get0) | (with_reducible apply getS) | (with_reducible exact e_sk) | (with_reducible exact e_brk) | (with_reducible exact e_argN) | (with_reducible apply e_seqK) | (with_reducible apply seqK_next) | (with_reducible exact seqK_ret) | (with_reducible exact seqK_brk) | (with_reducible apply selB_not) | (with_reducible refine selB_t (by assumption) ?_) | (with_reducible refine selB_f (by assumption) ?_) | (with_reducible refine selB_t (by rfl) ?_) | (with_reducible refine selB_f (by rfl) ?_) | (with_reducible apply e_ite) | (with_reducible apply e_b2) | (with_reducible apply e_truP) | (with_reducible exact ptru_bool) | (with_reducible exact ptru_int) | (with_reducible apply e_not) | (with_reducible apply e_and) | (with_reducible apply e_or) | (with_reducible exact e_tt) | (with_reducible exact e_ff) | (with_reducible apply e_argC) | (with_reducible apply e_call) | (with_reducible apply e_methK) | (with_reducible exact sel_str) | (with_reducible apply e_asgK) | (with_reducible apply e_asgCK) | (with_reducible apply e_augK) | (with_reducible apply e_ret) | (with_reducible apply e_drop) | (with_reducible apply e_negK) | (with_reducible apply e_assK) | (with_reducible apply e_pairK) | (with_reducible exact set0) | (with_reducible apply setS) | (with_reducible exact pl_add) | (with_reducible exact pl_sub) | (with_reducible exact pl_eq) | (with_reducible exact pl_ne) | (with_reducible exact pl_ge) | (with_reducible exact pl_iadd) | (with_reducible exact pl_isub) | (with_reducible exact pl_lt) | (with_reducible exact pl_gt) | (with_reducible exact some_rfl)))
end Mine
-- part QN
namespace Mine
noncomputable def looseL (outers : List Int) : List Nat := (List.range 5).foldl (looseStep outers) [0]
theorem loose_eq {outers : List Int} {s i : Nat} {σ : AS} (hs : s < 7) (ho : outers.length = 5) (hv : ∀ i w, outers[i]? = some (Int.ofNat w) → w < i)
    (hP : ∀ c, 1 ≤ c → c < 32 → prettyOK 5 c s = true) (hT : ∀ w i, w < i → i < 5 → splitOK 5 (tieN w i) s = true ∧ repOK 5 (tieN w i) s = true) (hi : σ.objs[i]? = some (.flat (outers.map .int))) :
    loose_g [.ref i, .int (s : Int)] σ = some (.ref σ.objs.length, { σ with objs := σ.objs ++ [.flat (natV (looseL outers))] }) := by
  obtain ⟨σ', h1, _, _, _, _, m, t, c1, c2, c3, ci, gs, hσ, hm⟩ := forL_rest (α := Nat) (β := List Nat) (chk := fun _ => true) (body := loose_b1) (els := skA) (fun rr q σ => rr.Pairwise (· < ·) ∧ (∀ i ∈ rr, i < 5) ∧ (∀ c ∈ q, ∀ i ∈ rr, c < 2 ^ i) ∧ q.length * 2 ^ rr.length ≤ 32 ∧ ∃ m t c1 c2 c3 ci gs, σ = looseS outers s (m + 6) t c1 c2 c3 ci gs ∧ gs[m]? = some (.flat (natV q)))
    (fun k => stV (.cell 4) (.int (k : Int))) (looseStep outers) (by
      rintro k r q σ ⟨h1, h2, h3, h4, m, t, c1, c2, c3, ci, gs, rfl, hm⟩
      have hpw : 1 ≤ 2 ^ (k :: r).length := Nat.pow_pos (by omega)
      have hq32 : q.length ≤ 32 := Nat.le_trans (by simpa using Nat.mul_le_mul_left q.length hpw) h4
      have hk := h2 k (.head _)
      obtain ⟨m', t', c1', c2', c3', gs', hb, hm'⟩ := loose_body (t := t) (c1 := c1) (c2 := c2) (c3 := c3) hs hk ho hv hq32 (fun c hc => h3 c hc k (.head _)) hP hT hm
      have hlen : (looseStep outers q k).length ≤ 2 * q.length := by
        delta looseStep
        rw [List.length_append]
        split
        · have := List.length_filter_le (fun c => !subN (bitsOf 5 (tieN (outers[k]?.getD (-1)).toNat k)) (bitsOf 5 c)) (q.map (· + 2 ^ k))
          rw [List.length_map] at this; omega
        · rw [List.length_map]; omega
      refine ⟨looseS outers s (m + 6) t c1 c2 c3 (some (.int (k : Int))) gs, _, rfl, hb, rfl, (List.pairwise_cons.mp h1).2, fun x hx => h2 x (.tail _ hx), ?_, ?_, m', t', c1', c2', c3', _, gs', rfl, hm'⟩
      · intro c hc j hj
        have hkj := (List.pairwise_cons.mp h1).1 j hj
        have hc' : c ∈ q ∨ c ∈ q.map (· + 2 ^ k) := by
          delta looseStep at hc
          rcases List.mem_append.mp hc with hc | hc
          · exact .inl hc
          · split at hc
            · exact .inr (List.mem_filter.mp hc).1
            · exact .inr hc
        rcases hc' with hc' | hc'
        · exact h3 c hc' j (.tail _ hj)
        · obtain ⟨d, hd, rfl⟩ := List.mem_map.mp hc'
          have h5 := h3 d hd k (.head _)
          have h6 : 2 ^ (k + 1) ≤ 2 ^ j := Nat.pow_le_pow_right (by omega) hkj
          have h7 : 2 ^ (k + 1) = 2 ^ k + 2 ^ k := by rw [Nat.pow_succ]; omega
          show d + 2 ^ k < 2 ^ j
          omega
      · rw [List.length_cons, Nat.pow_succ] at h4
        have h5 := Nat.mul_le_mul_right (2 ^ r.length) hlen
        have h6 : q.length * (2 ^ r.length * 2) = 2 * q.length * 2 ^ r.length := by
          rw [Nat.mul_comm (2 ^ r.length) 2, ← Nat.mul_assoc, Nat.mul_comm q.length 2]
        omega) (List.range 5) [0] (looseS outers s 6 none none none none none [.flat (natV [0])]) ⟨by decide, fun x hx => List.mem_range.mp hx, fun c hc i _ => by rw [List.mem_singleton.mp hc]; exact Nat.pow_pos (by omega), by decide, 0, none, none, none, none, none, [.flat (natV [0])], rfl, rfl⟩
  subst hσ
  have h1' : forA (itA (.cell 4) (itRangeA (argC (cstA (.int 5)) argN))) loose_b1 skA (looseS outers s 6 none none none none none [.flat (natV [0])]) = some (.next, looseS outers s (m + 6) t c1 c2 c3 ci gs) := by
    refine e_for (its := (List.range 5).map fun (k : Nat) => stV (.cell 4) (.int (k : Int))) (chk := fun _ => true) (σ₁ := looseS outers s 6 none none none none none [.flat (natV [0])]) ?_ h1
    rfl
  have hb : loose_f (iniB [some 0, none, none] [none, none, none, none, some 1] [.ref 0, .int (s : Int)] [.flat (outers.map .int)]) = some (.ret (.ref (m + 6)), looseS outers s (m + 6) t c1 c2 c3 ci gs) := by
    show loose_f ⟨[some (.ref 0), none, none], none, [.flat (outers.map .int), .cell none, .cell none, .cell none, .cell none, .cell (some (.int (s : Int)))]⟩ = _
    delta loose_f
    have l1 : ∀ l a b c d e f, listA (argC (cstA (.int 0)) argN) ⟨l, none, [a, b, c, d, e, f]⟩ = some (.ref 6, ⟨l, none, [a, b, c, d, e, f, .flat (natV [0])]⟩) := fun l a b c d e f => rfl
    delta looseS at h1' ⊢
    (repeat (first | (with_reducible exact l1 _ _ _ _ _ _ _) | (with_reducible exact h1') | (with_reducible exact e_cst) | (with_reducible apply e_fast) | (with_reducible apply e_cell) | (with_reducible exact e_cv) | (with_reducible exact get0) | (with_reducible apply getS) | (with_reducible exact e_sk) | (with_reducible exact e_brk) | (with_reducible exact e_argN) | (with_reducible apply e_seqK) | (with_reducible apply seqK_next) | (with_reducible exact seqK_ret) | (with_reducible exact seqK_brk) | (with_reducible apply selB_not) | (with_reducible refine selB_t (by assumption) ?_) | (with_reducible refine selB_f (by assumption) ?_) | (with_reducible refine selB_t (by rfl) ?_) | (with_reducible refine selB_f (by rfl) ?_) | (with_reducible apply e_ite) | (with_reducible apply e_b2) | (with_reducible apply e_truP) | (with_reducible exact ptru_bool) | (with_reducible exact ptru_int) | (with_reducible apply e_not) | (with_reducible apply e_and) | (with_reducible apply e_or) | (with_reducible exact e_tt) | (with_reducible exact e_ff) | (with_reducible apply e_argC) | (with_reducible apply e_call) | (with_reducible apply e_methK) | (with_reducible exact sel_str) | (with_reducible apply e_asgK) | (with_reducible apply e_asgCK) | (with_reducible apply e_augK) | (with_reducible apply e_ret) | (with_reducible apply e_drop) | (with_reducible apply e_negK) | (with_reducible apply e_assK) | (with_reducible apply e_pairK) | (with_reducible exact set0) | (with_reducible apply setS) | (with_reducible exact pl_add) | (with_reducible exact pl_sub) | (with_reducible exact pl_eq) | (with_reducible exact pl_ne) | (with_reducible exact pl_ge) | (with_reducible exact pl_iadd) | (with_reducible exact pl_isub) | (with_reducible exact pl_lt) | (with_reducible exact pl_gt) | (with_reducible exact some_rfl)))
  delta loose_g
  rw [defG_one (np := 2) (as := [.ref i, .int (s : Int)]) (i := i) (v := .ref (m + 6)) (σc := looseS outers s (m + 6) t c1 c2 c3 ci gs) rfl rfl hi rfl rfl (by
    have e : ([.ref i, .int (s : Int)] : List AV).map (renum [i]) = [.ref 0, .int (s : Int)] := by simp [renum]
    rw [e]; exact hb)]
  exact retG_ref hi rfl rfl hm (by omega)
noncomputable def holesB (xs : List Nat) : Option (List Int) := match holes_f ⟨[some (.ref 0), none, none, none, none, none, none, none], none, [.flat (natV xs)]⟩ with
  | some (.ret (.ref j), σc) => match σc.objs[j]? with
    | some (.flat ys) => if 1 ≤ j ∧ σc.objs[0]? = some (AO.flat (natV xs)) then intsOf ys else none
    | _ => none
  | _ => none
noncomputable def dueB (f : List Int) : Option (List Int) := match due_f ⟨[some (.ref 0), none, none, none, none, none], none, [.flat (f.map .int)]⟩ with
  | some (.ret (.ref j), σc) => match σc.objs[j]? with
    | some (.flat ys) => if 1 ≤ j ∧ σc.objs[0]? = some (AO.flat (f.map AV.int)) then intsOf ys else none
    | _ => none
  | _ => none
noncomputable def leafOK (f : List Int) : Bool := match holesB (looseL f), dueB f with
  | some a, some b => a == b
  | _, _ => false
noncomputable def validF (f : List Int) : Bool := f.length == 5 && (List.range 5).all fun i => match f[i]? with
  | some (Int.ofNat w) => decide (w < i)
  | some (Int.negSucc _) => true
  | none => true
theorem validF_of {f : List Int} (h : validF f = true) : f.length = 5 ∧ ∀ i w, f[i]? = some (Int.ofNat w) → w < i := by
  delta validF at h
  rw [Bool.and_eq_true, beq_iff_eq] at h
  refine ⟨h.1, fun i w hw => ?_⟩
  have hi := (List.getElem?_eq_some_iff.mp hw).1
  have := List.all_eq_true.mp h.2 i (List.mem_range.mpr (by omega))
  rw [hw] at this
  simpa using this
noncomputable def rowSp (sp : List Nat) : List Int := (List.range 5).foldl (fun (row : List Int) (k : Nat) => row.take (sp[k]?.getD 0) ++ [(k : Int), -1] ++ row.drop (sp[k]?.getD 0)) []
end Mine
-- part QF
namespace Mine
noncomputable def forests : List (List Int) := [[-1, -1, -1, -1, -1], [-1, -1, -1, -1, 3], [-1, -1, -1, 2, -1], [-1, -1, -1, 2, 2], [-1, -1, -1, 2, 3], [-1, -1, 1, -1, -1], [-1, -1, 1, -1, 3], [-1, -1, 1, 1, -1], [-1, -1, 1, 1, 1], [-1, -1, 1, 1, 3], [-1, -1, 1, 2, -1], [-1, -1, 1, 2, 1], [-1, -1, 1, 2, 2], [-1, -1, 1, 2, 3], [-1, 0, -1, -1, -1], [-1, 0, -1, -1, 3], [-1, 0, -1, 2, -1], [-1, 0, -1, 2, 2], [-1, 0, -1, 2, 3], [-1, 0, 0, -1, -1], [-1, 0, 0, -1, 3], [-1, 0, 0, 0, -1], [-1, 0, 0, 0, 0], [-1, 0, 0, 0, 3], [-1, 0, 0, 2, -1], [-1, 0, 0, 2, 0], [-1, 0, 0, 2, 2], [-1, 0, 0, 2, 3], [-1, 0, 1, -1, -1], [-1, 0, 1, -1, 3], [-1, 0, 1, 0, -1], [-1, 0, 1, 0, 0], [-1, 0, 1, 0, 3], [-1, 0, 1, 1, -1], [-1, 0, 1, 1, 0], [-1, 0, 1, 1, 1], [-1, 0, 1, 1, 3], [-1, 0, 1, 2, -1], [-1, 0, 1, 2, 0], [-1, 0, 1, 2, 1], [-1, 0, 1, 2, 2], [-1, 0, 1, 2, 3]]
noncomputable def rowGood (row : List Int) : Bool := row.all (fun x => decide (-1 ≤ x) && decide (x < 5)) && (decide (row.length ≤ 50) && match outersGo row row.length 0 [] [], hungGo row [] [] with
  | some q, some h => q.2 == h && forests.contains h
  | _, _ => false)
theorem rows_0 : (List.range 5).all (fun b => (List.range 7).all fun c => (List.range 9).all fun d => rowGood (rowSp [0, 0, b, c, d])) = true := by decide +kernel
theorem rows_1 : (List.range 5).all (fun b => (List.range 7).all fun c => (List.range 9).all fun d => rowGood (rowSp [0, 1, b, c, d])) = true := by decide +kernel
theorem rows_2 : (List.range 5).all (fun b => (List.range 7).all fun c => (List.range 9).all fun d => rowGood (rowSp [0, 2, b, c, d])) = true := by decide +kernel
theorem rows_all {a b c d : Nat} (ha : a < 3) (hb : b < 5) (hc : c < 7) (hd : d < 9) : rowGood (rowSp [0, a, b, c, d]) = true := by
  have h : (List.range 5).all (fun b => (List.range 7).all fun c => (List.range 9).all fun d => rowGood (rowSp [0, a, b, c, d])) = true := by
    match a, ha with
    | 0, _ => exact rows_0
    | 1, _ => exact rows_1
    | 2, _ => exact rows_2
  exact List.all_eq_true.mp (List.all_eq_true.mp (List.all_eq_true.mp h b (List.mem_range.mpr hb)) c (List.mem_range.mpr hc)) d (List.mem_range.mpr hd)
theorem leaf_0 : ([[-1, -1, -1, -1, -1], [-1, -1, -1, -1, 3], [-1, -1, -1, 2, -1], [-1, -1, -1, 2, 2], [-1, -1, -1, 2, 3], [-1, -1, 1, -1, -1]] : List (List Int)).all (fun f => leafOK f && validF f) = true := by decide +kernel
theorem leaf_1 : ([[-1, -1, 1, -1, 3], [-1, -1, 1, 1, -1], [-1, -1, 1, 1, 1], [-1, -1, 1, 1, 3], [-1, -1, 1, 2, -1], [-1, -1, 1, 2, 1]] : List (List Int)).all (fun f => leafOK f && validF f) = true := by decide +kernel
theorem leaf_2 : ([[-1, -1, 1, 2, 2], [-1, -1, 1, 2, 3], [-1, 0, -1, -1, -1], [-1, 0, -1, -1, 3], [-1, 0, -1, 2, -1], [-1, 0, -1, 2, 2]] : List (List Int)).all (fun f => leafOK f && validF f) = true := by decide +kernel
theorem leaf_3 : ([[-1, 0, -1, 2, 3], [-1, 0, 0, -1, -1], [-1, 0, 0, -1, 3], [-1, 0, 0, 0, -1], [-1, 0, 0, 0, 0], [-1, 0, 0, 0, 3]] : List (List Int)).all (fun f => leafOK f && validF f) = true := by decide +kernel
theorem leaf_4 : ([[-1, 0, 0, 2, -1], [-1, 0, 0, 2, 0], [-1, 0, 0, 2, 2], [-1, 0, 0, 2, 3], [-1, 0, 1, -1, -1], [-1, 0, 1, -1, 3]] : List (List Int)).all (fun f => leafOK f && validF f) = true := by decide +kernel
theorem leaf_5 : ([[-1, 0, 1, 0, -1], [-1, 0, 1, 0, 0], [-1, 0, 1, 0, 3], [-1, 0, 1, 1, -1], [-1, 0, 1, 1, 0], [-1, 0, 1, 1, 1]] : List (List Int)).all (fun f => leafOK f && validF f) = true := by decide +kernel
theorem leaf_6 : ([[-1, 0, 1, 1, 3], [-1, 0, 1, 2, -1], [-1, 0, 1, 2, 0], [-1, 0, 1, 2, 1], [-1, 0, 1, 2, 2], [-1, 0, 1, 2, 3]] : List (List Int)).all (fun f => leafOK f && validF f) = true := by decide +kernel
theorem forests_parts : forests = [[-1, -1, -1, -1, -1], [-1, -1, -1, -1, 3], [-1, -1, -1, 2, -1], [-1, -1, -1, 2, 2], [-1, -1, -1, 2, 3], [-1, -1, 1, -1, -1]] ++ [[-1, -1, 1, -1, 3], [-1, -1, 1, 1, -1], [-1, -1, 1, 1, 1], [-1, -1, 1, 1, 3], [-1, -1, 1, 2, -1], [-1, -1, 1, 2, 1]] ++ [[-1, -1, 1, 2, 2], [-1, -1, 1, 2, 3], [-1, 0, -1, -1, -1], [-1, 0, -1, -1, 3], [-1, 0, -1, 2, -1], [-1, 0, -1, 2, 2]] ++ [[-1, 0, -1, 2, 3], [-1, 0, 0, -1, -1], [-1, 0, 0, -1, 3], [-1, 0, 0, 0, -1], [-1, 0, 0, 0, 0], [-1, 0, 0, 0, 3]] ++ [[-1, 0, 0, 2, -1], [-1, 0, 0, 2, 0], [-1, 0, 0, 2, 2], [-1, 0, 0, 2, 3], [-1, 0, 1, -1, -1], [-1, 0, 1, -1, 3]] ++ [[-1, 0, 1, 0, -1], [-1, 0, 1, 0, 0], [-1, 0, 1, 0, 3], [-1, 0, 1, 1, -1], [-1, 0, 1, 1, 0], [-1, 0, 1, 1, 1]] ++ [[-1, 0, 1, 1, 3], [-1, 0, 1, 2, -1], [-1, 0, 1, 2, 0], [-1, 0, 1, 2, 1], [-1, 0, 1, 2, 2], [-1, 0, 1, 2, 3]] := by decide +kernel
theorem leaf_all {f : List Int} (h : forests.contains f = true) : leafOK f = true ∧ validF f = true := by
  have h1 : forests.all (fun f => leafOK f && validF f) = true := by
    rw [forests_parts]
    simp only [List.all_append, leaf_0, leaf_1, leaf_2, leaf_3, leaf_4, leaf_5, leaf_6, Bool.and_self]
  have h2 := List.all_eq_true.mp h1 f (by simpa using h)
  simpa using h2
end Mine
-- part QI
namespace Mine
theorem holes_val {xs : List Nat} {r : List Int} (h : holesB xs = some r) : ∃ ys, intsOf ys = some r ∧ ∀ (i : Nat) (l : List (Option AV)) (c : Option AV) (o : List AO), o[i]? = some (.flat (natV xs)) → holes_g [.ref i] ⟨l, c, o⟩ = some (.ref o.length, ⟨l, c, o ++ [.flat ys]⟩) := by
  delta holesB at h
  split at h
  · rename_i j σc e
    split at h
    · rename_i ys hx
      split at h
      · rename_i hj
        refine ⟨ys, h, fun i l c o ho => ?_⟩
        delta holes_g
        rw [defG_one (np := 1) (as := [.ref i]) (i := i) (v := .ref j) (σ := ⟨l, c, o⟩) (σc := σc) rfl rfl ho rfl hj.2 (by
          have e' : ([.ref i] : List AV).map (renum [i]) = [.ref 0] := by simp [renum]
          rw [e']; exact e)]
        exact retG_ref (σ := ⟨l, c, o⟩) ho rfl hj.2 hx hj.1
      · cases h
    · cases h
  · cases h
theorem due_val {f : List Int} {r : List Int} (h : dueB f = some r) : ∃ ys, intsOf ys = some r ∧ ∀ (i : Nat) (l : List (Option AV)) (c : Option AV) (o : List AO), o[i]? = some (.flat (f.map .int)) → due_g [.ref i] ⟨l, c, o⟩ = some (.ref o.length, ⟨l, c, o ++ [.flat ys]⟩) := by
  delta dueB at h
  split at h
  · rename_i j σc e
    split at h
    · rename_i ys hx
      split at h
      · rename_i hj
        refine ⟨ys, h, fun i l c o ho => ?_⟩
        delta due_g
        rw [defG_one (np := 1) (as := [.ref i]) (i := i) (v := .ref j) (σ := ⟨l, c, o⟩) (σc := σc) rfl rfl ho rfl hj.2 (by
          have e' : ([.ref i] : List AV).map (renum [i]) = [.ref 0] := by simp [renum]
          rw [e']; exact e)]
        exact retG_ref (σ := ⟨l, c, o⟩) ho rfl hj.2 hx hj.1
      · cases h
    · cases h
  · cases h
theorem row_sp {a b c d e : Int} : rowL [a, b, c, d, e] = rowSp [(a.fmod 1).toNat, (b.fmod 3).toNat, (c.fmod 5).toNat, (d.fmod 7).toNat, (e.fmod 9).toNat] := rfl
theorem law_run {a : Addr} {ns : List Int} {n : Int} {s : Nat} {N R T F L Y Z : AO} (h1 : numbers_g (some (a, ns)) [.adr a] ⟨[some (.adr a), none, none, none], none, []⟩ = some (.ref 0, ⟨[some (.adr a), none, none, none], none, [N]⟩))
    (h2 : ∀ l, row_g [.ref 0] ⟨l, none, [N]⟩ = some (.ref 1, ⟨l, none, [N, R]⟩)) (b0 : ∀ l o, subG (.ref 0) (.int 0) ⟨l, none, N :: o⟩ = some (.int n, ⟨l, none, N :: o⟩))
    (h3 : ∀ l, texts_g [.ref 1, .int n] ⟨l, none, [N, R]⟩ = some (.ref 2, ⟨l, none, [N, R, T]⟩)) (h4 : ∀ l, outers_g [.ref 2] ⟨l, none, [N, R, T]⟩ = some (.ref 3, ⟨l, none, [N, R, T, F]⟩))
    (h5 : ∀ l, hung_g [.ref 1] ⟨l, none, [N, R, T, F]⟩ = some (.ref 4, ⟨l, none, [N, R, T, F, F]⟩)) (h6 : ∀ l, cmpG .NotEq (.ref 3) (.ref 4) ⟨l, none, [N, R, T, F, F]⟩ = some (.bool false, ⟨l, none, [N, R, T, F, F]⟩))
    (h7 : ∀ σ : AS, abin .Mod (.int (n.fdiv 20)) (.int 7) σ = some (.int (s : Int), σ)) (h8 : ∀ l, loose_g [.ref 3, .int (s : Int)] ⟨l, none, [N, R, T, F, F]⟩ = some (.ref 5, ⟨l, none, [N, R, T, F, F, L]⟩))
    (h9 : ∀ l, holes_g [.ref 5] ⟨l, none, [N, R, T, F, F, L]⟩ = some (.ref 6, ⟨l, none, [N, R, T, F, F, L, Y]⟩)) (h10 : ∀ l, hung_g [.ref 1] ⟨l, none, [N, R, T, F, F, L, Y]⟩ = some (.ref 7, ⟨l, none, [N, R, T, F, F, L, Y, F]⟩))
    (h11 : ∀ l, due_g [.ref 7] ⟨l, none, [N, R, T, F, F, L, Y, F]⟩ = some (.ref 8, ⟨l, none, [N, R, T, F, F, L, Y, F, Z]⟩)) (h12 : ∀ l, cmpG .Eq (.ref 6) (.ref 8) ⟨l, none, [N, R, T, F, F, L, Y, F, Z]⟩ = some (.bool true, ⟨l, none, [N, R, T, F, F, L, Y, F, Z]⟩)) :
    ∃ σ', law_f (some (a, ns)) ⟨some (.adr a) :: [none, none, none], none, []⟩ = some (.ret (.bool true), σ') := by
  refine ⟨⟨[some (.adr a), some (.ref 0), some (.ref 1), some (.ref 3)], none, [N, R, T, F, F, L, Y, F, Z]⟩, ?_⟩
  delta law_f
  (repeat (first | (with_reducible exact h1) | (with_reducible exact h2 _) | (with_reducible exact b0 _ _) | (with_reducible exact h3 _) | (with_reducible exact h4 _) | (with_reducible exact h5 _) | (with_reducible exact h6 _) | (with_reducible exact h7 _) | (with_reducible exact h8 _) | (with_reducible exact h9 _) | (with_reducible exact h10 _) | (with_reducible exact h11 _) | (with_reducible exact h12 _) | (with_reducible exact pl_fdiv (by decide) (by decide)) | (with_reducible exact e_cst) | (with_reducible apply e_fast) | (with_reducible apply e_cell) | (with_reducible exact e_cv) | (with_reducible exact get0) | (with_reducible apply getS) | (with_reducible exact e_sk) | (with_reducible exact e_brk) | (with_reducible exact e_argN) | (with_reducible apply e_seqK) | (with_reducible apply seqK_next) | (with_reducible exact seqK_ret) | (with_reducible exact seqK_brk) | (with_reducible apply selB_not) | (with_reducible refine selB_t (by assumption) ?_) | (with_reducible refine selB_f (by assumption) ?_) | (with_reducible refine selB_t (by rfl) ?_) | (with_reducible refine selB_f (by rfl) ?_) | (with_reducible apply e_ite) | (with_reducible apply e_b2) | (with_reducible apply e_truP) | (with_reducible exact ptru_bool) | (with_reducible exact ptru_int) | (with_reducible apply e_not) | (with_reducible apply e_and) | (with_reducible apply e_or) | (with_reducible exact e_tt) | (with_reducible exact e_ff) | (with_reducible apply e_argC) | (with_reducible apply e_call) | (with_reducible apply e_methK) | (with_reducible exact sel_str) | (with_reducible apply e_asgK) | (with_reducible apply e_asgCK) | (with_reducible apply e_augK) | (with_reducible apply e_ret) | (with_reducible apply e_drop) | (with_reducible apply e_negK) | (with_reducible apply e_assK) | (with_reducible apply e_pairK) | (with_reducible exact set0) | (with_reducible apply setS) | (with_reducible exact pl_add) | (with_reducible exact pl_sub) | (with_reducible exact pl_eq) | (with_reducible exact pl_ne) | (with_reducible exact pl_ge) | (with_reducible exact pl_iadd) | (with_reducible exact pl_isub) | (with_reducible exact pl_lt) | (with_reducible exact pl_gt) | (with_reducible exact some_rfl)))
theorem ne_ints {i j : Nat} {zs : List Int} {σ : AS} (h1 : getInts σ i = some zs) (h2 : getInts σ j = some zs) : cmpG .NotEq (.ref i) (.ref j) σ = some (.bool false, σ) := by
  simp only [cmpG, acmp, h1, h2, Option.bind_some, Option.map_some, decide_true, Bool.not_true]
theorem eq_ints {i j : Nat} {zs : List Int} {σ : AS} (h1 : getInts σ i = some zs) (h2 : getInts σ j = some zs) : cmpG .Eq (.ref i) (.ref j) σ = some (.bool true, σ) := by
  simp only [cmpG, acmp, h1, h2, Option.bind_some, Option.map_some, decide_true]
theorem mod_nat (x : Int) (m : Nat) (hm : 0 < m) : ∃ s : Nat, s < m ∧ x.fmod m = (s : Int) := by
  have h1 := Int.fmod_nonneg_of_pos x (b := (m : Int)) (by omega)
  have h2 := Int.fmod_lt_of_pos x (b := (m : Int)) (by omega)
  exact ⟨(x.fmod m).toNat, by omega, by omega⟩
theorem toNat_lt {x : Int} {m : Nat} (hm : 0 < m) : (x.fmod m).toNat < m := by
  obtain ⟨s, h1, h2⟩ := mod_nat x m hm
  rw [h2, Int.toNat_natCast]; exact h1
theorem row_good {nums : List Int} (hL : nums.length = 5) : rowGood (rowL nums) = true := by
  match nums, hL with
  | [x0, x1, x2, x3, x4], _ =>
    rw [row_sp]
    have e0 : (x0.fmod 1).toNat = 0 := Nat.lt_one_iff.mp (toNat_lt (m := 1) (by decide))
    rw [e0]
    exact rows_all (toNat_lt (m := 3) (by decide)) (toNat_lt (m := 5) (by decide)) (toNat_lt (m := 7) (by decide)) (toNat_lt (m := 9) (by decide))
theorem good_of {row : List Int} (h : rowGood row = true) : (∀ x ∈ row, -1 ≤ x ∧ x < 5) ∧ row.length ≤ 50 ∧ ∃ q, outersGo row row.length 0 [] [] = some q ∧ hungGo row [] [] = some q.2 ∧ forests.contains q.2 = true := by
  delta rowGood at h
  rw [Bool.and_eq_true, Bool.and_eq_true] at h
  obtain ⟨g1, g2, g3⟩ := h
  refine ⟨fun x hx => by simpa using List.all_eq_true.mp g1 x hx, of_decide_eq_true g2, ?_⟩
  split at g3
  · rename_i q f hq hf
    rw [Bool.and_eq_true, beq_iff_eq] at g3
    obtain ⟨rfl, hfc⟩ := g3
    exact ⟨q, hq, hf, hfc⟩
  · cases g3
theorem leaf_of {f : List Int} (h : leafOK f = true) : ∃ r, holesB (looseL f) = some r ∧ dueB f = some r := by
  delta leafOK at h
  split at h
  · rename_i r1 r2 e1 e2
    have er := beq_iff_eq.mp h
    exact ⟨r1, e1, by rw [er]; exact e2⟩
  · cases h
theorem numsL_len (ns : List Int) : (numsL ns).length = 5 := by
  delta numsL
  have : (ns.take 5).length ≤ 5 := by rw [List.length_take]; exact Nat.min_le_left _ _
  simp only [List.length_append, List.length_map, List.length_drop, List.length_cons, List.length_nil]
  omega
theorem law_plain_of (hP : ∀ s c, s < 7 → 1 ≤ c → c < 32 → prettyOK 5 c s = true) (hT : ∀ s w i, s < 7 → w < i → i < 5 → splitOK 5 (tieN w i) s = true ∧ repOK 5 (tieN w i) s = true) (a : Addr) (ns : List Int) (h : ns.length ≤ 63) : ∃ σ', law_f (some (a, ns)) ⟨some (.adr a) :: [none, none, none], none, []⟩ = some (.ret (.bool true), σ') := by
  obtain ⟨n, hn⟩ : ∃ n, (numsL ns)[0]? = some n := ⟨(numsL ns)[0]'(by rw [numsL_len]; decide), List.getElem?_eq_getElem _⟩
  obtain ⟨hr, hl, q, hq, hf, hfc⟩ := good_of (row_good (numsL_len ns))
  obtain ⟨hleaf, hval⟩ := leaf_all hfc
  obtain ⟨hv1, hv2⟩ := validF_of hval
  obtain ⟨r, e1, e2⟩ := leaf_of hleaf
  obtain ⟨e, _, hee⟩ := mod_nat n 5 (by decide)
  obtain ⟨d, hd, hde⟩ := mod_nat (n.fdiv 5) 4 (by decide)
  obtain ⟨s, hs, hse⟩ := mod_nat (n.fdiv 20) 7 (by decide)
  obtain ⟨ys, hys, hol⟩ := holes_val e1
  obtain ⟨zs, hzs, hdu⟩ := due_val e2
  exact law_run (numbers_eq (Nat.le_trans h (by decide)) _) (fun l => row_eq (numsL_len ns) rfl) (fun l o => pl_sub_at (k := 0) rfl (by decide) (by rw [List.getElem?_map, hn]; rfl))
    (fun l => texts_eq hr hl hee hd hde rfl) (fun l => outers_eq hd hr hl hq rfl) (fun l => hung_eq hl hf rfl) (fun l => ne_ints (intsOf_map q.2) (intsOf_map q.2)) (fun σ => by rw [pl_mod (by decide)]; exact congrArg (fun z => some (AV.int z, σ)) hse)
    (fun l => loose_eq hs hv1 hv2 (fun c => hP s c hs) (fun w i => hT s w i hs) rfl) (fun l => hol 5 _ _ _ rfl) (fun l => hung_eq hl hf rfl) (fun l => hdu 7 _ _ _ rfl) (fun l => eq_ints hys hzs)
end Mine
-- part QA
namespace Mine
noncomputable def wordsOK (s : Nat) : Bool := (List.range' 1 31).all fun c => prettyOK 5 c s
noncomputable def tiesOK (s : Nat) : Bool := (List.range 5).all fun i => (List.range i).all fun w => splitOK 5 (tieN w i) s && repOK 5 (tieN w i) s
theorem wo_0 : wordsOK 0 = true := by decide +kernel
theorem ti_0 : tiesOK 0 = true := by decide +kernel
theorem wo_1 : wordsOK 1 = true := by decide +kernel
theorem ti_1 : tiesOK 1 = true := by decide +kernel
theorem wo_2 : wordsOK 2 = true := by decide +kernel
theorem ti_2 : tiesOK 2 = true := by decide +kernel
theorem wo_3 : wordsOK 3 = true := by decide +kernel
theorem ti_3 : tiesOK 3 = true := by decide +kernel
theorem wo_4 : wordsOK 4 = true := by decide +kernel
theorem ti_4 : tiesOK 4 = true := by decide +kernel
theorem wo_5 : wordsOK 5 = true := by decide +kernel
theorem ti_5 : tiesOK 5 = true := by decide +kernel
theorem wo_6 : wordsOK 6 = true := by decide +kernel
theorem ti_6 : tiesOK 6 = true := by decide +kernel
theorem wo_all {s : Nat} (h : s < 7) : wordsOK s = true := by
  match s, h with
  | 0, _ => exact wo_0
  | 1, _ => exact wo_1
  | 2, _ => exact wo_2
  | 3, _ => exact wo_3
  | 4, _ => exact wo_4
  | 5, _ => exact wo_5
  | 6, _ => exact wo_6
theorem ti_all {s : Nat} (h : s < 7) : tiesOK s = true := by
  match s, h with
  | 0, _ => exact ti_0
  | 1, _ => exact ti_1
  | 2, _ => exact ti_2
  | 3, _ => exact ti_3
  | 4, _ => exact ti_4
  | 5, _ => exact ti_5
  | 6, _ => exact ti_6
theorem words_at {s c : Nat} (h : s < 7) (h1 : 1 ≤ c) (h2 : c < 32) : prettyOK 5 c s = true :=
  List.all_eq_true.mp (wo_all h) c (List.mem_range'_1.mpr ⟨h1, by omega⟩)
theorem ties_at {s w i : Nat} (h : s < 7) (h1 : w < i) (h2 : i < 5) : splitOK 5 (tieN w i) s = true ∧ repOK 5 (tieN w i) s = true := by
  have := List.all_eq_true.mp (List.all_eq_true.mp (ti_all h) i (List.mem_range.mpr h2)) w (List.mem_range.mpr h1)
  simpa using this
end Mine
-- part PL2
namespace Mine
theorem law_plain (a : Addr) (ns : List Int) (h : ns.length ≤ 63) : ∃ σ', law_f (some (a, ns)) ⟨some (.adr a) :: [none, none, none], none, []⟩ = some (.ret (.bool true), σ') :=
  law_plain_of (fun _ _ hs h1 h2 => words_at hs h1 h2) (fun _ _ _ hs h1 h2 => ties_at hs h1 h2) a ns h
end Mine
-- part WW2
open Mine
set_option maxRecDepth 100000 in
set_option maxHeartbeats 8000000 in
theorem PySem.Challenge.cw_sc0038_02_holds : PySem.Challenge.rw_sc0038_02.Holds := by
 exact hf (by
  w_strict (
    k_fill
    intro w s₀ s₁ mg mb G Y fa o pm cd doc dV kV ho hd hcd hD hmg hg args vals as hpre hlay hrd hwl hlo
    have KX := kIn_of Y
    have X := (Ground.X G).1
    have V := (Ground.X G).2
    refine Ground.open G ?_
    intro T B D TE TW
    try (refine guard_noD D (by decide +kernel) ?_; clear D)
    obtain ⟨_, _, M⟩ := bmod_of_top T
    have TA := at_of_top T
    try (obtain ⟨_, _, he, B0⟩ := based_of_top T rfl hmg ho hd; have he' : cd = _ := he; subst he'; clear he)
    clear hmg
    wrow_args hpre hlay hrd hwl hlo
    all_goals (
      first | refine callC_kw (enter_call ?_) | refine enter_call ?_ | refine callC_kw (enter_callW ?_) | refine enter_callW ?_ | w_how
      w_top on
      have K0 := below_caller (Top.heap T)
      w_call any ho hd hcd hD T F
      clear hd TA)
    rename IntsAre _ _ => hI
    rename Heap.IsList _ _ _ => hL
    rename News _ _ _ _ => N0
    refine Mine.law_in hL hI (Mine.law_plain _ _ (by omega)) ?mineB K0 F N0 rfl KX T rfl rfl rfl rfl rfl rfl ?mineK
    case mineB =>
      intro y hold
      dsimp only [envOf]
      exact (hexs_cons (hex_assign (.fast 1) (hev_callN (hnm_global (ns__law_numbers y) rfl) (.inr (.inr (kp__law_numbers y))) (har_cons (hev_name (.fast 0) (by decide +kernel) (by decide +kernel)) har_nil (fun _ => se_Name)) (hle (c_numbers y _ (fun a ns e => by cases e; exact hold)) (by decide)) (st_cons (fun _ => se_Name) st_nil)) (by decide +kernel) (by decide +kernel) (fun _ _ => sw_Call))
    (hexs_cons (hex_assign (.fast 2) (hev_callN (hnm_global (ns__law_row y) rfl) (.inr (.inr (kp__law_row y))) (har_cons (hev_name (.fast 1) (by decide +kernel) (by decide +kernel)) har_nil (fun _ => se_Name)) (hle (c_row y) (by decide)) (st_cons (fun _ => se_Name) st_nil)) (by decide +kernel) (by decide +kernel) (fun _ _ => sw_Call))
    (hexs_cons (hex_assign (.fast 3) (hev_callN (hnm_global (ns__law_outers y) rfl) (.inr (.inr (kp__law_outers y))) (har_cons (hev_callN (hnm_global (ns__law_texts y) rfl) (.inr (.inr (kp__law_texts y))) (har_cons (hev_name (.fast 2) (by decide +kernel) (by decide +kernel)) (har_cons (hev_sub (hev_name (.fast 1) (by decide +kernel) (by decide +kernel)) hev_int (fun _ _ => sb_Constant)) har_nil (fun _ => se_Sub)) (fun _ => se_Name)) (hle (c_texts y) (by decide)) (st_cons (fun _ => se_Name) (st_cons (fun _ => se_Sub) st_nil))) har_nil (fun _ => se_Call)) (hle (c_outers y) (by decide)) (st_cons (fun _ => se_Call) st_nil)) (by decide +kernel) (by decide +kernel) (fun _ _ => sw_Call))
    (hexs_cons (hex_if (htj_compare (hev_name (.fast 3) (by decide +kernel) (by decide +kernel)) (hev_callN (hnm_global (ns__law_hung y) rfl) (.inr (.inr (kp__law_hung y))) (har_cons (hev_name (.fast 2) (by decide +kernel) (by decide +kernel)) har_nil (fun _ => se_Name)) (hle (c_hung y) (by decide)) (st_cons (fun _ => se_Name) st_nil)) (hacmp_ok _) rfl)
    (hexs_cons (hex_return hev_bool)
    hexs_nil)
    hexs_nil)
    (hexs_cons (hex_return (hev_compare (hev_callN (hnm_global (ns__law_holes y) rfl) (.inr (.inr (kp__law_holes y))) (har_cons (hev_callN (hnm_global (ns__law_loose y) rfl) (.inr (.inr (kp__law_loose y))) (har_cons (hev_name (.fast 3) (by decide +kernel) (by decide +kernel)) (har_cons (hev_binop (hev_binop (hev_sub (hev_name (.fast 1) (by decide +kernel) (by decide +kernel)) hev_int (fun _ _ => sb_Constant)) hev_int (habin_ok _)) hev_int (habin_ok _)) har_nil (fun _ => se_BinOp)) (fun _ => se_Name)) (hle (c_loose y) (by decide)) (st_cons (fun _ => se_Name) (st_cons (fun _ => se_BinOp) st_nil))) har_nil (fun _ => se_Call)) (hle (c_holes y) (by decide)) (st_cons (fun _ => se_Call) st_nil)) (hev_callN (hnm_global (ns__law_due y) rfl) (.inr (.inr (kp__law_due y))) (har_cons (hev_callN (hnm_global (ns__law_hung y) rfl) (.inr (.inr (kp__law_hung y))) (har_cons (hev_name (.fast 2) (by decide +kernel) (by decide +kernel)) har_nil (fun _ => se_Name)) (hle (c_hung y) (by decide)) (st_cons (fun _ => se_Name) st_nil)) har_nil (fun _ => se_Call)) (hle (c_due y) (by decide)) (st_cons (fun _ => se_Call) st_nil)) (hacmp_ok _) rfl))
    hexs_nil)))))
    case mineK =>
      intro s' m' F' S'
      have hbare : AllBare s'.gens := S'.bare (.of_eq hg)
      have hos : s'.os = s₁.os := S'.os
      try dsimp only
      wrow_closeG))
