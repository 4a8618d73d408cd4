import PyProof.Rows.All
import Wide.All
import OpenK.AllK
import Wide.FinOn
import PySem.Challenge.RW_sw0043_01
open PySem PySem.W PyProof.Rows
set_option Elab.async false
set_option linter.unusedVariables false
section -- Top0
set_option maxRecDepth 100000
set_option maxHeartbeats 0
namespace Mine
open_top hd for PySem.Challenge.rw_sw0043_01
end Mine
end -- Top0
section -- L0
set_option maxRecDepth 10000
namespace Mine

theorem runs_toks {M : Model} {Γ : Ctx} {p : Pos} {t : Sem Fin} {fs : List PySem.Frame} {s s' : Shared} {e : End} (h : Runs M Γ p t fs s e s') : s.toks ≤ s'.toks := by
  induction h with
  | done => exact Nat.le_refl _
  | raise => exact Nat.le_refl _
  | yield => exact Nat.le_refl _
  | fresh _ ih => exact Nat.le_of_succ_le ih
  | call _ _ ih1 ih2 => exact Nat.le_trans ih1 ih2
  | resumeFresh _ _ _ _ ih1 ih2 => exact Nat.le_trans ih1 ih2
  | resumeSuspended _ _ _ _ ih1 ih2 => exact Nat.le_trans ih1 ih2
  | segRet _ _ ih1 ih2 => exact Nat.le_trans ih1 ih2
  | segGen _ _ ih1 ih2 => exact Nat.le_trans ih1 ih2
  | segSuspGen _ _ _ _ ih1 ih2 => exact Nat.le_trans ih1 ih2
  | _ => assumption
theorem wakes_toks {M : Model} {Γ : Ctx} {p : Pos} {g : Nat} {r : Resume} {s s' : Shared} {res : GenResult} (h : Wakes M Γ p g r s res s') : s.toks ≤ s'.toks := by
  unfold Wakes at h
  split at h
  · exact h.elim
  · split at h
    · obtain ⟨e, s₁, hr, _, _, rfl⟩ := h
      have := runs_toks hr
      exact this
    · obtain ⟨_, rfl⟩ := h; exact Nat.le_refl _
    · obtain ⟨_, rfl⟩ := h; exact Nat.le_refl _
  · obtain ⟨e, s₁, hr, _, _, rfl⟩ := h
    have := runs_toks hr
    exact this
  · obtain ⟨_, rfl⟩ := h; exact Nat.le_refl _
  · obtain ⟨_, rfl⟩ := h; exact Nat.le_refl _

theorem wp_toks {α : Type} {M : Model} {Γ : Ctx} {n : Nat} {Q : α → Pos → Shared → Prop} {E : Value → Pos → Shared → Prop} (t : Sem α) : ∀ (p : Pos) (s : Shared), n ≤ s.toks →
    Sem.wp M Γ t (fun a p' s' => n ≤ s'.toks → Q a p' s') (fun e p' s' => n ≤ s'.toks → E e p' s') p s → Sem.wp M Γ t Q E p s := by
  induction t with
  | pure a => intro p s hn h; simp only [Sem.wp] at h ⊢; exact h hn
  | raise e => intro p s hn h; simp only [Sem.wp] at h ⊢; exact h hn
  | load a part k ih => intro p s hn h; simp only [Sem.wp] at h ⊢; obtain ⟨o, h1, h2⟩ := h; exact ⟨o, h1, ih _ _ _ hn h2⟩
  | update a part f k ih => intro p s hn h; simp only [Sem.wp] at h ⊢; exact ⟨h.1, ih _ _ _ hn h.2⟩
  | fresh k ih => intro p s hn h; simp only [Sem.wp] at h ⊢; exact ih _ _ _ (Nat.le_succ_of_le hn) h
  | choose src m k ih => intro p s hn h; simp only [Sem.wp] at h ⊢; exact ⟨h.1, ih _ _ _ hn h.2⟩
  | call c hd g l k ih =>
    intro p s hn h
    simp only [Sem.wp] at h ⊢
    obtain ⟨r, s', hr, h'⟩ := h
    exact ⟨r, s', hr, ih _ _ _ (Nat.le_trans hn (runs_toks hr)) h'⟩
  | genState g k ih => intro p s hn h; simp only [Sem.wp] at h ⊢; obtain ⟨o, h1, h2⟩ := h; exact ⟨o, h1, ih _ _ _ hn h2⟩
  | resume g r l k ih =>
    intro p s hn h
    simp only [Sem.wp] at h ⊢
    obtain ⟨res, s', hr, h'⟩ := h
    exact ⟨res, s', hr, ih _ _ _ (Nat.le_trans hn (wakes_toks hr)) h'⟩
  | unsupported => intro p s hn h; simp only [Sem.wp] at h
  | finish => intro p s hn h; simp only [Sem.wp] at h
  | register => intro p s hn h; simp only [Sem.wp] at h
  | yield => intro p s hn h; simp only [Sem.wp] at h
  | fork => intro p s hn h; simp only [Sem.wp] at h
  | await => intro p s hn h; simp only [Sem.wp] at h
  | _ => rename_i ih; intro p s hn h; simp only [Sem.wp] at h ⊢; exact ih _ _ _ hn h
theorem wpAny_tk {α : Type} {M : Model} {A : Around} {t : Sem α} {Q : α → Shared → Prop} {E : Value → Shared → Prop} {s : Shared}
    (h : wpAny M A t (fun a s' => s.toks ≤ s'.toks → Q a s') E s) : wpAny M A t Q E s := fun Γ p hΓ =>
  wp_toks (Q := fun a _ s' => Q a s') (E := fun e _ s' => E e s') t p s (Nat.le_refl _)
    (Sem.wp_mono (post' := fun a _ s' => s.toks ≤ s'.toks → Q a s') (exc' := fun e _ s' => s.toks ≤ s'.toks → E e s') M Γ t (fun _ _ _ h => h) (fun _ _ _ h _ => h) p s (h Γ p hΓ))
theorem codeAny_tk {M : Model} {A : Around} {c : Code} {R : Result → Shared → Prop} {s : Shared}
    (h : codeAny M A c (fun r s' => s.toks ≤ s'.toks → R r s') s) : codeAny M A c R s := fun Γ p hc hΓ => by
  obtain ⟨r, s', hr, h'⟩ := h Γ p hc hΓ
  exact ⟨r, s', hr, h' (runs_toks hr)⟩
end Mine
end -- L0
section -- L1
set_option maxRecDepth 10000
namespace Mine

/-- abstract data -/
inductive PV where
  | none
  | bool (b : Bool)
  | int (i : Int)
  | str (x : Str)
  | list (xs : List PV)
  | tup (xs : List PV)
  | inst (C : Addr) (fs : List (Str × PV))
  | val (v : Value)

noncomputable def isData (o : Obj) : Bool := match o.cls with
  | .type n => n == "list" || n == "tuple" || n == "dict"
  | .ref _ => true
  | _ => false

noncomputable abbrev View := Addr → Option Obj
noncomputable def vw (h : Heap) (hid : List Addr) : View := fun b => if b ∈ hid then Option.none else (h.get? b).filter isData
theorem vw_some {h : Heap} {hid : List Addr} {b : Addr} {o : Obj} : vw h hid b = some o ↔ b ∉ hid ∧ h.get? b = some o ∧ isData o = true := by
  unfold vw
  split
  · simp_all
  · simp_all [Option.filter_eq_some_iff]

mutual
inductive Rep (G : View) : PV → Value → Prop
  | none : Rep G .none .none
  | bool {b} : Rep G (.bool b) (.bool b)
  | int {i t} : Rep G (.int i) (.int i t)
  | str {x t} : Rep G (.str x) (.str x t)
  | list {a vs n xs} : G a = some { cls := .type "list", data := .seq vs n } → Reps G xs vs.toList → Rep G (.list xs) (.ref a)
  | tup {a vs n xs} : G a = some { cls := .type "tuple", data := .seq vs n } → Reps G xs vs.toList → Rep G (.tup xs) (.ref a)
  | inst {x C dx es n fs} : G x = some ⟨.ref C, some dx, .plain, #[]⟩ → G dx = some (dictOf es n) → x ≠ dx → Ents G fs es → Rep G (.inst C fs) (.ref x)
  | val {v} : Rep G (.val v) v
inductive Reps (G : View) : List PV → List Value → Prop
  | nil : Reps G [] []
  | cons {d v ds vs} : Rep G d v → Reps G ds vs → Reps G (d :: ds) (v :: vs)
inductive Ents (G : View) : List (Str × PV) → List DictEntry → Prop
  | nil : Ents G [] []
  | cons {x d r es hh t v} : Rep G d v → Ents G r es → Ents G ((x, d) :: r) (⟨hh, .str x t, v⟩ :: es)
end

noncomputable def Le (G G' : View) : Prop := ∀ a o, G a = some o → G' a = some o
theorem Le.refl (G : View) : Le G G := fun _ _ h => h
theorem Le.trans {G₁ G₂ G₃ : View} (h : Le G₁ G₂) (h' : Le G₂ G₃) : Le G₁ G₃ := fun a o e => h' a o (h a o e)

mutual
theorem Rep.mono {G G' : View} (hG : Le G G') : ∀ {d v}, Rep G d v → Rep G' d v
  | _, _, .none => .none
  | _, _, .bool => .bool
  | _, _, .int => .int
  | _, _, .str => .str
  | _, _, .list h r => .list (hG _ _ h) (Reps.mono hG r)
  | _, _, .tup h r => .tup (hG _ _ h) (Reps.mono hG r)
  | _, _, .inst h c e r => .inst (hG _ _ h) (hG _ _ c) e (Ents.mono hG r)
  | _, _, .val => .val
theorem Reps.mono {G G' : View} (hG : Le G G') : ∀ {d v}, Reps G d v → Reps G' d v
  | _, _, .nil => .nil
  | _, _, .cons h r => .cons (Rep.mono hG h) (Reps.mono hG r)
theorem Ents.mono {G G' : View} (hG : Le G G') : ∀ {d v}, Ents G d v → Ents G' d v
  | _, _, .nil => .nil
  | _, _, .cons h r => .cons (Rep.mono hG h) (Ents.mono hG r)
end

theorem Reps.length {G : View} : ∀ {ds vs}, Reps G ds vs → ds.length = vs.length
  | _, _, .nil => rfl
  | _, _, .cons _ r => by simp [Reps.length r]
theorem Reps.get {G : View} : ∀ {ds : List PV} {vs : List Value}, Reps G ds vs → ∀ (i : Nat) (d : PV), ds[i]? = some d → ∃ v, vs[i]? = some v ∧ Rep G d v
  | _, _, .nil, i, d, h => by simp at h
  | _, _, .cons h r, 0, d, e => by simp at e; subst e; exact ⟨_, rfl, h⟩
  | _, _, .cons h r, i + 1, d, e => by simp at e; simpa using Reps.get r i d e
theorem Reps.get' {G : View} : ∀ {ds : List PV} {vs : List Value}, Reps G ds vs → ∀ (i : Nat) (v : Value), vs[i]? = some v → ∃ d, ds[i]? = some d ∧ Rep G d v
  | _, _, .nil, i, d, h => by simp at h
  | _, _, .cons h r, 0, d, e => by simp at e; subst e; exact ⟨_, rfl, h⟩
  | _, _, .cons h r, i + 1, d, e => by simp at e; simpa using Reps.get' r i d e
theorem Reps.append {G : View} : ∀ {ds vs es ws}, Reps G ds vs → Reps G es ws → Reps G (ds ++ es) (vs ++ ws)
  | _, _, _, _, .nil, h => h
  | _, _, _, _, .cons h r, h' => .cons h (Reps.append r h')


structure Fx where
  prog : Program
  w : World
  A : Around
  env : Env
  hid : List Addr
  s₀ : Shared
  C : Heap → Prop
  k : Nat
  n : Nat := 0
  pins : List (Addr × Obj) := []
noncomputable abbrev Fx.M (Γ : Fx) : Model := model Γ.prog Γ.w

noncomputable abbrev Loc := Str → Option PV
noncomputable abbrev Mu := Option (Str × List PV)
noncomputable def up (ρ : Loc) (x : Str) (d : PV) : Loc := fun y => if y = x then some d else ρ y
noncomputable def Fx.hids (Γ : Fx) (mu : Mu) (a : Addr) : List Addr := match mu with
  | none => Γ.hid
  | some _ => a :: Γ.hid

/-- where the frame keeps the name x -/
inductive Look (Γ : Fx) (m : Str → Option Value) (h : Heap) (x : Str) (v : Value) : Prop
  | loc : Γ.env.kindOf x = some .local → m x = some v → Look Γ m h x v
  | cell {c} : Γ.env.kindOf x = some .cell ∨ Γ.env.kindOf x = some .free → Γ.env.cells.lookup x = some c → h.IsCell c (some v) → Look Γ m h x v

/-- what the text's top is, kept by every heap that keeps it -/
structure Fx.Ok (Γ : Fx) : Prop where
  kind : Γ.env.scope.kind = .function
  handled : Γ.A.handled = none
  depth : Γ.A.depth + Γ.k < recursionLimit
  units : Γ.A.units + 10 * Γ.k < cLine
  room : 5 ≤ Γ.k
  nodbg : Γ.env.kindOf (Str.ofString "__debug__") = none ∧ Γ.env.kindOf (Str.ofString "__classdict__") = none
  glob : Γ.env.globals = mainGlobals
  bns : Γ.env.builtins = builtinsNs
  ctx : Γ.C Γ.s₀.heap
  mono : ∀ h h' : Heap, Γ.C h → (∀ b o, h.get? b = some o → h'.get? b = some o) → Γ.C h'
  hidL : Γ.env.locals ∈ Γ.hid
  newL : Γ.s₀.heap.get? Γ.env.locals = none
  cells : ∀ x c, Γ.env.cells.lookup x = some c → c ∈ Γ.hid ∧ c ≠ Γ.env.locals
  apart : ∀ x y c, Γ.env.cells.lookup x = some c → Γ.env.cells.lookup y = some c → x = y
  pinH : ∀ p ∈ Γ.pins, p.1 ∈ Γ.hid ∧ p.1 ≠ Γ.env.locals ∧ ∀ x c, Γ.env.cells.lookup x = some c → p.1 ≠ c

structure MuAt (Γ : Fx) (m : Str → Option Value) (x : Str) (xs : List PV) (a : Addr) (s : Shared) : Prop where
  look : Look Γ m s.heap x (.ref a)
  out : a ∉ Γ.hid
  new : Γ.s₀.heap.get? a = none
  at_ : ∃ vs n, s.heap.get? a = some { cls := .type "list", data := .seq vs n } ∧ Reps (vw s.heap (a :: Γ.hid)) xs vs.toList

structure St (Γ : Fx) (ρ : Loc) (mu : Mu) (a : Addr) (s : Shared) : Prop where
  same : ∃ h tk, s = { Γ.s₀ with heap := h, toks := tk }
  floor : Γ.n ≤ s.toks
  late : Γ.s₀.toks ≤ s.toks
  pin : ∀ p ∈ Γ.pins, s.heap.get? p.1 = some p.2
  keep : ∀ b o, Γ.s₀.heap.get? b = some o → s.heap.get? b = some o
  hid : ∀ b, b ∈ Γ.hid → ∃ o, s.heap.get? b = some o
  cls : ∀ x c, Γ.env.cells.lookup x = some c → ∃ u, s.heap.IsCell c u
  vars : ∃ m, s.heap.Ns Γ.env.locals m ∧
    (∀ x d, ρ x = some d → ∃ v, Look Γ m s.heap x v ∧ Rep (vw s.heap (Γ.hids mu a)) d v) ∧
    (∀ x xs, mu = some (x, xs) → MuAt Γ m x xs a s)

noncomputable def Pres (hs : List Addr) (s : Shared) (hs' : List Addr) (s' : Shared) : Prop :=
  ∀ b o, b ∉ hs → s.heap.get? b = some o → b ∉ hs' ∧ s'.heap.get? b = some o
theorem Pres.refl (hs : List Addr) (s : Shared) : Pres hs s hs s := fun _ _ h e => ⟨h, e⟩
theorem Pres.trans {h1 h2 h3 s1 s2 s3} (x : Pres h1 s1 h2 s2) (y : Pres h2 s2 h3 s3) : Pres h1 s1 h3 s3 := fun b o h e => let ⟨h', e'⟩ := x b o h e; y b o h' e'
theorem Pres.le {hs hs' : List Addr} {s s' : Shared} (x : Pres hs s hs' s') : Le (vw s.heap hs) (vw s'.heap hs') := fun b o e => by
  obtain ⟨h1, h2, h3⟩ := vw_some.mp e
  obtain ⟨h4, h5⟩ := x b o h1 h2
  exact vw_some.mpr ⟨h4, h5, h3⟩
structure Kp (s s' : Shared) : Prop where
  get : ∀ b o, s.heap.get? b = some o → s'.heap.get? b = some o
  same : ∃ h tk, s' = { s with heap := h, toks := tk }
  tk : s.toks ≤ s'.toks
theorem Kp.refl (s : Shared) : Kp s s := ⟨fun _ _ e => e, ⟨s.heap, s.toks, rfl⟩, Nat.le_refl _⟩
theorem Kp.trans {s s' s'' : Shared} (x : Kp s s') (y : Kp s' s'') : Kp s s'' := by
  refine ⟨fun b o e => y.get b o (x.get b o e), ?_, Nat.le_trans x.tk y.tk⟩
  obtain ⟨_, ⟨h, t, rfl⟩, _⟩ := x
  obtain ⟨_, ⟨h', t', rfl⟩, _⟩ := y
  exact ⟨h', t', rfl⟩
theorem Kp.pres {s s' : Shared} (x : Kp s s') (hs : List Addr) : Pres hs s hs s' := fun b o h e => ⟨h, x.get b o e⟩
theorem Kp.le {s s' : Shared} (x : Kp s s') (hs : List Addr) : Le (vw s.heap hs) (vw s'.heap hs) := (x.pres hs).le
theorem Kp.tok (s : Shared) (t : Nat) (h : s.toks ≤ t := by first | exact Nat.le_succ _ | assumption | omega) : Kp s { s with toks := t } := ⟨fun _ _ e => e, ⟨s.heap, t, rfl⟩, h⟩
theorem Kp.of {s : Shared} {h : Heap} {t : Nat} (k : ∀ b o, s.heap.get? b = some o → h.get? b = some o) (ht : s.toks ≤ t := by first | exact Nat.le_succ _ | assumption | omega) : Kp s { s with heap := h, toks := t } := ⟨k, ⟨h, t, rfl⟩, ht⟩
theorem Kp.ofh {s : Shared} {h : Heap} (k : ∀ b o, s.heap.get? b = some o → h.get? b = some o) : Kp s { s with heap := h } := ⟨k, ⟨h, s.toks, rfl⟩, Nat.le_refl _⟩
theorem Kp.keeps {s s' : Shared} (k : Kp s s') : Keeps s s' := let ⟨g, ⟨h, t, e⟩, _⟩ := k; ⟨h, t, e, fun b o q => by have := g b o q; rw [e] at this; exact this⟩
theorem Kp.of_keeps {s s' : Shared} (k : Keeps s s') (ht : s.toks ≤ s'.toks) : Kp s s' := by obtain ⟨h, t, rfl, k⟩ := k; exact ⟨k, ⟨h, t, rfl⟩, ht⟩
theorem vw_more {h : Heap} {hs hs' : List Addr} (k : ∀ b, b ∈ hs' → b ∈ hs) : Le (vw h hs) (vw h hs') := fun b o e => by
  obtain ⟨h1, h2, h3⟩ := vw_some.mp e
  exact vw_some.mpr ⟨fun q => h1 (k b q), h2, h3⟩

theorem isCell_keeps {h h' : Heap} {c v} (x : h.IsCell c v) (k : ∀ b o, h.get? b = some o → h'.get? b = some o) : h'.IsCell c v :=
  let ⟨o, e, r⟩ := x; ⟨o, k _ _ e, r⟩
theorem Look.keeps {Γ : Fx} {m h h' x v} (l : Look Γ m h x v) (k : ∀ b o, h.get? b = some o → h'.get? b = some o) : Look Γ m h' x v := by
  cases l with
  | loc h1 h2 => exact .loc h1 h2
  | cell h1 h2 h3 => exact .cell h1 h2 (isCell_keeps h3 k)

theorem St.kept {Γ : Fx} {ρ mu a s s'} (x : St Γ ρ mu a s) (k : Kp s s') : St Γ ρ mu a s' := by
  obtain ⟨⟨h, t, e⟩, fl, u0, pn, kp, hid, cls, m, hn, hv, hm⟩ := x
  have kg := k.get
  refine ⟨?_, Nat.le_trans fl k.tk, Nat.le_trans u0 k.tk, fun p hp => kg _ _ (pn p hp), fun b o e => kg b o (kp b o e), fun b hb => ?_, fun x c hc => let ⟨u, hu⟩ := cls x c hc; ⟨u, isCell_keeps hu kg⟩, m, ?_, fun x d hx => ?_, fun x xs hx => ?_⟩
  · obtain ⟨_, ⟨h', t', rfl⟩, _⟩ := k
    exact ⟨h', t', by rw [e]⟩
  · obtain ⟨o, e⟩ := hid b hb
    exact ⟨o, kg _ _ e⟩
  · exact hn.at' fun o e => kg _ _ e
  · obtain ⟨v, l, r⟩ := hv x d hx
    exact ⟨v, l.keeps kg, r.mono (k.le _)⟩
  · obtain ⟨l, o1, n1, vs, n, e, e4⟩ := hm x xs hx
    exact ⟨l.keeps kg, o1, n1, vs, n, kg _ _ e, e4.mono (k.le _)⟩

/-- an expression gives d -/
noncomputable def EV (Γ : Fx) (ρ : Loc) (mu : Mu) (e : Expr) (d : PV) : Prop :=
  ∀ a s E, St Γ ρ mu a s → wpAny Γ.M Γ.A (eval e Γ.env) (fun v s' => Kp s s' ∧ Rep (vw s'.heap (Γ.hids mu a)) d v) E s
/-- an expression gives the very value v -/
noncomputable def EV1 (Γ : Fx) (ρ : Loc) (mu : Mu) (e : Expr) (v : Value) : Prop :=
  ∀ a s E, St Γ ρ mu a s → wpAny Γ.M Γ.A (eval e Γ.env) (fun v' s' => Kp s s' ∧ v' = v) E s
/-- a test gives b -/
noncomputable def ET (Γ : Fx) (ρ : Loc) (mu : Mu) (e : Expr) (b : Bool) : Prop :=
  ∀ a s E, St Γ ρ mu a s → wpAny Γ.M Γ.A (isTrue e Γ.env (eval e Γ.env)) (fun b' s' => Kp s s' ∧ b' = b) E s

section
variable {Γ : Fx} {ρ : Loc} {mu : Mu}
theorem EV.int {i k pos} : EV Γ ρ mu (.Constant (.int i) k pos) (.int i) := fun a s E _ => wpAny_Constant_int ⟨Kp.tok s _, .int⟩
theorem EV.str {x k pos} : EV Γ ρ mu (.Constant (.str x) k pos) (.str x) := fun a s E _ => wpAny_Constant_str ⟨Kp.tok s _, .str⟩
theorem EV.bool {b k pos} : EV Γ ρ mu (.Constant (.bool b) k pos) (.bool b) := fun a s E _ => wpAny_Constant_bool ⟨Kp.refl s, .bool⟩
theorem EV.none {k pos} : EV Γ ρ mu (.Constant .none k pos) .none := fun a s E _ => wpAny_Constant_none ⟨Kp.refl s, .none⟩

theorem EV.name (hΓ : Γ.Ok) {x pos d} (hv : ρ x = some d) : EV Γ ρ mu (.Name x pos) d := fun a s E hs => by
  obtain ⟨m, hn, hv', _⟩ := hs.vars
  obtain ⟨v, l, r⟩ := hv' x d hv
  have hk : ∃ q, Γ.env.kindOf x = some q := by
    cases l with
    | loc h1 _ => exact ⟨_, h1⟩
    | cell h1 _ _ => exact h1.elim (fun h => ⟨_, h⟩) fun h => ⟨_, h⟩
  obtain ⟨q, hq⟩ := hk
  have ne : ∀ y : Str, Γ.env.kindOf y = Option.none → (x == y) = false := fun y hy => by
    cases e : x == y with
    | false => rfl
    | true => rw [eq_of_beq e, hy] at hq; cases hq
  refine wpAny_Name ?_ (ne _ hΓ.nodbg.1)
  cases l with
  | loc h1 h2 => exact wpAny_loadName_local hΓ.kind h1 hn h2 ⟨Kp.refl s, r⟩
  | cell h1 h2 h3 =>
    rcases h1 with h1 | h1
    · exact wpAny_loadName_cell hΓ.kind h1 h2 h3 ⟨Kp.refl s, r⟩
    · exact wpAny_loadName_free hΓ.kind h1 h2 h3 ⟨Kp.refl s, r⟩ (ne _ hΓ.nodbg.2)

noncomputable def Rest (Γ : Fx) (s s' : Shared) : Prop := ∀ b o, b ≠ Γ.env.locals → (∀ x c, Γ.env.cells.lookup x = some c → b ≠ c) → s.heap.get? b = some o → s'.heap.get? b = some o
theorem hids_hid {Γ : Fx} {mu : Mu} {a b : Addr} (h : b ∈ Γ.hid) : b ∈ Γ.hids mu a := by
  unfold Fx.hids
  cases mu with
  | none => exact h
  | some _ => exact List.mem_cons_of_mem _ h

theorem St.store_local (hΓ : Γ.Ok) {a s x v d} {E : Value → Shared → Prop} (hs : St Γ ρ mu a s) (hk : Γ.env.kindOf x = some .local) (hr : Rep (vw s.heap (Γ.hids mu a)) d v)
    (hmu : ∀ y xs, mu = some (y, xs) → y ≠ x) :
    wpAny Γ.M Γ.A (storeName Γ.env x v) (fun _ s' => St Γ (up ρ x d) mu a s' ∧ Pres (Γ.hids mu a) s (Γ.hids mu a) s' ∧ Rest Γ s s') E s := by
  obtain ⟨⟨h0, t0, e0⟩, fl, u0, pn, kp, hid, cls, m, hn, hv, hm⟩ := hs
  refine wpAny_storeName_local hk hn (fun h' hn' hsb => ?_) (by rw [hΓ.kind]; rfl)
  have ne : ∀ b, b ∉ Γ.hids mu a → b ≠ Γ.env.locals := fun b hb e => hb (hids_hid (e ▸ hΓ.hidL))
  have pr : Pres (Γ.hids mu a) s (Γ.hids mu a) { s with heap := h', toks := s.toks + 1 } := fun b o hb e => ⟨hb, (hsb.2 b (ne b hb)).trans e⟩
  have cellk : ∀ y c w, Γ.env.cells.lookup y = some c → s.heap.IsCell c w → h'.IsCell c w := fun y c w hc ⟨o, e, r⟩ => ⟨o, (hsb.2 c (hΓ.cells y c hc).2).trans e, r⟩
  have look : ∀ y w, y ≠ x → Look Γ m s.heap y w → Look Γ (fun z => if z = x then some v else m z) h' y w := fun y w hy l => by
    cases l with
    | loc h1 h2 => exact .loc h1 (by simp [hy, h2])
    | cell h1 h2 h3 => exact .cell h1 h2 (cellk _ _ _ h2 h3)
  refine ⟨⟨⟨h', _, by rw [e0]⟩, Nat.le_succ_of_le fl, Nat.le_succ_of_le u0, fun p hp => (hsb.2 _ (hΓ.pinH p hp).2.1).trans (pn p hp), fun b o e => (hsb.2 b (fun q => by rw [q, hΓ.newL] at e; cases e)).trans (kp b o e), fun b hb => ?_, fun y c hc => let ⟨u, hu⟩ := cls y c hc; ⟨u, cellk y c u hc hu⟩, _, hn', fun y dy hy => ?_, fun y ys hy => ?_⟩, pr, fun b o hb _ e => (hsb.2 b hb).trans e⟩
  · by_cases q : b = Γ.env.locals
    · subst q
      obtain ⟨o, _, _, e, _⟩ := hn'
      exact ⟨o, e⟩
    · obtain ⟨o, e⟩ := hid b hb
      exact ⟨o, (hsb.2 b q).trans e⟩
  · by_cases q : y = x
    · subst q
      simp only [up, if_true, Option.some.injEq] at hy
      subst hy
      exact ⟨v, .loc hk (by simp), hr.mono pr.le⟩
    · simp only [up, if_neg q] at hy
      obtain ⟨w, l, r⟩ := hv y dy hy
      exact ⟨w, look y w q l, r.mono pr.le⟩
  · subst hy
    obtain ⟨l, o1, n1, vs, n, e, e4⟩ := hm y ys rfl
    have yx := hmu y ys rfl
    have na : a ≠ Γ.env.locals := fun q => o1 (q ▸ hΓ.hidL)
    exact ⟨look y _ yx l, o1, n1, vs, n, (hsb.2 a na).trans e, e4.mono pr.le⟩

theorem St.store_cell (hΓ : Γ.Ok) {a s x v d c} {E : Value → Shared → Prop} (hs : St Γ ρ mu a s) (hk : Γ.env.kindOf x = some .cell) (hc : Γ.env.cells.lookup x = some c) (hnew : Γ.s₀.heap.get? c = Option.none)
    (hr : Rep (vw s.heap (Γ.hids mu a)) d v) (hmu : ∀ y xs, mu = some (y, xs) → y ≠ x) :
    wpAny Γ.M Γ.A (storeName Γ.env x v) (fun _ s' => St Γ (up ρ x d) mu a s' ∧ Pres (Γ.hids mu a) s (Γ.hids mu a) s' ∧ Rest Γ s s') E s := by
  obtain ⟨⟨h0, t0, e0⟩, fl, u0, pn, kp, hid, cls, m, hn, hv, hm⟩ := hs
  obtain ⟨u, hu⟩ := cls x c hc
  refine wpAny_storeName_cell hΓ.kind hk hc hu (fun h' hn' hsb => ?_)
  have hcc := hΓ.cells x c hc
  have ne : ∀ b, b ∉ Γ.hids mu a → b ≠ c := fun b hb e => hb (hids_hid (e ▸ hcc.1))
  have pr : Pres (Γ.hids mu a) s (Γ.hids mu a) { s with heap := h' } := fun b o hb e => ⟨hb, (hsb.2 b (ne b hb)).trans e⟩
  have look : ∀ y w, y ≠ x → Look Γ m s.heap y w → Look Γ m h' y w := fun y w hy l => by
    cases l with
    | loc h1 h2 => exact .loc h1 h2
    | cell h1 h2 h3 =>
      obtain ⟨o, e, r⟩ := h3
      exact .cell h1 h2 ⟨o, (hsb.2 _ (fun q => hy (hΓ.apart y x _ h2 (by rw [q]; exact hc)))).trans e, r⟩
  refine ⟨⟨⟨h', _, by rw [e0]⟩, fl, u0, fun p hp => (hsb.2 _ ((hΓ.pinH p hp).2.2 x c hc)).trans (pn p hp), fun b o e => (hsb.2 b (fun q => by rw [q, hnew] at e; cases e)).trans (kp b o e), fun b hb => ?_, fun y c' hc' => ?_, m, ?_, fun y dy hy => ?_, fun y ys hy => ?_⟩, pr, fun b o _ hb e => (hsb.2 b (hb x c hc)).trans e⟩
  · by_cases q : b = c
    · subst q
      obtain ⟨o, e, _⟩ := hn'
      exact ⟨o, e⟩
    · obtain ⟨o, e⟩ := hid b hb
      exact ⟨o, (hsb.2 b q).trans e⟩
  · by_cases q : c' = c
    · subst q
      exact ⟨_, hn'⟩
    · obtain ⟨u', o, e, r⟩ := cls y c' hc'
      exact ⟨u', o, (hsb.2 c' q).trans e, r⟩
  · exact hn.at' fun o e => (hsb.2 _ (Ne.symm hcc.2)).trans e
  · by_cases q : y = x
    · subst q
      simp only [up, if_true, Option.some.injEq] at hy
      subst hy
      exact ⟨v, .cell (.inl hk) hc hn', hr.mono pr.le⟩
    · simp only [up, if_neg q] at hy
      obtain ⟨w, l, r⟩ := hv y dy hy
      exact ⟨w, look y w q l, r.mono pr.le⟩
  · subst hy
    obtain ⟨l, o1, n1, vs, n, e, e4⟩ := hm y ys rfl
    have yx := hmu y ys rfl
    have na : a ≠ c := fun q => o1 (q ▸ hcc.1)
    exact ⟨look y _ yx l, o1, n1, vs, n, (hsb.2 a na).trans e, e4.mono pr.le⟩

/-- a name that may be stored: a local one, or a cell of the frame's own -/
noncomputable def Own (Γ : Fx) (x : Str) : Prop := Γ.env.kindOf x = some .local ∨ (Γ.env.kindOf x = some .cell ∧ ∃ c, Γ.env.cells.lookup x = some c ∧ Γ.s₀.heap.get? c = Option.none)

inductive Out where
  | next (ρ : Loc) (mu : Mu)
  | brk (ρ : Loc) (mu : Mu)
  | cont (ρ : Loc) (mu : Mu)
  | ret (d : PV)

noncomputable def Fin (Γ : Fx) (mu : Mu) (a : Addr) (s : Shared) : Out → Flow → Shared → Prop
  | .next ρ' mu', .next, s' => ∃ a', St Γ ρ' mu' a' s' ∧ Pres (Γ.hids mu a) s (Γ.hids mu' a') s'
  | .brk ρ' mu', .brk, s' => ∃ a', St Γ ρ' mu' a' s' ∧ Pres (Γ.hids mu a) s (Γ.hids mu' a') s'
  | .cont ρ' mu', .cont, s' => ∃ a', St Γ ρ' mu' a' s' ∧ Pres (Γ.hids mu a) s (Γ.hids mu' a') s'
  | .ret d, .ret v, s' => Kp Γ.s₀ s' ∧ Rep (vw s'.heap Γ.hid) d v
  | _, _, _ => False

/-- statements end in o -/
noncomputable def SX (Γ : Fx) (ρ : Loc) (mu : Mu) (ss : List Stmt) (o : Out) : Prop :=
  ∀ a s E, St Γ ρ mu a s → wpAny Γ.M Γ.A (execs ss Γ.env) (Fin Γ mu a s o) E s
/-- one statement -/
noncomputable def S1 (Γ : Fx) (ρ : Loc) (mu : Mu) (t : Stmt) (o : Out) : Prop :=
  ∀ a s E, St Γ ρ mu a s → wpAny Γ.M Γ.A (exec t Γ.env) (Fin Γ mu a s o) E s

theorem Fin.ret_of {Γ : Fx} {mu mu' : Mu} {a a' s s' o f s''} (h : Fin Γ mu' a' s' o f s'') (p : Pres (Γ.hids mu a) s (Γ.hids mu' a') s') : Fin Γ mu a s o f s'' := by
  unfold Fin at *
  split at h <;> first | exact h.elim | skip
  all_goals first
    | (obtain ⟨b, h1, h2⟩ := h; exact ⟨b, h1, p.trans h2⟩)
    | exact h

theorem SX.nil : SX Γ ρ mu [] (.next ρ mu) := fun a s E hs => wpAny_execs_nil ⟨a, hs, Pres.refl _ _⟩
theorem SX.cons {t ss ρ' mu' o} (h1 : S1 Γ ρ mu t (.next ρ' mu')) (h2 : SX Γ ρ' mu' ss o) : SX Γ ρ mu (t :: ss) o := fun a s E hs =>
  wpAny_execs_cons (wpAny_mono (h1 a s E hs) (fun f s' h => by
    cases f with
    | next =>
      obtain ⟨a', hs', p⟩ := h
      exact wpAny_mono (h2 a' s' E hs') (fun f s'' h' => h'.ret_of p) fun _ _ e => e
    | _ => exact h.elim) fun _ _ e => e)
/-- a statement that leaves -/
theorem SX.out {t ss o} (h1 : S1 Γ ρ mu t o) (ho : ∀ ρ' mu', o ≠ .next ρ' mu') : SX Γ ρ mu (t :: ss) o := fun a s E hs =>
  wpAny_execs_cons (wpAny_mono (h1 a s E hs) (fun f s' h => by
    cases f with
    | next => cases o <;> first | exact h.elim | exact absurd rfl (ho _ _)
    | _ => exact h) fun _ _ e => e)
theorem SX.one {t o} (h1 : S1 Γ ρ mu t o) : SX Γ ρ mu [t] o := fun a s E hs =>
  wpAny_execs_cons (wpAny_mono (h1 a s E hs) (fun f s' h => by
    cases f with
    | next => exact wpAny_execs_nil h
    | _ => exact h) fun _ _ e => e)

theorem S1.ret {e pos d} (h : EV Γ ρ none e d) : S1 Γ ρ none (.Return (some e) pos) (.ret d) := fun a s E hs =>
  wpAny_Return_some (wpAny_mono (h a s E hs) (fun v s' h' => by
    obtain ⟨k, r⟩ := h'
    refine ⟨?_, r⟩
    exact ⟨(hs.kept k).keep, (hs.kept k).same, (hs.kept k).late⟩) fun _ _ e => e)

theorem S1.ifs {t b1 b2 pos b o} (ht : ET Γ ρ mu t b) (h1 : b = true → SX Γ ρ mu b1 o) (h2 : b = false → SX Γ ρ mu b2 o) : S1 Γ ρ mu (.If t b1 b2 pos) o := fun a s E hs =>
  wpAny_If (wpAny_mono (ht a s E hs) (fun b' s' h' => by
    obtain ⟨k, rfl⟩ := h'
    have hs' := hs.kept k
    cases b' with
    | true => exact wpAny_mono (h1 rfl a s' E hs') (fun f s'' h => h.ret_of (k.pres _)) fun _ _ e => e
    | false => exact wpAny_mono (h2 rfl a s' E hs') (fun f s'' h => h.ret_of (k.pres _)) fun _ _ e => e) fun _ _ e => e)


theorem St.store' (hΓ : Γ.Ok) {a s x v d} {E : Value → Shared → Prop} (hs : St Γ ρ mu a s) (ho : Own Γ x) (hr : Rep (vw s.heap (Γ.hids mu a)) d v)
    (hmu : ∀ y xs, mu = some (y, xs) → y ≠ x) :
    wpAny Γ.M Γ.A (storeName Γ.env x v) (fun _ s' => St Γ (up ρ x d) mu a s' ∧ Pres (Γ.hids mu a) s (Γ.hids mu a) s' ∧ Rest Γ s s') E s := by
  rcases ho with h | ⟨h, c, hc, hn⟩
  · exact hs.store_local hΓ h hr hmu
  · exact hs.store_cell hΓ h hc hn hr hmu

theorem St.store (hΓ : Γ.Ok) {a s x v d} {E : Value → Shared → Prop} (hs : St Γ ρ mu a s) (ho : Own Γ x) (hr : Rep (vw s.heap (Γ.hids mu a)) d v)
    (hmu : ∀ y xs, mu = some (y, xs) → y ≠ x) :
    wpAny Γ.M Γ.A (storeName Γ.env x v) (fun _ s' => St Γ (up ρ x d) mu a s' ∧ Pres (Γ.hids mu a) s (Γ.hids mu a) s') E s :=
  wpAny_mono (hs.store' hΓ ho hr hmu) (fun _ _ h => ⟨h.1, h.2.1⟩) fun _ _ e => e

theorem S1.asg (hΓ : Γ.Ok) {x pos' value pos d} (h : EV Γ ρ mu value d) (ho : Own Γ x) (hmu : ∀ y xs, mu = some (y, xs) → y ≠ x)
    (hsw : swapsWith value (some (.Name x pos')) pos.line Γ.env = pure false) : S1 Γ ρ mu (.Assign [.Name x pos'] value pos) (.next (up ρ x d) mu) := fun a s E hs =>
  wpAny_Assign_Name (wpAny_mono (h a s E hs) (fun v s' h' => by
    obtain ⟨k, r⟩ := h'
    exact wpAny_mono ((hs.kept k).store hΓ ho r hmu) (fun _ s'' h'' => ⟨a, h''.1, (k.pres _).trans h''.2⟩) fun _ _ e => e) fun _ _ e => e) hsw

end
/-- an iterator over ds -/
structure Src (Γ : Fx) (hs : List Addr) (ds : List PV) (s : Shared) (I : Addr) (fp wr : List Addr) (P : Nat → Value → Prop) (T : Nat → Heap → Prop) : Prop where
  W : Walks Γ.prog Γ.w Γ.A I fp wr ds.length P T
  st : T 0 s.heap
  out : ∀ b, b ∈ fp → b ∉ hs
  alive : ∀ i h, T i h → ∀ b, b ∈ fp → ∃ o, h.get? b = some o
  wrd : ∀ i h, T i h → ∀ b, b ∈ wr → ∀ o, h.get? b = some o → isData o = false
  items : ∀ i v, P i v → ∃ d, ds[i]? = some d ∧ Rep (vw s.heap hs) d v

/-- an expression gives an iterable over ds -/
noncomputable def IT (Γ : Fx) (ρ : Loc) (mu : Mu) (e : Expr) (ds : List PV) : Prop :=
  ∀ a s E Q, St Γ ρ mu a s → (∀ s' I fp wr P T, Kp s s' → Src Γ (Γ.hids mu a) ds s' I fp wr P T → (∀ b, b ∈ wr → s.heap.get? b = Option.none) → Q (.ref I) s') →
    wpAny Γ.M Γ.A (eval e Γ.env) (fun xv s₁ => wpAny Γ.M Γ.A (pyIter xv) Q E s₁) E s

inductive Loop (Γ : Fx) (x : Str) (body : List Stmt) : Loc → Mu → List PV → Out → Prop
  | done {ρ mu} : Loop Γ x body ρ mu [] (.next ρ mu)
  | step {ρ mu d ds ρ' mu' o} : (∀ y xs, mu = some (y, xs) → y ≠ x) → SX Γ (up ρ x d) mu body (.next ρ' mu') → Loop Γ x body ρ' mu' ds o → Loop Γ x body ρ mu (d :: ds) o
  | cont {ρ mu d ds ρ' mu' o} : (∀ y xs, mu = some (y, xs) → y ≠ x) → SX Γ (up ρ x d) mu body (.cont ρ' mu') → Loop Γ x body ρ' mu' ds o → Loop Γ x body ρ mu (d :: ds) o
  | brk {ρ mu d ds ρ' mu'} : (∀ y xs, mu = some (y, xs) → y ≠ x) → SX Γ (up ρ x d) mu body (.brk ρ' mu') → Loop Γ x body ρ mu (d :: ds) (.next ρ' mu')
  | ret {ρ mu d ds r} : (∀ y xs, mu = some (y, xs) → y ≠ x) → SX Γ (up ρ x d) mu body (.ret r) → Loop Γ x body ρ mu (d :: ds) (.ret r)

section
variable {Γ : Fx} {ρ : Loc} {mu : Mu}
/-- the walk's own writes leave the state standing -/
theorem St.walked {a s} {wr : List Addr} {h' : Heap} {tk : Nat} (hs : St Γ ρ mu a s) (htk : s.toks ≤ tk) (hw : ∀ b, b ∈ wr → b ∉ Γ.hids mu a) (hn : ∀ b, b ∈ wr → Γ.s₀.heap.get? b = Option.none)
    (hP : ∀ p ∈ Γ.pins, p.1 ∈ Γ.hid) (hL : Γ.env.locals ∈ Γ.hid) (hC : ∀ x c, Γ.env.cells.lookup x = some c → c ∈ Γ.hid)
    (hd : ∀ b, b ∈ wr → ∀ o, s.heap.get? b = some o → isData o = false) (k : ∀ b o, b ∉ wr → s.heap.get? b = some o → h'.get? b = some o) :
    St Γ ρ mu a { s with heap := h', toks := tk } ∧ Le (vw s.heap (Γ.hids mu a)) (vw h' (Γ.hids mu a)) := by
  have hle : ∀ hs : List Addr, Le (vw s.heap hs) (vw h' hs) := fun hs b o e => by
    obtain ⟨h1, h2, h3⟩ := vw_some.mp e
    exact vw_some.mpr ⟨h1, k b o (fun hb => by rw [hd b hb o h2] at h3; cases h3) h2, h3⟩
  have hk : ∀ b, b ∈ Γ.hid → b ∉ wr := fun b hb q => hw b q (hids_hid hb)
  obtain ⟨⟨h0, t0, e0⟩, fl, u0, pn, kp, hid, cls, m, hn', hv, hm⟩ := hs
  have cellk : ∀ y c u, Γ.env.cells.lookup y = some c → s.heap.IsCell c u → h'.IsCell c u := fun y c u hc ⟨o, e, r⟩ => ⟨o, k _ _ (hk c (hC y c hc)) e, r⟩
  have look : ∀ y w, Look Γ m s.heap y w → Look Γ m h' y w := fun y w l => by
    cases l with
    | loc h1 h2 => exact .loc h1 h2
    | cell h1 h2 h3 => exact .cell h1 h2 (cellk _ _ _ h2 h3)
  refine ⟨⟨⟨h', tk, by rw [e0]⟩, Nat.le_trans fl htk, Nat.le_trans u0 htk, fun p hp => k _ _ (hk _ (hP p hp)) (pn p hp), fun b o e => k b o (fun q => by rw [hn b q] at e; cases e) (kp b o e), fun b hb => let ⟨o, e⟩ := hid b hb; ⟨o, k b o (hk b hb) e⟩,
    fun y c hc => let ⟨u, hu⟩ := cls y c hc; ⟨u, cellk y c u hc hu⟩, m, hn'.at' fun o e => k _ o (hk _ hL) e, fun y d hy => let ⟨v, l, r⟩ := hv y d hy; ⟨v, look y v l, r.mono (hle _)⟩, fun y ys hy => ?_⟩, hle _⟩
  obtain ⟨l, o1, n1, vs, n, e, e4⟩ := hm y ys hy
  subst hy
  exact ⟨look y _ l, o1, n1, vs, n, k _ _ (fun q => hw a q (List.mem_cons_self ..)) e, e4.mono (hle _)⟩

theorem S1.for_ (hΓ : Γ.Ok) {x px iter body pos ds o} (hi : IT Γ ρ mu iter ds) (ho : Own Γ x) (hl : Loop Γ x body ρ mu ds o) (hfold : ∀ v, foldedSetIterable iter Γ.env v = pure v) :
    S1 Γ ρ mu (.For (.Name x px) iter body [] pos) o := fun a s E hs => by
  refine wpAny_For (hi a s E _ hs fun s₁ I fp wr P T k₁ S hwr => ?_) hfold
  have fpw : ∀ b, b ∈ wr → b ∈ fp := S.W.sub
  refine codeAny_forLoop (fun n s' => ∃ ρ' mu' a' i, St Γ ρ' mu' a' s' ∧ Loop Γ x body ρ' mu' (ds.drop i) o ∧ i ≤ ds.length ∧ n = ds.length - i ∧ T i s'.heap ∧ Pres (Γ.hids mu a) s (Γ.hids mu' a') s' ∧
    Le (vw s₁.heap (Γ.hids mu a)) (vw s'.heap (Γ.hids mu' a')) ∧ (∀ b, b ∈ fp → b ∉ Γ.hids mu' a')) ?_ ds.length ⟨ρ, mu, a, 0, hs.kept k₁, by simpa using hl, Nat.zero_le _, by simp, S.st, k₁.pres _, Le.refl _, S.out⟩
  rintro n s' ⟨ρ', mu', a', i, hs', hl', hi', rfl, hT, hp, hle, hout⟩
  have s0n : ∀ b, b ∈ wr → Γ.s₀.heap.get? b = Option.none := fun b hb => by
    cases q : Γ.s₀.heap.get? b with
    | none => rfl
    | some o => have := hs.keep b o q; rw [hwr b hb] at this; cases this
  have wd := S.wrd i s'.heap hT
  by_cases hlt : i < ds.length
  · refine wpAny_tk (S.W.item i s' _ _ hlt hT fun v h' tk hP hT' hk htk => ?_)
    obtain ⟨hs₂, hle₂⟩ := hs'.walked (tk := tk) htk (fun b hb => hout b (fpw b hb)) s0n (fun p hp => (hΓ.pinH p hp).1) hΓ.hidL (fun x c hc => (hΓ.cells x c hc).1) wd hk
    obtain ⟨d, hd, hr⟩ := S.items i v hP
    have hdr : ds.drop i = d :: ds.drop (i + 1) := by
      rw [List.drop_eq_getElem_cons hlt]
      rw [List.getElem?_eq_getElem hlt] at hd
      rw [Option.some.inj hd]
    rw [hdr] at hl'
    have pr₂ : Pres (Γ.hids mu a) s (Γ.hids mu' a') { s' with heap := h', toks := tk } := fun b o hb e => by
      obtain ⟨h1, h2⟩ := hp b o hb e
      exact ⟨h1, hk b o (fun q => by rw [hwr b q] at e; cases e) h2⟩
    have go : (∀ y xs, mu' = some (y, xs) → y ≠ x) → ∀ {o'}, SX Γ (up ρ' x d) mu' body o' →
        (∀ f s₃, Fin Γ mu' a' { s' with heap := h', toks := tk } o' f s₃ → match f with
          | .next | .cont => ∃ m, m < ds.length - i ∧ (∃ ρ' mu' a' i, St Γ ρ' mu' a' s₃ ∧ Loop Γ x body ρ' mu' (ds.drop i) o ∧ i ≤ ds.length ∧ m = ds.length - i ∧ T i s₃.heap ∧ Pres (Γ.hids mu a) s (Γ.hids mu' a') s₃ ∧
              Le (vw s₁.heap (Γ.hids mu a)) (vw s₃.heap (Γ.hids mu' a')) ∧ (∀ b, b ∈ fp → b ∉ Γ.hids mu' a'))
          | .brk => Fin Γ mu a s o .next s₃
          | .ret v => Fin Γ mu a s o (.ret v) s₃) → 
        ∀ E', wpAny Γ.M Γ.A (assign (.Name x px) Γ.env v) (fun _ s₂ => wpAny Γ.M Γ.A (execs body Γ.env) (fun f s₃ => match f with
          | .next | .cont => ∃ m, m < ds.length - i ∧ (∃ ρ' mu' a' i, St Γ ρ' mu' a' s₃ ∧ Loop Γ x body ρ' mu' (ds.drop i) o ∧ i ≤ ds.length ∧ m = ds.length - i ∧ T i s₃.heap ∧ Pres (Γ.hids mu a) s (Γ.hids mu' a') s₃ ∧
              Le (vw s₁.heap (Γ.hids mu a)) (vw s₃.heap (Γ.hids mu' a')) ∧ (∀ b, b ∈ fp → b ∉ Γ.hids mu' a'))
          | .brk => Fin Γ mu a s o .next s₃
          | .ret v => Fin Γ mu a s o (.ret v) s₃) E' s₂) E' { s' with heap := h', toks := tk } := fun hmu o' hb hq E' =>
      wpAny_assign_Name (wpAny_mono (hs₂.store hΓ ho (hr.mono (hle.trans hle₂)) hmu) (fun _ s₃ h₃ => wpAny_mono (hb a' s₃ E' h₃.1) (fun f s₄ h₄ => hq f s₄ (h₄.ret_of h₃.2)) fun _ _ e => e) fun _ _ e => e)
    have nexts : ∀ {ρ₂ mu₂ s₃}, Loop Γ x body ρ₂ mu₂ (ds.drop (i + 1)) o → (∃ a₂, St Γ ρ₂ mu₂ a₂ s₃ ∧ Pres (Γ.hids mu' a') { s' with heap := h', toks := tk } (Γ.hids mu₂ a₂) s₃) →
        ∃ m, m < ds.length - i ∧ (∃ ρ' mu' a' i, St Γ ρ' mu' a' s₃ ∧ Loop Γ x body ρ' mu' (ds.drop i) o ∧ i ≤ ds.length ∧ m = ds.length - i ∧ T i s₃.heap ∧ Pres (Γ.hids mu a) s (Γ.hids mu' a') s₃ ∧
              Le (vw s₁.heap (Γ.hids mu a)) (vw s₃.heap (Γ.hids mu' a')) ∧ (∀ b, b ∈ fp → b ∉ Γ.hids mu' a')) := by
      rintro ρ₂ mu₂ s₃ hL ⟨a₂, hs₃, p₃⟩
      refine ⟨ds.length - (i + 1), by omega, ρ₂, mu₂, a₂, i + 1, hs₃, hL, hlt, rfl, S.W.frame _ _ _ hT' fun b hb o e => (p₃ b o (hout b hb) e).2, pr₂.trans p₃, (hle.trans hle₂).trans p₃.le, fun b hb => ?_⟩
      obtain ⟨o, e⟩ := S.alive _ _ hT' b hb
      exact (p₃ b o (hout b hb) e).1
    cases hl' with
    | step hmu hb hL => exact go hmu hb (fun f s₃ h₃ => by cases f <;> first | exact h₃.elim | exact nexts hL h₃) _
    | cont hmu hb hL => exact go hmu hb (fun f s₃ h₃ => by cases f <;> first | exact h₃.elim | exact nexts hL h₃) _
    | brk hmu hb => exact go hmu hb (fun f s₃ h₃ => by
        cases f <;> first | exact h₃.elim | skip
        obtain ⟨a₂, hs₃, p₃⟩ := h₃
        exact ⟨a₂, hs₃, pr₂.trans p₃⟩) _
    | ret hmu hb => exact go hmu hb (fun f s₃ h₃ => by cases f <;> first | exact h₃.elim | exact h₃) _
  · have hin : i = ds.length := by omega
    subst hin
    rw [List.drop_length] at hl'
    refine wpAny_tk (S.W.done s' _ _ hT fun h' tk hk htk => wpAny_execs_nil ?_)
    obtain ⟨hs₂, hle₂⟩ := hs'.walked (tk := tk) htk (fun b hb => hout b (fpw b hb)) s0n (fun p hp => (hΓ.pinH p hp).1) hΓ.hidL (fun x c hc => (hΓ.cells x c hc).1) wd hk
    cases hl' with
    | done =>
      exact ⟨a', hs₂, fun b o hb e => by
        obtain ⟨h1, h2⟩ := hp b o hb e
        exact ⟨h1, hk b o (fun q => by rw [hwr b q] at e; cases e) h2⟩⟩
end
end Mine
end -- L1
section -- L2
set_option maxRecDepth 10000
namespace Mine

/-- a name of the text's top -/
noncomputable def GL (C : Heap → Prop) (x : Str) (v : Value) : Prop := ∀ h, C h →
  (∃ mg, h.Ns mainGlobals mg ∧ mg x = some v) ∨ (∃ mg mb, h.Ns mainGlobals mg ∧ mg x = none ∧ h.Ns builtinsNs mb ∧ mb x = some v)
noncomputable def Live (hs : List Addr) (s : Shared) : Prop := ∀ b, b ∈ hs → ∃ o, s.heap.get? b = some o
theorem Live.kp {hs : List Addr} {s s' : Shared} (l : Live hs s) (k : Kp s s') : Live hs s' := fun b hb => let ⟨o, e⟩ := l b hb; ⟨o, k.get b o e⟩

/-- room around a call -/
structure Rm (A : Around) (k : Nat) : Prop where
  handled : A.handled = none
  depth : A.depth + k < recursionLimit
  units : A.units + 10 * k < cLine
  room : 5 ≤ k
theorem Fx.Ok.rm {Γ : Fx} (h : Γ.Ok) : Rm Γ.A Γ.k := ⟨h.handled, h.depth, h.units, h.room⟩

/-- a call of f upon ds gives d -/
noncomputable def CS (prog : Program) (w : World) (C : Heap → Prop) (k : Nat) (f : Value) (ds : List PV) (d : PV) : Prop :=
  ∀ A hs s vs E, Rm A k → C s.heap → Live hs s → Reps (vw s.heap hs) ds vs → wpAny (model prog w) A (call f vs []) (fun v s' => Kp s s' ∧ Rep (vw s'.heap hs) d v) E s

/-- a binary operation -/
noncomputable def B2 (prog : Program) (w : World) (op : Operator) (d1 d2 d : PV) : Prop :=
  ∀ A k hs s v1 v2 E, Rm A k → Live hs s → Rep (vw s.heap hs) d1 v1 → Rep (vw s.heap hs) d2 v2 → wpAny (model prog w) A (binaryOp op v1 v2) (fun v s' => Kp s s' ∧ Rep (vw s'.heap hs) d v) E s
noncomputable def I2 (prog : Program) (w : World) (op : Operator) (d1 d2 d : PV) : Prop :=
  ∀ A k hs s v1 v2 E, Rm A k → Live hs s → Rep (vw s.heap hs) d1 v1 → Rep (vw s.heap hs) d2 v2 → wpAny (model prog w) A (inplaceOp op v1 v2) (fun v s' => Kp s s' ∧ Rep (vw s'.heap hs) d v) E s
/-- a comparison -/
noncomputable def C2 (prog : Program) (w : World) (op : CmpOp) (d1 d2 : PV) (b : Bool) : Prop :=
  ∀ A k hs s v1 v2 E, Rm A k → Live hs s → Rep (vw s.heap hs) d1 v1 → Rep (vw s.heap hs) d2 v2 → wpAny (model prog w) A (compareOp op v1 v2) (fun v s' => Kp s s' ∧ v = .bool b) E s
/-- truth -/
noncomputable def T1 (prog : Program) (w : World) (d : PV) (b : Bool) : Prop :=
  ∀ A k hs s v E, Rm A k → Live hs s → Rep (vw s.heap hs) d v → wpAny (model prog w) A (truthy v) (fun b' s' => Kp s s' ∧ b' = b) E s

section
variable {Γ : Fx} {ρ : Loc} {mu : Mu}
theorem St.ctx (hΓ : Γ.Ok) {a s} (hs : St Γ ρ mu a s) : Γ.C s.heap := hΓ.mono _ _ hΓ.ctx hs.keep
theorem St.live {a s} (hs : St Γ ρ mu a s) : Live (Γ.hids mu a) s := fun b hb => by
  obtain ⟨m, _, _, hm⟩ := hs.vars
  cases mu with
  | none => exact hs.hid b hb
  | some p =>
    rcases List.mem_cons.mp hb with rfl | hb
    · obtain ⟨_, _, _, _, _, e, _⟩ := hm p.1 p.2 rfl
      exact ⟨_, e⟩
    · exact hs.hid b hb

theorem EV1.glob (hΓ : Γ.Ok) {x v pos} (g : GL Γ.C x v) (hk : Γ.env.kindOf x = some .globalImplicit) (hd : (x == ("__debug__" : Str)) = false := by decide) : EV1 Γ ρ mu (.Name x pos) v := fun a s E hs => by
  have go : wpAny Γ.M Γ.A (loadGlobal Γ.env x) (fun v' s' => Kp s s' ∧ v' = v) E s := by
    rcases g _ (hs.ctx hΓ) with ⟨mg, h1, h2⟩ | ⟨mg, mb, h1, h2, h3, h4⟩
    · exact Calls.loadGlobal_global (by rw [hΓ.glob]; exact h1) h2 ⟨Kp.refl s, rfl⟩
    · exact Calls.loadGlobal_builtin (by rw [hΓ.glob]; exact h1) h2 (by rw [hΓ.bns]; exact h3) h4 ⟨Kp.refl s, rfl⟩
  exact Calls.Name_function_global hΓ.kind hk go hd

theorem EV.bin (hΓ : Γ.Ok) {l r op pos d1 d2 d} (h1 : EV Γ ρ mu l d1) (h2 : EV Γ ρ mu r d2) (h : B2 Γ.prog Γ.w op d1 d2 d) :
    EV Γ ρ mu (.BinOp l op r pos) d := fun a s E hs =>
  wpAny_BinOp (wpAny_mono (h1 a s E hs) (fun v1 s1 hv1 => wpAny_mono (h2 a s1 E (hs.kept hv1.1)) (fun v2 s2 hv2 => by
    have hs2 := (hs.kept hv1.1).kept hv2.1
    exact wpAny_mono (h Γ.A Γ.k (Γ.hids mu a) s2 v1 v2 E hΓ.rm hs2.live (hv1.2.mono (hv2.1.le _)) hv2.2) (fun v s' h' => ⟨(hv1.1.trans hv2.1).trans h'.1, h'.2⟩) fun _ _ e => e) fun _ _ e => e) fun _ _ e => e)

theorem EV.cmp (hΓ : Γ.Ok) {l r op pos d1 d2 b} (h1 : EV Γ ρ mu l d1) (h2 : EV Γ ρ mu r d2) (h : C2 Γ.prog Γ.w op d1 d2 b) (hm : behindInMarks op r = false) :
    EV Γ ρ mu (.Compare l [op] [r] pos) (.bool b) := fun a s E hs =>
  wpAny_Compare1 (wpAny_mono (h1 a s E hs) (fun v1 s1 hv1 => wpAny_mono (h2 a s1 E (hs.kept hv1.1)) (fun v2 s2 hv2 => by
    have hs2 := (hs.kept hv1.1).kept hv2.1
    exact wpAny_mono (h Γ.A Γ.k (Γ.hids mu a) s2 v1 v2 E hΓ.rm hs2.live (hv1.2.mono (hv2.1.le _)) hv2.2) (fun v s' h' => ⟨(hv1.1.trans hv2.1).trans h'.1, by rw [h'.2]; exact .bool⟩) fun _ _ e => e) fun _ _ e => e) fun _ _ e => e) hm

theorem ET.cmp (hΓ : Γ.Ok) {l r op pos d1 d2 b} (h1 : EV Γ ρ mu l d1) (h2 : EV Γ ρ mu r d2) (h : C2 Γ.prog Γ.w op d1 d2 b) (hm : behindInMarks op r = false) :
    ET Γ ρ mu (.Compare l [op] [r] pos) b := fun a s E hs =>
  wpAny_isTrue_Compare1 (wpAny_mono (h1 a s E hs) (fun v1 s1 hv1 => wpAny_mono (h2 a s1 E (hs.kept hv1.1)) (fun v2 s2 hv2 => by
    have hs2 := (hs.kept hv1.1).kept hv2.1
    exact wpAny_mono (h Γ.A Γ.k (Γ.hids mu a) s2 v1 v2 E hΓ.rm hs2.live (hv1.2.mono (hv2.1.le _)) hv2.2) (fun v s' h' => by
      rw [h'.2]
      exact wpAny_truthy_bool ⟨(hv1.1.trans hv2.1).trans h'.1, rfl⟩) fun _ _ e => e) fun _ _ e => e) fun _ _ e => e) hm

theorem ET.not {x pos b} (h : ET Γ ρ mu x b) : ET Γ ρ mu (.UnaryOp .Not x pos) (!b) := fun a s E hs =>
  wpAny_isTrue_Not (wpAny_mono (h a s E hs) (fun b' s' h' => ⟨h'.1, by rw [h'.2]⟩) fun _ _ e => e)

theorem ET.val (hΓ : Γ.Ok) {e d b} (h : EV Γ ρ mu e d) (ht : T1 Γ.prog Γ.w d b) (he : isTrue e Γ.env (eval e Γ.env) = (do let v ← eval e Γ.env; standAt e.pos; holding [v] (truthy v))) : ET Γ ρ mu e b := fun a s E hs =>
  wpAny_isTrue_value (wpAny_mono (h a s E hs) (fun v s' h' => wpAny_mono (ht Γ.A Γ.k (Γ.hids mu a) s' v E hΓ.rm (hs.kept h'.1).live h'.2) (fun b' s'' h'' => ⟨h'.1.trans h''.1, h''.2⟩) fun _ _ e => e) fun _ _ e => e) he

theorem EV.ifexp {t b1 b2 pos b d} (ht : ET Γ ρ mu t b) (h1 : b = true → EV Γ ρ mu b1 d) (h2 : b = false → EV Γ ρ mu b2 d) : EV Γ ρ mu (.IfExp t b1 b2 pos) d := fun a s E hs =>
  wpAny_IfExp (wpAny_mono (ht a s E hs) (fun b' s' h' => by
    obtain ⟨k, rfl⟩ := h'
    cases b' with
    | true => exact wpAny_mono (h1 rfl a s' E (hs.kept k)) (fun v s'' h => ⟨k.trans h.1, h.2⟩) fun _ _ e => e
    | false => exact wpAny_mono (h2 rfl a s' E (hs.kept k)) (fun v s'' h => ⟨k.trans h.1, h.2⟩) fun _ _ e => e) fun _ _ e => e)

/-- and, or in a test -/
theorem ET.and2 {x y pos b c} (h1 : ET Γ ρ mu x b) (h2 : b = true → ET Γ ρ mu y c) : ET Γ ρ mu (.BoolOp .And [x, y] pos) (b && c) := fun a s E hs =>
  wpAny_isTrue_BoolOp (by
    unfold allTrue
    refine wpAny_bind (wpAny_mono (h1 a s E hs) (fun b' s' h' => ?_) fun _ _ e => e)
    obtain ⟨k, rfl⟩ := h'
    cases b' with
    | false => exact wpAny_pure ⟨k, rfl⟩
    | true =>
      unfold allTrue
      refine wpAny_bind (wpAny_mono (h2 rfl a s' E (hs.kept k)) (fun b' s'' h'' => ?_) fun _ _ e => e)
      obtain ⟨k', rfl⟩ := h''
      cases b' with
      | false => exact wpAny_pure ⟨k.trans k', rfl⟩
      | true => unfold allTrue; exact wpAny_pure ⟨k.trans k', rfl⟩)
theorem ET.or2 {x y pos b c} (h1 : ET Γ ρ mu x b) (h2 : b = false → ET Γ ρ mu y c) : ET Γ ρ mu (.BoolOp .Or [x, y] pos) (b || c) := fun a s E hs =>
  wpAny_isTrue_BoolOp (by
    unfold allTrue
    refine wpAny_bind (wpAny_mono (h1 a s E hs) (fun b' s' h' => ?_) fun _ _ e => e)
    obtain ⟨k, rfl⟩ := h'
    cases b' with
    | true => exact wpAny_pure ⟨k, rfl⟩
    | false =>
      unfold allTrue
      refine wpAny_bind (wpAny_mono (h2 rfl a s' E (hs.kept k)) (fun b' s'' h'' => ?_) fun _ _ e => e)
      obtain ⟨k', rfl⟩ := h''
      cases b' with
      | true => exact wpAny_pure ⟨k.trans k', rfl⟩
      | false => unfold allTrue; exact wpAny_pure ⟨k.trans k', rfl⟩)

/-- several expressions, none of them starred -/
noncomputable def EVs (Γ : Fx) (ρ : Loc) (mu : Mu) : List Expr → List PV → Prop
  | [], [] => True
  | e :: es, d :: ds => EV Γ ρ mu e d ∧ isStarred e = false ∧ EVs Γ ρ mu es ds
  | _, _ => False
theorem starEach_cons {e : Expr} {es : List Expr} {env : Env} (h : isStarred e = false) : starEach (e :: es) env = (false, eval e env) :: starEach es env := by
  cases e <;> first | rfl | cases h
theorem EVs.plain {pos} : ∀ {es ds}, EVs Γ ρ mu es ds → (backTo pos (starEach es Γ.env)).any (·.1) = false
  | [], [], _ => rfl
  | e :: es, d :: ds, h => by
    rw [starEach_cons h.2.1]
    have := EVs.plain (pos := pos) h.2.2
    simpa [backTo] using this
  | [], _ :: _, h => h.elim
  | _ :: _, [], h => h.elim
theorem EVs.spliced {pos} : ∀ {es ds}, EVs Γ ρ mu es ds → ∀ a s E (Q : List Value → Shared → Prop), St Γ ρ mu a s → (∀ vs s', Kp s s' → Reps (vw s'.heap (Γ.hids mu a)) ds vs → Q vs s') →
    wpAny Γ.M Γ.A (spliced (backTo pos (starEach es Γ.env))) Q E s
  | [], [], _, a, s, E, Q, hs, h => Calls.spliced_nil (h [] s (Kp.refl s) .nil)
  | e :: es, d :: ds, hh, a, s, E, Q, hs, h => by
    rw [starEach_cons hh.2.1]
    refine Calls.spliced_cons (wpAny_mono (hh.1 a s E hs) (fun v s1 h1 => ?_) fun _ _ e => e)
    exact EVs.spliced hh.2.2 a s1 E _ (hs.kept h1.1) fun vs s2 k2 r2 => h (v :: vs) s2 (h1.1.trans k2) (.cons (h1.2.mono (k2.le _)) r2)
  | [], _ :: _, h, _, _, _, _, _, _ => h.elim
  | _ :: _, [], h, _, _, _, _, _, _ => h.elim

theorem evalArgs_all {M : Model} {A : Around} {E : Value → Shared → Prop} {s : Shared} {f : Value} {l : List (Bool × Sem Value)} {Q : Args → Shared → Prop} (hp : l.any (·.1) = false)
    (h : wpAny M A (spliced l) (fun vs s' => Q ⟨vs, []⟩ s') E s) : wpAny M A (evalArgs f true l []) Q E s := by
  match l, hp with
  | [], _ =>
    intro G p hG
    have q : Q ⟨[], []⟩ s := h G p hG
    exact evalArgs_nil3 q G p hG
  | (true, x) :: r, hp => simp at hp
  | (false, x) :: r, _ => exact Calls.evalArgs_plain h

/-- what may stand before a call's bracket -/
inductive Kee (C : Heap → Prop) : Value → Prop
  | builtin {id} : Kee C (.builtin id)
  | type {T} : Kee C (.type T)
  | fn {fa} : (∀ h, C h → ∃ o fd, h.get? fa = some o ∧ o.data = .func fd) → Kee C (.ref fa)
  | kept {f} : (∀ (M : Model) h, C h → ∃ k, (k = Keeper.frame ∨ k = Keeper.machine ∨ k = Keeper.boundFrame) ∧ Looks M h (keeperOf f) k) → Kee C f
theorem callWith_any {M : Model} {A : Around} {E : Value → Shared → Prop} {s : Shared} {C : Heap → Prop} {pos : Pos} {f : Value} {first : List Value} {l : List (Bool × Sem Value)} {Q : Value → Shared → Prop} (hk : Kee C f)
    (hp : l.any (·.1) = false) (h : wpAny M A (spliced l) (fun vs s₁ => C s₁.heap ∧ wpAny M A (call f (first ++ vs) []) Q E s₁) E s) : wpAny M A (callWith pos f first l []) Q E s := by
  cases hk with
  | builtin => exact Calls.callWith_builtin hp (evalArgs_all hp (wpAny_mono h (fun _ _ h' => h'.2) fun _ _ e => e))
  | type => exact PySem.callWith_type hp (evalArgs_all hp (wpAny_mono h (fun _ _ h' => h'.2) fun _ _ e => e))
  | kept hk => exact callWith_of (P := C) (by rw [hp]; rfl) (hk M) (evalArgs_all hp h)
  | fn hf =>
    unfold callWith
    refine wpAny_bind (wpAny_holding (evalArgs_all hp (wpAny_mono h (fun vs s' h' => ?_) fun _ _ e => e)))
    obtain ⟨o, fd, e1, e2⟩ := hf _ h'.1
    have tail : ∀ {t : Sem Value}, wpAny M A t Q E s' → wpAny M A (t >>= fun r => holding [r] point >>= fun _ => pure r) Q E s' :=
      fun ht => wpAny_bind (wpAny_mono ht (fun r s₂ hr => wpAny_bind (wpAny_holding (wpAny_point (wpAny_pure hr)))) fun _ _ x => x)
    refine wpAny_bind (wpAny_standAt ?_)
    simp only [hp, List.any_nil, Bool.or_false]
    refine wpAny_bind (m := keeperOf (.ref _)) ?_
    unfold keeperOf
    refine wpAny_bind (wpAny_load e1 ?_)
    rw [e2]
    refine wpAny_pure ?_
    dsimp only
    split
    · exact tail h'.2
    · exact tail (by unfold callMarked; exact Calls.wpAny_keep h'.2)

theorem EV.call (hΓ : Γ.Ok) {f fv args ds d pos} (h1 : EV1 Γ ρ mu f fv) (hk : Kee Γ.C fv) (ha : EVs Γ ρ mu args ds) {k} (hc : CS Γ.prog Γ.w Γ.C k fv ds d) (hk' : k ≤ Γ.k) (h5 : 5 ≤ k)
    (he : eval (.Call f args [] pos) Γ.env = (do callWith pos (← eval f Γ.env) [] (backTo pos (starEach args Γ.env)) (backToKw pos (keywordEach [] Γ.env)))) : EV Γ ρ mu (.Call f args [] pos) d := fun a s E hs => by
  rw [he]
  refine wpAny_bind (wpAny_mono (h1 a s E hs) (fun v s1 h1 => ?_) fun _ _ e => e)
  obtain ⟨k1, rfl⟩ := h1
  refine callWith_any hk ha.plain (ha.spliced a s1 E _ (hs.kept k1) fun vs s2 k2 r2 => ?_)
  have hs2 := (hs.kept k1).kept k2
  exact ⟨hs2.ctx hΓ, wpAny_mono (hc Γ.A (Γ.hids mu a) s2 vs E ⟨hΓ.handled, by have := hΓ.depth; omega, by have := hΓ.units; omega, h5⟩ (hs2.ctx hΓ) hs2.live r2) (fun v s3 h3 => ⟨(k1.trans k2).trans h3.1, h3.2⟩) fun _ _ e => e⟩
end
end Mine
end -- L2
section -- L3
set_option maxRecDepth 10000
namespace Mine
section
variable {prog : Program} {w : World}

theorem B2.add_int {a b} : B2 prog w .Add (.int a) (.int b) (.int (a + b)) := fun A k hs s v1 v2 E R L h1 h2 => by
  cases h1; cases h2; exact PySem.P.add_int ⟨Kp.tok s _, .int⟩
theorem B2.sub_int {a b} : B2 prog w .Sub (.int a) (.int b) (.int (a - b)) := fun A k hs s v1 v2 E R L h1 h2 => by
  cases h1; cases h2; exact PySem.P.sub_int ⟨Kp.tok s _, .int⟩
theorem B2.mul_int {a b} (h : IntMulOk a b) : B2 prog w .Mult (.int a) (.int b) (.int (a * b)) := fun A k hs s v1 v2 E R L h1 h2 => by
  cases h1; cases h2; exact PySem.P.mul_int ⟨Kp.tok s _, .int⟩ h
theorem B2.floordiv_int {a b} (h0 : b ≠ 0) (h : b.natAbs < 1073741824) : B2 prog w .FloorDiv (.int a) (.int b) (.int (a.fdiv b)) := fun A k hs s v1 v2 E R L h1 h2 => by
  cases h1; cases h2; exact PyProof.Rows.floordiv_int h0 ⟨Kp.tok s _, .int⟩ (.inl (PyProof.noPylong_small h))
theorem B2.mod_int {a b} (h0 : b ≠ 0) : B2 prog w .Mod (.int a) (.int b) (.int (a.fmod b)) := fun A k hs s v1 v2 E R L h1 h2 => by
  cases h1; cases h2; exact PyProof.Rows.mod_int' h0 ⟨Kp.tok s _, .int⟩
theorem B2.pow_int {a n} (hn : 0 ≤ n) (hn2 : n ≤ 1000000) (ha : a.natAbs < 2 ^ 64) : B2 prog w .Pow (.int a) (.int n) (.int (a ^ n.toNat)) := fun A k hs s v1 v2 E R L h1 h2 => by
  cases h1; cases h2; exact PyProof.Rows.pow_int_small hn hn2 ha ⟨Kp.tok s _, .int⟩
theorem I2.pow_int {a n} (hn : 0 ≤ n) (hn2 : n ≤ 1000000) (ha : a.natAbs < 2 ^ 64) : I2 prog w .Pow (.int a) (.int n) (.int (a ^ n.toNat)) := fun A k hs s v1 v2 E R L h1 h2 => by
  cases h1; cases h2; exact PyProof.Rows.ipow_int_small hn hn2 ha ⟨Kp.tok s _, .int⟩
theorem I2.sub_int {a b} : I2 prog w .Sub (.int a) (.int b) (.int (a - b)) := fun A k hs s v1 v2 E R L h1 h2 => by
  cases h1; cases h2; exact PySem.P.isub_int ⟨Kp.tok s _, .int⟩
theorem B2.add_str {x y} (h : x.length + y.length ≤ sizeLine) : B2 prog w .Add (.str x) (.str y) (.str (x ++ y)) := fun A k hs s v1 v2 E R L h1 h2 => by
  cases h1; cases h2; exact wpAny_tk (PyProof.Rows.add_str (fun t tk htk => ⟨Kp.tok s _ htk, .str⟩) h)

theorem C2.eq_int {a b} : C2 prog w .Eq (.int a) (.int b) (a == b) := fun A k hs s v1 v2 E R L h1 h2 => by
  cases h1; cases h2; exact PySem.P.eq_int ⟨Kp.refl s, rfl⟩
theorem C2.ne_int {a b} : C2 prog w .NotEq (.int a) (.int b) (a != b) := fun A k hs s v1 v2 E R L h1 h2 => by
  cases h1; cases h2; exact PySem.P.ne_int ⟨Kp.refl s, rfl⟩
theorem C2.lt_int {a b} : C2 prog w .Lt (.int a) (.int b) (decide (a < b)) := fun A k hs s v1 v2 E R L h1 h2 => by
  cases h1; cases h2; exact PySem.P.lt_int ⟨Kp.refl s, rfl⟩
theorem C2.le_int {a b} : C2 prog w .LtE (.int a) (.int b) (decide (a ≤ b)) := fun A k hs s v1 v2 E R L h1 h2 => by
  cases h1; cases h2; exact PySem.P.le_int ⟨Kp.refl s, rfl⟩
theorem C2.gt_int {a b} : C2 prog w .Gt (.int a) (.int b) (decide (a > b)) := fun A k hs s v1 v2 E R L h1 h2 => by
  cases h1; cases h2; exact PySem.P.gt_int ⟨Kp.refl s, rfl⟩
theorem C2.ge_int {a b} : C2 prog w .GtE (.int a) (.int b) (decide (a ≥ b)) := fun A k hs s v1 v2 E R L h1 h2 => by
  cases h1; cases h2; exact PySem.P.ge_int ⟨Kp.refl s, rfl⟩
theorem C2.ne_str {x y} : C2 prog w .NotEq (.str x) (.str y) (x != y) := fun A k hs s v1 v2 E R L h1 h2 => by
  cases h1; cases h2; exact PyProof.Rows.ne_str ⟨Kp.refl s, rfl⟩
theorem C2.eq_str {x y} : C2 prog w .Eq (.str x) (.str y) (x == y) := fun A k hs s v1 v2 E R L h1 h2 => by
  cases h1; cases h2; exact PyProof.Rows.eq_str ⟨Kp.refl s, rfl⟩
theorem C2.isnot_bool {a b} : C2 prog w .IsNot (.bool a) (.bool b) (!(a == b)) := fun A k hs s v1 v2 E R L h1 h2 => by
  cases h1; cases h2; exact wpAny_isNot_plain rfl ⟨Kp.refl s, by cases a <;> cases b <;> rfl⟩

/-- new objects -/
theorem push_kp (s : Shared) (o : Obj) : Kp s { s with heap := s.heap.push o } := Kp.ofh fun b o' e => Heap.get?_push_of_some _ e
theorem push_vw {hs : List Addr} {s : Shared} {o : Obj} (hl : Live hs s) (hd : isData o = true) (hf : o.isFreed = false) : vw (s.heap.push o) hs s.heap.objs.size = some o :=
  vw_some.mpr ⟨fun hm => by obtain ⟨o', e⟩ := hl _ hm; exact absurd (Heap.lt_size e) (Nat.lt_irrefl _), Heap.get?_push_size _ hf, hd⟩
theorem new_list {hs : List Addr} {s : Shared} {xs : List PV} {vs : Array Value} {n : Nat} (hl : Live hs s) (hr : Reps (vw s.heap hs) xs vs.toList) :
    Rep (vw (s.heap.push { cls := .type "list", data := .seq vs n }) hs) (.list xs) (.ref s.heap.objs.size) :=
  .list (push_vw hl rfl rfl) (hr.mono ((push_kp s _).le hs))
theorem new_tup {hs : List Addr} {s : Shared} {xs : List PV} {vs : Array Value} {n : Nat} (hl : Live hs s) (hr : Reps (vw s.heap hs) xs vs.toList) :
    Rep (vw (s.heap.push { cls := .type "tuple", data := .seq vs n }) hs) (.tup xs) (.ref s.heap.objs.size) :=
  .tup (push_vw hl rfl rfl) (hr.mono ((push_kp s _).le hs))

theorem Rep.list_inv {G : View} {xs v} (h : Rep G (.list xs) v) : ∃ a vs n, v = .ref a ∧ G a = some { cls := .type "list", data := .seq vs n } ∧ Reps G xs vs.toList := by
  cases h with | list h1 h2 => exact ⟨_, _, _, rfl, h1, h2⟩
theorem Rep.tup_inv {G : View} {xs v} (h : Rep G (.tup xs) v) : ∃ a vs n, v = .ref a ∧ G a = some { cls := .type "tuple", data := .seq vs n } ∧ Reps G xs vs.toList := by
  cases h with | tup h1 h2 => exact ⟨_, _, _, rfl, h1, h2⟩

theorem B2.add_list {xs ys} (h : xs.length + ys.length ≤ sizeLine) : B2 prog w .Add (.list xs) (.list ys) (.list (xs ++ ys)) := fun A k hs s v1 v2 E R L h1 h2 => by
  obtain ⟨a, vs, n, rfl, ha, hr⟩ := h1.list_inv
  obtain ⟨b, ws, m, rfl, hb, hr'⟩ := h2.list_inv
  have e1 := hr.length
  have e2 := hr'.length
  simp only [Array.length_toList] at e1 e2
  exact PySem.P.add_list (vw_some.mp ha).2.1 (vw_some.mp hb).2.1 ⟨push_kp s _, new_list L (by simpa using hr.append hr')⟩ (by omega)
end

section
variable {Γ : Fx} {ρ : Loc} {mu : Mu}
theorem EV.list (hΓ : Γ.Ok) {es ds pos} (h : EVs Γ ρ mu es ds) (hsz : ds.length ≤ sizeLine) : EV Γ ρ mu (.List es pos) (.list ds) := fun a s E hs =>
  List_ (h.spliced a s E _ hs fun vs s' k r => by
    have hs' := hs.kept k
    have el := r.length
    exact wpAny_newObj_type ⟨k.trans (push_kp s' _), new_list hs'.live (by simpa using r)⟩ (by show vs.toArray.size ≤ sizeLine; rw [List.size_toArray]; omega))
theorem EV.tup (hΓ : Γ.Ok) {es ds k pos} (h : EVs Γ ρ mu es ds) (hsz : ds.length ≤ sizeLine) : EV Γ ρ mu (.Tuple es k pos) (.tup ds) := fun a s E hs =>
  Tuple_ (h.spliced a s E _ hs fun vs s' k r => by
    have hs' := hs.kept k
    have el := r.length
    exact wpAny_newObj_type ⟨k.trans (push_kp s' _), new_tup hs'.live (by simpa using r)⟩ (by show vs.toArray.size ≤ sizeLine; rw [List.size_toArray]; omega))

/-- d[i] -/
noncomputable def GI (prog : Program) (w : World) (d i r : PV) : Prop :=
  ∀ A k hs s v1 v2 E, Rm A k → Live hs s → Rep (vw s.heap hs) d v1 → Rep (vw s.heap hs) i v2 →
    (∃ T id, s.TypeIs v1 T ∧ typeLookup (.type T) "__getitem__" = pure (some (.builtin id))) ∧ wpAny (model prog w) A (getItem v1 v2) (fun v s' => Kp s s' ∧ Rep (vw s'.heap hs) r v) E s
theorem GI.list {prog w xs i r} (h0 : 0 ≤ i) (hi : i < 2 ^ 63) (hx : xs[i.toNat]? = some r) : GI prog w (.list xs) (.int i) r := fun A k hs s v1 v2 E R L h1 h2 => by
  obtain ⟨a, vs, n, rfl, ha, hr⟩ := h1.list_inv
  cases h2
  obtain ⟨v, hv, hrv⟩ := hr.get _ _ hx
  have hl : s.heap.IsList a vs := ⟨_, (vw_some.mp ha).2.1, rfl, n, rfl⟩
  exact ⟨⟨_, _, hl.typeIs, slot_list_getitem.lookup⟩, wpAny_getItem_list hl h0 hi (by simpa using hv) ⟨Kp.refl s, hrv⟩⟩
theorem GI.tup {prog w xs i r} (h0 : 0 ≤ i) (hi : i < 2 ^ 63) (hx : xs[i.toNat]? = some r) : GI prog w (.tup xs) (.int i) r := fun A k hs s v1 v2 E R L h1 h2 => by
  obtain ⟨a, vs, n, rfl, ha, hr⟩ := h1.tup_inv
  cases h2
  obtain ⟨v, hv, hrv⟩ := hr.get _ _ hx
  have hl : IsTup s.heap a vs := ⟨_, (vw_some.mp ha).2.1, rfl, n, rfl⟩
  have hlt : i.toNat < vs.size := by
    have := (List.getElem?_eq_some_iff.mp hv).1
    simpa using this
  exact ⟨⟨_, _, hl.typeIs, slot_tuple_getitem.lookup⟩, getItem_tuple hl (by omega) hi (j := i.toNat) (by unfold seqIndex?; simp; omega) (by simpa using hv) ⟨Kp.refl s, hrv⟩⟩

theorem EV.sub (hΓ : Γ.Ok) {e i pos d di r} (h1 : EV Γ ρ mu e d) (h2 : EV Γ ρ mu i di) (h : GI Γ.prog Γ.w d di r)
    (hs' : ∀ o v, subscripted i false o v = operate [o, v] (getItem o v)) :
    EV Γ ρ mu (.Subscript e i pos) r := fun a s E hs =>
  PyProof.Rows.Subscript_ (wpAny_mono (h1 a s E hs) (fun v1 s1 hv1 => wpAny_mono (h2 a s1 E (hs.kept hv1.1)) (fun v2 s2 hv2 => by
    have hs2 := (hs.kept hv1.1).kept hv2.1
    obtain ⟨⟨T, id, hT, hl⟩, hg⟩ := h Γ.A Γ.k (Γ.hids mu a) s2 v1 v2 E hΓ.rm hs2.live (hv1.2.mono (hv2.1.le _)) hv2.2
    exact tail_any hT hl (wpAny_mono hg (fun v s' h' => ⟨(hv1.1.trans hv2.1).trans h'.1, h'.2⟩) fun _ _ e => e) (hs' v1 v2)) fun _ _ e => e) fun _ _ e => e)
end
end Mine
end -- L3
section -- L4
set_option maxRecDepth 10000
namespace Mine
section
variable {Γ : Fx} {ρ : Loc} {mu : Mu}

theorem size_notin {hs : List Addr} {s : Shared} (hl : Live hs s) : s.heap.objs.size ∉ hs := fun hm => by
  obtain ⟨o, e⟩ := hl _ hm; exact absurd (Heap.lt_size e) (Nat.lt_irrefl _)
theorem size_none (s : Shared) : s.heap.get? s.heap.objs.size = none := by
  cases e : s.heap.get? s.heap.objs.size with
  | none => rfl
  | some o => exact absurd (Heap.lt_size e) (Nat.lt_irrefl _)
theorem kp_none {s s' : Shared} (k : Kp s s') {b} (h : s'.heap.get? b = none) : s.heap.get? b = none := by
  cases e : s.heap.get? b with
  | none => rfl
  | some o => rw [k.get b o e] at h; cases h

theorem IT.list (hΓ : Γ.Ok) {e ds} (h : EV Γ ρ mu e (.list ds)) : IT Γ ρ mu e ds := fun a s E Q hs hQ =>
  wpAny_mono (h a s E hs) (fun v s1 hv => by
    obtain ⟨k1, r1⟩ := hv
    obtain ⟨ax, vs, n, rfl, ha, hr⟩ := r1.list_inv
    obtain ⟨hn, hg, hd⟩ := vw_some.mp ha
    have hs1 := hs.kept k1
    have hl : s1.heap.IsList ax vs := ⟨_, hg, rfl, n, rfl⟩
    have hne : ax ≠ s1.heap.objs.size := Nat.ne_of_lt (Heap.lt_size hg)
    have el : vs.size = ds.length := by have := hr.length; simpa using this.symm
    refine wpAny_pyIter_list hl (hQ _ s1.heap.objs.size [s1.heap.objs.size, ax] [s1.heap.objs.size] (fun i v => vs[i]? = some v) (fun i h => h.IsListIter s1.heap.objs.size ax i ∧ h.IsList ax vs) (k1.trans (push_kp s1 _)) ?_ ?_)
    · refine ⟨el ▸ Walks.list hΓ.handled _ ax hne vs, ⟨⟨_, Heap.get?_push_size _ rfl, rfl, rfl⟩, hl.push _⟩, ?_, ?_, ?_, ?_⟩
      · intro b hb
        rcases List.mem_cons.mp hb with rfl | hb
        · exact size_notin hs1.live
        · rw [List.mem_singleton.mp hb]; exact hn
      · rintro i h ⟨⟨o, e, _⟩, ⟨o', e', _⟩⟩ b hb
        rcases List.mem_cons.mp hb with rfl | hb
        · exact ⟨o, e⟩
        · rw [List.mem_singleton.mp hb]; exact ⟨o', e'⟩
      · rintro i h ⟨⟨o, e, e2, _⟩, _⟩ b hb o' e'
        rw [List.mem_singleton.mp hb, e] at e'
        cases e'
        unfold isData; rw [e2]; decide
      · intro i v hv
        obtain ⟨d, hd, hrd⟩ := hr.get' i v (by simpa using hv)
        exact ⟨d, hd, hrd.mono ((push_kp s1 _).le _)⟩
    · intro b hb
      rw [List.mem_singleton.mp hb]
      exact kp_none k1 (size_none s1)) fun _ _ e => e

theorem IT.str (hΓ : Γ.Ok) {e x} (h : EV Γ ρ mu e (.str x)) : IT Γ ρ mu e (x.cps.toList.map fun c => .str ⟨#[c]⟩) := fun a s E Q hs hQ =>
  wpAny_mono (h a s E hs) (fun v s1 hv => by
    obtain ⟨k1, r1⟩ := hv
    cases r1
    rename_i t
    have hs1 := hs.kept k1
    have fin : ∀ (o : Obj) (T : Nat → Heap → Prop), (∀ i h, T i h → ∃ o', h.get? s1.heap.objs.size = some o' ∧ isData o' = false) → (∀ A' : Around, A'.handled = none → Walks Γ.prog Γ.w A' s1.heap.objs.size [s1.heap.objs.size] [s1.heap.objs.size] x.cps.size (SignAt x) T) →
        T 0 (s1.heap.push o) → Q (.ref s1.heap.objs.size) { s1 with heap := s1.heap.push o } := fun o T hT W h0 => by
      refine hQ _ s1.heap.objs.size [s1.heap.objs.size] [s1.heap.objs.size] (SignAt x) T (k1.trans (push_kp s1 _)) ⟨?_, h0, ?_, ?_, ?_, ?_⟩ ?_
      · have := W Γ.A hΓ.handled
        simpa using this
      · intro b hb; rw [List.mem_singleton.mp hb]; exact size_notin hs1.live
      · intro i h hi b hb; rw [List.mem_singleton.mp hb]; obtain ⟨o', e, _⟩ := hT i h hi; exact ⟨o', e⟩
      · intro i h hi b hb o' e'; rw [List.mem_singleton.mp hb] at e'; obtain ⟨o'', e, e2⟩ := hT i h hi; rw [e] at e'; cases e'; exact e2
      · rintro i v ⟨c, t', hc, rfl⟩
        exact ⟨.str ⟨#[c]⟩, by simp [hc], .str⟩
      · intro b hb; rw [List.mem_singleton.mp hb]; exact kp_none k1 (size_none s1)
    cases ha : x.cps.all (· < 128)
    · exact wpAny_pyIter_wide ha (fin _ _ (fun i h hi => by obtain ⟨o', e, e2, _⟩ := hi; exact ⟨o', e, by unfold isData; rw [e2]; decide⟩) (fun A' hA => Walks.strWide hA _ x t) ⟨_, Heap.get?_push_size _ rfl, rfl, rfl⟩)
    · exact wpAny_pyIter_ascii ha (fin _ _ (fun i h hi => by obtain ⟨o', e, e2, _⟩ := hi; exact ⟨o', e, by unfold isData; rw [e2]; decide⟩) (fun A' hA => Walks.strAscii hA _ x t) ⟨_, Heap.get?_push_size _ rfl, rfl, rfl⟩)) fun _ _ e => e

/-- the ints from a on, n of them -/
noncomputable def rng (a : Int) (n : Nat) : List PV := (List.range n).map fun (i : Nat) => .int (a + (i : Int))
theorem IT.rangeObj (hΓ : Γ.Ok) {a b : Int} {aa s s1 E Q r t u v} (hs : St Γ ρ mu aa s) (k1 : Kp s s1) (hr : IsRange s1.heap r a b 1 t u v) (hsm : Builtin.Range.small a b 1 = true)
    (hQ : ∀ s' I fp wr P T, Kp s s' → Src Γ (Γ.hids mu aa) (rng a (b - a).toNat) s' I fp wr P T → (∀ b, b ∈ wr → s.heap.get? b = Option.none) → Q (.ref I) s') : wpAny Γ.M Γ.A (pyIter (.ref r)) Q E s1 := by
  have hs1 := hs.kept k1
  have hsz : Builtin.Range.rangeSize a b 1 = ((b - a).toNat : Nat) := by
    unfold Builtin.Range.rangeSize
    simp
    omega
  refine wpAny_pyIter_range hr hsm (hQ _ s1.heap.objs.size [s1.heap.objs.size] [s1.heap.objs.size] (fun i v => i < (b - a).toNat ∧ ∃ t, v = .int (a + i * 1) t) (fun i h => IsRangeIter h s1.heap.objs.size (a + (i : Nat) * 1) (((b - a).toNat : Nat) - (i : Nat)) 1) (k1.trans (push_kp s1 _)) ⟨?_, ?_, ?_, ?_, ?_, ?_⟩ ?_)
  · have := (Walks.range (prog := Γ.prog) (w := Γ.w) hΓ.handled s1.heap.objs.size a 1 (b - a).toNat).bound
    simpa [rng] using this
  · show IsRangeIter _ _ _ _ _
    rw [hsz]; simpa using Heap.get?_push_size _ rfl
  · intro b hb; rw [List.mem_singleton.mp hb]; exact size_notin hs1.live
  · intro i h hi b hb; rw [List.mem_singleton.mp hb]; exact ⟨_, hi⟩
  · intro i h hi b hb o' e'; rw [List.mem_singleton.mp hb] at e'; rw [hi] at e'; cases e'; rfl
  · rintro i v ⟨hi, t', rfl⟩
    exact ⟨.int (a + i), by simp [rng, hi], by rw [Int.mul_one]; exact .int⟩
  · intro b hb; rw [List.mem_singleton.mp hb]; exact kp_none k1 (size_none s1)
theorem push_tok_kp (s : Shared) (o : Obj) (t : Nat) (h : s.toks ≤ t := by first | exact Nat.le_succ _ | assumption | omega) : Kp s { s with heap := s.heap.push o, toks := t } := Kp.of (fun b o' e => Heap.get?_push_of_some _ e) h

theorem IT.range1 (hΓ : Γ.Ok) {e p pos n} (hg : GL Γ.C (Str.ofString "range") (.type "range")) (hk : Γ.env.kindOf (Str.ofString "range") = some .globalImplicit) (h : EV Γ ρ mu e (.int n)) (hst : isStarred e = false)
    (h1 : -(2 ^ 62) ≤ n) (h2 : n < 2 ^ 62) : IT Γ ρ mu (.Call (.Name (Str.ofString "range") p) [e] [] pos) (rng 0 n.toNat) := fun a s E Q hs hQ =>
  Call_Name rfl (wpAny_mono (EV1.glob hΓ hg hk (by decide) a s E hs) (fun f s1 h1' => by
    obtain ⟨k1, rfl⟩ := h1'
    have hv : EVs Γ ρ mu [e] [.int n] := ⟨h, hst, trivial⟩
    refine callWith_any (C := Γ.C) .type hv.plain (hv.spliced a s1 E _ (hs.kept k1) fun vs s2 k2 r2 => ⟨((hs.kept k1).kept k2).ctx hΓ, ?_⟩)
    cases r2; rename_i r r'; cases r'; cases r
    refine call_range_1 ?_
    exact IT.rangeObj (a := 0) (b := n) hΓ hs (k1.trans (k2.trans (push_tok_kp s2 _ _))) (Heap.get?_push_size _ rfl) (PySem.small_one (by decide) (by decide) h1 h2) (by rw [Int.sub_zero]; exact hQ)) fun _ _ e => e)
theorem IT.range2 (hΓ : Γ.Ok) {e1 e2 p pos m n} (hg : GL Γ.C (Str.ofString "range") (.type "range")) (hk : Γ.env.kindOf (Str.ofString "range") = some .globalImplicit) (h : EV Γ ρ mu e1 (.int m)) (hst : isStarred e1 = false)
    (h' : EV Γ ρ mu e2 (.int n)) (hst' : isStarred e2 = false) (h1 : -(2 ^ 62) ≤ m) (h2 : m < 2 ^ 62) (h3 : -(2 ^ 62) ≤ n) (h4 : n < 2 ^ 62) :
    IT Γ ρ mu (.Call (.Name (Str.ofString "range") p) [e1, e2] [] pos) (rng m (n - m).toNat) := fun a s E Q hs hQ =>
  Call_Name rfl (wpAny_mono (EV1.glob hΓ hg hk (by decide) a s E hs) (fun f s1 h1' => by
    obtain ⟨k1, rfl⟩ := h1'
    have hv : EVs Γ ρ mu [e1, e2] [.int m, .int n] := ⟨h, hst, h', hst', trivial⟩
    refine callWith_any (C := Γ.C) .type hv.plain (hv.spliced a s1 E _ (hs.kept k1) fun vs s2 k2 r2 => ⟨((hs.kept k1).kept k2).ctx hΓ, ?_⟩)
    cases r2; rename_i r r'; cases r'; rename_i q q'; cases q'; cases r; cases q
    refine call_range_2 ?_
    exact IT.rangeObj hΓ hs (k1.trans (k2.trans (push_tok_kp s2 _ _))) (Heap.get?_push_size _ rfl) (PySem.small_one h1 h2 h3 h4) hQ) fun _ _ e => e)

/-- some more hidden addresses -/
noncomputable def Fx.more (Γ : Fx) (bs : List Addr) : Fx := { Γ with hid := bs ++ Γ.hid }
theorem Fx.Ok.more (hΓ : Γ.Ok) (bs : List Addr) : (Γ.more bs).Ok where
  kind := hΓ.kind
  handled := hΓ.handled
  depth := hΓ.depth
  units := hΓ.units
  room := hΓ.room
  nodbg := hΓ.nodbg
  glob := hΓ.glob
  bns := hΓ.bns
  ctx := hΓ.ctx
  mono := hΓ.mono
  hidL := List.mem_append_right _ hΓ.hidL
  newL := hΓ.newL
  cells := fun x c h => ⟨List.mem_append_right _ (hΓ.cells x c h).1, (hΓ.cells x c h).2⟩
  apart := hΓ.apart
  pinH := fun p hp => let ⟨a, b, c⟩ := hΓ.pinH p hp; ⟨List.mem_append_right _ a, b, c⟩
theorem Look.more {bs : List Addr} {m h x v} (l : Look Γ m h x v) : Look (Γ.more bs) m h x v := by
  cases l with
  | loc h1 h2 => exact .loc h1 h2
  | cell h1 h2 h3 => exact .cell h1 h2 h3
theorem Look.unmore {bs : List Addr} {m h x v} (l : Look (Γ.more bs) m h x v) : Look Γ m h x v := by
  cases l with
  | loc h1 h2 => exact .loc h1 h2
  | cell h1 h2 h3 => exact .cell h1 h2 h3
theorem hids_more {bs : List Addr} {a b : Addr} (h : b ∈ Γ.hids mu a) : b ∈ (Γ.more bs).hids mu a := by
  unfold Fx.hids at *
  cases mu with
  | none => exact List.mem_append_right _ h
  | some _ =>
    rcases List.mem_cons.mp h with rfl | h
    · exact List.mem_cons_self ..
    · exact List.mem_cons_of_mem _ (List.mem_append_right _ h)
theorem hids_more_inv {bs : List Addr} {a b : Addr} (h : b ∈ (Γ.more bs).hids mu a) : b ∈ bs ∨ b ∈ Γ.hids mu a := by
  unfold Fx.hids Fx.more at *
  cases mu with
  | none => exact List.mem_append.mp h
  | some _ =>
    rcases List.mem_cons.mp h with rfl | h
    · exact .inr (List.mem_cons_self ..)
    · exact (List.mem_append.mp h).imp id (List.mem_cons_of_mem _)
theorem St.more {a s s'} {bs : List Addr} (hs : St Γ ρ mu a s) (k : Kp s s') (hn : ∀ b, b ∈ bs → s.heap.get? b = Option.none) (ha : ∀ b, b ∈ bs → ∃ o, s'.heap.get? b = some o) :
    St (Γ.more bs) ρ mu a s' := by
  have hl : ∀ (hs1 hs2 : List Addr), (∀ b, b ∈ hs2 → b ∈ bs ∨ b ∈ hs1) → Le (vw s.heap hs1) (vw s'.heap hs2) := fun hs1 hs2 hh b o e => by
    obtain ⟨h1, h2, h3⟩ := vw_some.mp e
    exact vw_some.mpr ⟨fun hm => (hh b hm).elim (fun q => by rw [hn b q] at h2; cases h2) h1, k.get b o h2, h3⟩
  have hk := hs.kept k
  obtain ⟨m, hns, hv, hm⟩ := hs.vars
  refine ⟨hk.same, hk.floor, hk.late, hk.pin, hk.keep, fun b hb => ?_, hk.cls, m, hns.at' fun o e => k.get _ _ e, fun x d hx => ?_, fun x xs hx => ?_⟩
  · rcases List.mem_append.mp hb with h | h
    · exact ha b h
    · exact hk.hid b h
  · obtain ⟨v, l, r⟩ := hv x d hx
    exact ⟨v, (l.keeps k.get).more, r.mono (hl _ _ fun b hb => hids_more_inv hb)⟩
  · obtain ⟨l, o1, n1, vs, n, e, e4⟩ := hm x xs hx
    refine ⟨(l.keeps k.get).more, fun hb => (List.mem_append.mp hb).elim (fun q => by rw [hn a q] at e; cases e) o1, n1, vs, n, k.get _ _ e, e4.mono (hl _ _ fun b hb => ?_)⟩
    rcases List.mem_cons.mp hb with rfl | hb
    · exact .inr (List.mem_cons_self ..)
    · exact (List.mem_append.mp hb).imp id (List.mem_cons_of_mem _)
theorem St.unmore {a s} {bs : List Addr} (hs : St (Γ.more bs) ρ mu a s) : St Γ ρ mu a s := by
  obtain ⟨m, hns, hv, hm⟩ := hs.vars
  refine ⟨hs.same, hs.floor, hs.late, hs.pin, hs.keep, fun b hb => hs.hid b (List.mem_append_right _ hb), hs.cls, m, hns, fun x d hx => ?_, fun x xs hx => ?_⟩
  · obtain ⟨v, l, r⟩ := hv x d hx
    exact ⟨v, l.unmore, r.mono (vw_more fun b hb => hids_more hb)⟩
  · obtain ⟨l, o1, n1, vs, n, e, e4⟩ := hm x xs hx
    exact ⟨l.unmore, fun hb => o1 (List.mem_append_right _ hb), n1, vs, n, e, e4.mono (vw_more fun b hb => by
      rcases List.mem_cons.mp hb with rfl | hb
      · exact List.mem_cons_self ..
      · exact List.mem_cons_of_mem _ (List.mem_append_right _ hb))⟩
end
end Mine
end -- L4
section -- L5
set_option maxRecDepth 10000
namespace Mine
noncomputable def Fx.comp (Γ : Fx) (scope : Scope) (cl : List (Str × Addr)) (C : Addr) (bs : List Addr) (s : Shared) : Fx := { Γ with env := compEnvC scope cl C Γ.env, hid := C :: bs, s₀ := s }
noncomputable def compρ (ρ : Loc) (cl : List (Str × Addr)) (x : Str) (d : PV) : Loc := fun y => if y = x then some d else if (cl.lookup y).isSome then ρ y else none
noncomputable def EVc (Γ : Fx) (ρ : Loc) (scope : Scope) (cl : List (Str × Addr)) (x : Str) (d : PV) (e : Expr) (r : PV) : Prop :=
  ∀ C bs s, (Γ.comp scope cl C bs s).Ok → EV (Γ.comp scope cl C bs s) (compρ ρ cl x d) none e r
noncomputable def ETc (Γ : Fx) (ρ : Loc) (scope : Scope) (cl : List (Str × Addr)) (x : Str) (d : PV) (ifs : List Expr) (b : Bool) : Prop :=
  (ifs = [] ∧ b = true) ∨ ∃ c, ifs = [c] ∧ ∀ C bs s, (Γ.comp scope cl C bs s).Ok → ET (Γ.comp scope cl C bs s) (compρ ρ cl x d) none c b
inductive CL (Γ : Fx) (ρ : Loc) (scope : Scope) (cl : List (Str × Addr)) (x : Str) (ifs : List Expr) (elt : Expr) : List PV → List PV → Prop
  | nil : CL Γ ρ scope cl x ifs elt [] []
  | take {d ds r rs} : ETc Γ ρ scope cl x d ifs true → EVc Γ ρ scope cl x d elt r → CL Γ ρ scope cl x ifs elt ds rs → CL Γ ρ scope cl x ifs elt (d :: ds) (r :: rs)
  | skip {d ds rs} : ETc Γ ρ scope cl x d ifs false → CL Γ ρ scope cl x ifs elt ds rs → CL Γ ρ scope cl x ifs elt (d :: ds) rs

/-- what the comprehension's own block must be -/
structure CompOk (Γ : Fx) (scope : Scope) (cl : List (Str × Addr)) (x : Str) : Prop where
  clos : closureFor scope Γ.env = pure cl
  kind : scope.kind = .function
  names : ∀ y ∈ scope.names, y.2 = .local → scope.names.lookup y.1 = some .local
  nocell : ∀ y ∈ scope.names, y.2 ≠ .cell
  nodbg : (relabel scope Γ.env).names.lookup (Str.ofString "__debug__") = none ∧ (relabel scope Γ.env).names.lookup (Str.ofString "__classdict__") = none
  tgt : scope.names.lookup x = some .local
  sub : ∀ y c, cl.lookup y = some c → Γ.env.cells.lookup y = some c
  free : ∀ y, (cl.lookup y).isSome = true → Γ.env.kindOf y = some .cell ∧ (relabel scope Γ.env).names.lookup y = some .cell ∧ y ≠ x

section
variable {Γ : Fx} {ρ : Loc} {mu : Mu}

theorem comp_ok (hΓ : Γ.Ok) {scope cl x} (K : CompOk Γ scope cl x) {a s C bs} (hs : St Γ ρ mu a s) (hC : s.heap.get? C = none) (hb : ∀ b, b ∈ Γ.hid → b ∈ bs) : (Γ.comp scope cl C bs s).Ok where
  kind := K.kind
  handled := hΓ.handled
  depth := hΓ.depth
  units := hΓ.units
  room := hΓ.room
  nodbg := K.nodbg
  glob := hΓ.glob
  bns := hΓ.bns
  ctx := hs.ctx hΓ
  mono := hΓ.mono
  hidL := List.mem_cons_self ..
  newL := hC
  cells := fun y c h => ⟨List.mem_cons_of_mem _ (hb _ (hΓ.cells y c (K.sub y c h)).1), fun q => by
    obtain ⟨u, o, e, _⟩ := hs.cls y c (K.sub y c h)
    rw [q] at e
    have hC' : s.heap.get? C = none := hC
    rw [show (Γ.comp scope cl C bs s).env.locals = C from rfl, hC'] at e
    cases e⟩
  apart := fun y z c h h' => hΓ.apart y z c (K.sub y c h) (K.sub z c h')
  pinH := fun p hp => by
    obtain ⟨h1, h2, h3⟩ := hΓ.pinH p hp
    refine ⟨List.mem_cons_of_mem _ (hb _ h1), fun q => ?_, fun y c h => h3 y c (K.sub y c h)⟩
    have e := hs.pin p hp
    have q' : p.1 = C := q
    rw [q', hC] at e
    cases e

theorem comp_st (hΓ : Γ.Ok) {scope cl x} (K : CompOk Γ scope cl x) {a s s' C bs d v m} (hs : St Γ ρ mu a s) (k : Kp s s') (hC : s'.heap.Ns C m) (hm : m x = some v) (hCs : s.heap.get? C = none)
    (hbs : ∀ b, b ∈ bs → ∃ o, s'.heap.get? b = some o) (hbn : ∀ b, b ∈ bs → b ∈ Γ.hids mu a ∨ s.heap.get? b = none) (hr : Rep (vw s'.heap (C :: bs)) d v) : St (Γ.comp scope cl C bs s) (compρ ρ cl x d) none 0 s' where
  same := k.same
  floor := Nat.le_trans hs.floor k.tk
  late := k.tk
  pin := fun p hp => k.get _ _ (hs.pin p hp)
  keep := k.get
  hid := fun b hb => by
    rcases List.mem_cons.mp hb with rfl | hb
    · obtain ⟨o, _, _, e, _⟩ := hC; exact ⟨o, e⟩
    · exact hbs b hb
  cls := fun y c h => by
    obtain ⟨u, hu⟩ := hs.cls y c (K.sub y c h)
    exact ⟨u, isCell_keeps hu k.get⟩
  vars := by
    refine ⟨m, hC, fun y dy hy => ?_, fun _ _ h => by cases h⟩
    unfold compρ at hy
    split at hy
    · rename_i e
      subst e
      cases hy
      exact ⟨v, .loc (lookup_relabel_local K.tgt) hm, hr⟩
    · split at hy
      · rename_i hne hcl
        obtain ⟨h1, h2, h3⟩ := K.free y hcl
        obtain ⟨m', hn', hv', _⟩ := hs.vars
        obtain ⟨u, l, ru⟩ := hv' y dy hy
        obtain ⟨c, hc⟩ := Option.isSome_iff_exists.mp hcl
        refine ⟨u, ?_, ru.mono fun b o e => ?_⟩
        · cases l with
          | loc q _ => rw [h1] at q; cases q
          | cell q1 q2 q3 =>
            rw [K.sub y c hc] at q2
            cases q2
            exact .cell (.inl h2) hc (isCell_keeps q3 k.get)
        · obtain ⟨e1, e2, e3⟩ := vw_some.mp e
          refine vw_some.mpr ⟨fun hb => ?_, k.get _ _ e2, e3⟩
          rcases List.mem_cons.mp hb with rfl | hb
          · rw [hCs] at e2; cases e2
          · rcases hbn b hb with h | h
            · exact e1 h
            · rw [h] at e2; cases e2
      · cases hy

theorem comp_core (hΓ : Γ.Ok) {scope cl x px ifs elt iter pos ds rs} (K : CompOk Γ scope cl x) (hi : IT Γ ρ mu iter ds) (hc : CL Γ ρ scope cl x ifs elt ds rs) (hfold : ∀ v, foldedSetIterable iter Γ.env v = pure v) (hsz : rs.length ≤ sizeLine)
    {a s E Q use} (hs : St Γ ρ mu a s)
    (hQ : ∀ s' D C m, Kp s s' → s.heap.get? D = none → s.heap.get? C = none → D ≠ C → s'.heap.Ns C m → Rep (vw s'.heap (C :: Γ.hids mu a)) (.list rs) (.ref D) → compPost Γ.M Γ.A E use Q (.ref D) C (.ok .next) s') {p1 : Pos} :
    wpAny Γ.M Γ.A (comprehension (.ListComp elt [⟨.Name x px, iter, ifs, 0⟩] scope pos) scope Γ.env p1 (newList []) false (eval iter Γ.env) use) Q E s := by
  refine wpAny_comprehension_free (use := use) rfl hfold K.clos K.kind K.names (hi a s E _ hs fun s2 I fp wr P T k2 S hwr => ?_)
  refine wpAny_newObj_type (wpAny_newFunctionEnv K.nocell (by intro y hy; simp at hy) (fun h₁ hns₁ hsb₁ => ?_) K.kind)
  dsimp only at hns₁ hsb₁ ⊢
  generalize hH2 : s2.heap.push { cls := .type "list", dict := none, data := .seq ([] : List Value).toArray } = H2 at hns₁ hsb₁ ⊢
  have hCs : H2.objs.size = s2.heap.objs.size + 1 := by rw [← hH2, Heap.size_push]
  generalize hD : s2.heap.objs.size = D at *
  generalize hC : H2.objs.size = C at *
  have hDC : D ≠ C := by omega
  have sD : s2.heap.get? D = none := by rw [← hD]; exact size_none s2
  have sC : s2.heap.get? C = none := by
    cases e : s2.heap.get? C with
    | none => rfl
    | some o => have h9 : C < D := hD ▸ Heap.lt_size e; omega
  have old : ∀ b o, s2.heap.get? b = some o → h₁.get? b = some o := fun b o e => hsb₁.extBut b o (fun q => by rw [q, sC] at e; cases e) (Heap.get?_push_of_some _ (hH2 ▸ Heap.get?_push_of_some _ e))
  have hDl : h₁.PlainList D #[] := ⟨0, hsb₁.extBut _ _ hDC (Heap.get?_push_of_some _ (by rw [← hH2, ← hD]; exact Heap.get?_push_size _ rfl))⟩
  have hT0 : T 0 h₁ := S.W.frame _ _ _ S.st fun b _ o e => old b o e
  have fpa : ∀ b, b ∈ fp → ∃ o, s2.heap.get? b = some o := S.alive 0 _ S.st
  have hDf : D ∉ fp := fun h => by obtain ⟨o, e⟩ := fpa D h; rw [sD] at e; cases e
  have hCf : C ∉ fp := fun h => by obtain ⟨o, e⟩ := fpa C h; rw [sC] at e; cases e
  have hs2 := hs.kept k2
  -- the loop
  let Inv : Nat → Shared → Prop := fun n s' => ∃ i ws m' rs', ∃ done : List PV, i ≤ ds.length ∧ n = ds.length - i ∧ (∃ h' tk, s' = { s2 with heap := h', toks := tk } ∧ s2.toks ≤ tk) ∧ T i s'.heap ∧ s'.heap.PlainList D ws ∧ s'.heap.Ns C m' ∧
    Reps (vw s'.heap (C :: D :: Γ.hids mu a)) done ws.toList ∧ done ++ rs' = rs ∧ CL Γ ρ scope cl x ifs elt (ds.drop i) rs' ∧
    (∀ b o, b ∉ wr → b ≠ C → b ≠ D → s2.heap.get? b = some o → s'.heap.get? b = some o)
  have kp : ∀ {s' : Shared}, (∃ h' tk, s' = { s2 with heap := h', toks := tk } ∧ s2.toks ≤ tk) → (∀ b o, b ∉ wr → b ≠ C → b ≠ D → s2.heap.get? b = some o → s'.heap.get? b = some o) → Kp s s' := by
    rintro s' ⟨h', tk, rfl, htk⟩ hk
    obtain ⟨h0, t0, e0⟩ := k2.same
    refine ⟨fun b o e => hk b o (fun q => by rw [hwr b q] at e; cases e) (fun q => ?_) (fun q => ?_) (k2.get b o e), ⟨h', tk, by rw [e0]⟩, Nat.le_trans k2.tk htk⟩
    · have := k2.get b o e; rw [q, sC] at this; cases this
    · have := k2.get b o e; rw [q, sD] at this; cases this
  have loop : ∀ s3 : Shared, (∃ tk, s3 = { s2 with heap := h₁, toks := tk } ∧ s2.toks ≤ tk) →
      codeAny Γ.M Γ.A (.compLoop (.ListComp elt [⟨.Name x px, iter, ifs, 0⟩] scope pos) 0 (.ref I) (.ref D) (compEnvC scope cl C Γ.env)) (compPost Γ.M Γ.A E use Q (.ref D) C) s3 := by
    rintro s3 ⟨tk3, rfl, htk3⟩
    refine codeAny_compLoop_tests Inv ?_ ds.length ⟨0, #[], _, rs, [], Nat.zero_le _, by simp, ⟨h₁, tk3, rfl, htk3⟩, hT0, hDl, hns₁, .nil, rfl, by simpa using hc, fun b o _ _ _ e => old b o e⟩
    rintro n s' ⟨i, ws, m', rs', done, hi', rfl, same, hT, hDl', hns', hrep, happ, hcl, hk⟩
    have hks := kp same hk
    by_cases hlt : i < ds.length
    · refine wpAny_tk (S.W.item i s' _ _ hlt hT fun v h2 tk2 hP hT2 hk2 htk2 => ?_)
      obtain ⟨d, hd, hrd⟩ := S.items i v hP
      have hdr : ds.drop i = d :: ds.drop (i + 1) := by
        rw [List.drop_eq_getElem_cons hlt]
        rw [List.getElem?_eq_getElem hlt] at hd
        rw [Option.some.inj hd]
      rw [hdr] at hcl
      have wrC : C ∉ wr := fun q => hCf (S.W.sub _ q)
      have wrD : D ∉ wr := fun q => hDf (S.W.sub _ q)
      refine wpAny_assign_Name (wpAny_storeName_local (env := compEnvC scope cl C Γ.env) (lookup_relabel_local K.tgt) (hns'.at' fun o e => hk2 _ o wrC e) (fun h3 hn3 hs3 => ?_) (by simp [compEnvC, relabel, K.kind]))
      -- state behind the item and the store
      have up3 : ∀ b o, b ∉ wr → b ≠ C → s'.heap.get? b = some o → h3.get? b = some o := fun b o hb hbC e => hs3.extBut b o hbC (hk2 b o hb e)
      have same3 : ∃ h' tk, ({ s' with heap := h3, toks := tk2 + 1 } : Shared) = { s2 with heap := h', toks := tk } ∧ s2.toks ≤ tk := by
        obtain ⟨h', tk, e, hle⟩ := same
        have htk2' : s'.toks ≤ tk2 := htk2
        rw [e] at htk2'
        exact ⟨h3, tk2 + 1, by rw [e], Nat.le_succ_of_le (Nat.le_trans hle htk2')⟩
      have hk3 : ∀ b o, b ∉ wr → b ≠ C → b ≠ D → s2.heap.get? b = some o → h3.get? b = some o := fun b o h1 h2 h3' e => up3 b o h1 h2 (hk b o h1 h2 h3' e)
      have ks3 : Kp s { s' with heap := h3, toks := tk2 + 1 } := kp same3 hk3
      have wd := S.wrd i s'.heap hT
      have vw3 : Le (vw s'.heap (C :: D :: Γ.hids mu a)) (vw h3 (C :: D :: Γ.hids mu a)) := fun b o e => by
        obtain ⟨e1, e2, e3⟩ := vw_some.mp e
        refine vw_some.mpr ⟨e1, up3 b o (fun q => by rw [wd b q o e2] at e3; cases e3) (fun q => e1 (q ▸ List.mem_cons_self ..)) e2, e3⟩
      have vwd : Le (vw s2.heap (Γ.hids mu a)) (vw h3 (C :: D :: Γ.hids mu a)) := fun b o e => by
        obtain ⟨e1, e2, e3⟩ := vw_some.mp e
        have bw : b ∉ wr := fun q => by rw [S.wrd 0 _ S.st b q o e2] at e3; cases e3
        have bC : b ≠ C := fun q => by rw [q, sC] at e2; cases e2
        have bD : b ≠ D := fun q => by rw [q, sD] at e2; cases e2
        refine vw_some.mpr ⟨fun q => ?_, hk3 b o bw bC bD e2, e3⟩
        rcases List.mem_cons.mp q with q | q
        · exact bC q
        · rcases List.mem_cons.mp q with q | q
          · exact bD q
          · exact e1 q
      have hD3 : h3.PlainList D ws := (hDl'.at fun o e => hk2 D o wrD e).extBut hs3.extBut hDC
      have hbs : ∀ b, b ∈ D :: Γ.hids mu a → ∃ o, h3.get? b = some o := fun b hb => by
        rcases List.mem_cons.mp hb with rfl | hb
        · obtain ⟨n, e⟩ := hD3; exact ⟨_, e⟩
        · exact (hs.kept ks3).live b hb
      have sCn : s.heap.get? C = none := kp_none k2 sC
      have sDn : s.heap.get? D = none := kp_none k2 sD
      have hbn : ∀ b, b ∈ D :: Γ.hids mu a → b ∈ Γ.hids mu a ∨ s.heap.get? b = none := fun b hb => by
        rcases List.mem_cons.mp hb with rfl | hb
        · exact .inr sDn
        · exact .inl hb
      have st3 : St (Γ.comp scope cl C (D :: Γ.hids mu a) s) (compρ ρ cl x d) none 0 { s' with heap := h3, toks := tk2 + 1 } := comp_st hΓ K hs ks3 hn3 (by simp) sCn hbs hbn (hrd.mono vwd)
      have ok3 : (Γ.comp scope cl C (D :: Γ.hids mu a) s).Ok := comp_ok hΓ K hs sCn fun b hb => List.mem_cons_of_mem _ (hids_hid hb)
      have hT3 : T (i + 1) h3 := S.W.frame _ _ _ hT2 fun b hb o e => hs3.extBut b o (fun (q : b = C) => hCf (q ▸ hb)) e
      -- the tests
      have tests : ∀ {b} E', ETc Γ ρ scope cl x d ifs b → wpAny Γ.M Γ.A (forIn ifs true fun c r => if r = true then do let ok ← isTrue c (compEnvC scope cl C Γ.env) (eval c (compEnvC scope cl C Γ.env)); pure (ForInStep.yield ok) else pure (ForInStep.yield r))
          (fun ok s4 => Kp { s' with heap := h3, toks := tk2 + 1 } s4 ∧ ok = b) E' { s' with heap := h3, toks := tk2 + 1 } := fun E' ht => by
        rcases ht with ⟨rfl, rfl⟩ | ⟨c, rfl, ht⟩
        · exact wpAny_tests_nil ⟨Kp.refl _, rfl⟩
        · exact wpAny_tests_one (ht C _ s ok3 0 _ _ st3)
      have join4 : ∀ {s4 : Shared}, Kp { s' with heap := h3, toks := tk2 + 1 } s4 → ∃ h' tk, s4 = { s2 with heap := h', toks := tk } ∧ s2.toks ≤ tk := fun {s4} k4 => by
        obtain ⟨h', tk, e⟩ := k4.same
        obtain ⟨h'', tk', e', hle⟩ := same3
        have ht := k4.tk
        simp only [Shared.mk.injEq] at e'
        refine ⟨h', tk, ?_, ?_⟩
        · rw [e]
          simp only [Shared.mk.injEq]
          exact ⟨trivial, e'.2.1, e'.2.2.1, trivial, e'.2.2.2.2⟩
        · rw [e] at ht
          exact Nat.le_trans hle (e'.2.2.2.1 ▸ ht)
      have after : ∀ {s4 : Shared}, Kp { s' with heap := h3, toks := tk2 + 1 } s4 → ∀ {rs''}, done ++ rs'' = rs → CL Γ ρ scope cl x ifs elt (ds.drop (i + 1)) rs'' → ∃ m, m < ds.length - i ∧ Inv m s4 := fun {s4} k4 {rs''} ha hcl' =>
        ⟨ds.length - (i + 1), by omega, i + 1, ws, _, rs'', done, hlt, rfl, join4 k4,
          S.W.frame _ _ _ hT3 fun b _ o e => k4.get b o e, hD3.at fun o e => k4.get D o e, hn3.at' fun o e => k4.get _ o e, (hrep.mono vw3).mono (k4.le _), ha, hcl', fun b o h1 h2 h3' e => k4.get b o (hk3 b o h1 h2 h3' e)⟩
      cases hcl with
      | skip ht hcl' =>
        refine wpAny_mono (tests _ ht) (fun ok s4 h4 => ?_) fun _ _ e => e
        obtain ⟨k4, rfl⟩ := h4
        simp only [Bool.false_eq_true, if_false]
        exact after k4 happ hcl'
      | @take _ _ r rs'' ht he hcl' =>
        refine wpAny_mono (tests _ ht) (fun ok s4 h4 => ?_) fun _ _ e => e
        obtain ⟨k4, rfl⟩ := h4
        simp only [if_true]
        refine wpAny_mono (he C _ s ok3 0 _ _ (st3.kept k4)) (fun y s5 h5 => ?_) fun _ _ e => e
        obtain ⟨k5, r5⟩ := h5
        have hwz : ws.size ≤ sizeLine := by
          have e1 := hrep.length
          have e2 : done.length ≤ rs.length := by rw [← happ, List.length_append]; omega
          simp only [Array.length_toList] at e1
          omega
        refine wpAny_list_append_plain (hsz := hwz) ((hD3.at fun o e => k4.get D o e).at fun o e => k5.get D o e) fun h6 hl6 hs6 => ?_
        have v6 : Le (vw s5.heap (C :: D :: Γ.hids mu a)) (vw h6 (C :: D :: Γ.hids mu a)) := fun b o e => by
          obtain ⟨e1, e2, e3⟩ := vw_some.mp e
          exact vw_some.mpr ⟨e1, hs6.extBut b o (fun q => e1 (q ▸ List.mem_cons_of_mem _ (List.mem_cons_self ..))) e2, e3⟩
        refine ⟨ds.length - (i + 1), by omega, i + 1, ws.push y, (fun z => if z = x then some v else m' z), rs'', done ++ [r], hlt, rfl, ?_, ?_, hl6, ?_, ?_, by simpa using happ, hcl', fun b o h1 h2 h3' e => hs6.extBut b o h3' (k5.get b o (k4.get b o (hk3 b o h1 h2 h3' e)))⟩
        · obtain ⟨h', tk, e, hle⟩ := join4 (k4.trans k5)
          exact ⟨h6, tk, by rw [e], hle⟩
        · exact S.W.frame _ _ _ (S.W.frame _ _ _ hT3 fun b _ o e => k4.get b o e) fun b hb o e => hs6.extBut b o (fun q => hDf (q ▸ hb)) (k5.get b o e)
        · exact ((hn3.at' fun o e => k4.get _ o e).at' fun o e => k5.get _ o e).at' fun o e => hs6.extBut _ o hDC.symm e
        · have r4 := ((hrep.mono vw3).mono (k4.le _)).mono (k5.le _)
          have : Reps (vw h6 (C :: D :: Γ.hids mu a)) (done ++ [r]) (ws.toList ++ [y]) := (r4.mono v6).append (.cons (r5.mono v6) .nil)
          simpa using this
    · have hin : i = ds.length := by omega
      subst hin
      rw [List.drop_length] at hcl
      cases hcl
      rw [List.append_nil] at happ
      subst happ
      refine wpAny_tk (S.W.done s' _ _ hT fun h' tk hk2 htk2 => ?_)
      have wrC : C ∉ wr := fun q => hCf (S.W.sub _ q)
      have wrD : D ∉ wr := fun q => hDf (S.W.sub _ q)
      have wd := S.wrd ds.length s'.heap hT
      have same' : ∃ h'' tk', ({ s' with heap := h', toks := tk } : Shared) = { s2 with heap := h'', toks := tk' } ∧ s2.toks ≤ tk' := by
        obtain ⟨h'', tk'', e, hle⟩ := same
        have htk2' : s'.toks ≤ tk := htk2
        rw [e] at htk2'
        exact ⟨h', tk, by rw [e], Nat.le_trans hle htk2'⟩
      have ks' : Kp s { s' with heap := h', toks := tk } := kp same' fun b o h1 h2 h3 e => hk2 b o h1 (hk b o h1 h2 h3 e)
      refine hQ _ D C m' ks' (kp_none k2 sD) (kp_none k2 sC) hDC (hns'.at' fun o e => hk2 _ o wrC e) ?_
      obtain ⟨nD, eD⟩ := hDl'.at fun o e => hk2 D o wrD e
      refine .list (vw_some.mpr ⟨fun hm => ?_, eD, rfl⟩) (hrep.mono fun b o e => ?_)
      · rcases List.mem_cons.mp hm with q | q
        · exact hDC q
        · have := (hs.kept k2).live D q
          rw [sD] at this
          obtain ⟨o, e⟩ := this
          cases e
      · obtain ⟨e1, e2, e3⟩ := vw_some.mp e
        exact vw_some.mpr ⟨fun hm => e1 ((List.mem_cons.mp hm).elim (fun q => q ▸ List.mem_cons_self ..) fun q => List.mem_cons_of_mem _ (List.mem_cons_of_mem _ q)), hk2 b o (fun q => by rw [wd b q o e2] at e3; cases e3) e2, e3⟩
  exact codeAny_compStart_list (loop _ ⟨_, rfl, Nat.le_refl _⟩) (S.W.self 0 _ _ _ hT0 (loop _ ⟨_, rfl, Nat.le_refl _⟩))

theorem EV.comp (hΓ : Γ.Ok) {scope cl x px ifs elt iter pos ds rs} (K : CompOk Γ scope cl x) (hi : IT Γ ρ mu iter ds) (hc : CL Γ ρ scope cl x ifs elt ds rs) (hfold : ∀ v, foldedSetIterable iter Γ.env v = pure v) (hsz : rs.length ≤ sizeLine) :
    EV Γ ρ mu (.ListComp elt [⟨.Name x px, iter, ifs, 0⟩] scope pos) (.list rs) := fun a s E hs => by
  rw [eval_ListComp]
  refine comp_core hΓ K hi hc hfold hsz (use := Option.none) hs fun s' D C m k hD hC hDC hn hr => ⟨m, hn, fun h' hsb => ?_⟩
  have hk : ∀ b o, b ≠ C → s'.heap.get? b = some o → h'.get? b = some o := fun b o hb e => (hsb.2 b hb).trans e
  refine ⟨⟨fun b o e => hk b o (fun q => by rw [q, hC] at e; cases e) (k.get b o e), let ⟨_, ⟨_, t, e⟩, _⟩ := k; ⟨h', t, by rw [e]⟩, k.tk⟩, hr.mono fun b o e => ?_⟩
  obtain ⟨e1, e2, e3⟩ := vw_some.mp e
  exact vw_some.mpr ⟨fun q => e1 (List.mem_cons_of_mem _ q), hk b o (fun q => e1 (q ▸ List.mem_cons_self ..)) e2, e3⟩

theorem St.drop {C a s h'} (st : St (Γ.more [C]) ρ mu a s) (hsb : Heap.SameBut C s.heap h') (hL : C ≠ Γ.env.locals) (hc : ∀ x c, Γ.env.cells.lookup x = some c → C ≠ c) (h0 : Γ.s₀.heap.get? C = Option.none) (hCh : C ∉ Γ.hid) (hpin : ∀ p ∈ Γ.pins, p.1 ≠ C) :
    St Γ ρ mu a { s with heap := h' } := by
  obtain ⟨m, hns, hv, hm⟩ := st.vars
  have hk : ∀ b o, b ≠ C → s.heap.get? b = some o → h'.get? b = some o := fun b o hb e => (hsb.2 b hb).trans e
  have hl : ∀ (hs1 hs2 : List Addr), (∀ b, b ∈ hs2 → b ∈ hs1) → C ∈ hs1 → Le (vw s.heap hs1) (vw h' hs2) := fun hs1 hs2 hh hC b o e => by
    obtain ⟨h1, h2, h3⟩ := vw_some.mp e
    exact vw_some.mpr ⟨fun hb => h1 (hh b hb), hk b o (fun q => h1 (q ▸ hC)) h2, h3⟩
  have look : ∀ y w, Look (Γ.more [C]) m s.heap y w → Look Γ m h' y w := fun y w l => by
    cases l with
    | loc h1 h2 => exact .loc h1 h2
    | cell h1 h2 h3 => obtain ⟨o, e, r⟩ := h3; exact .cell h1 h2 ⟨o, hk _ _ (fun q => hc y _ h2 q.symm) e, r⟩
  have cm : C ∈ (Γ.more [C]).hid := List.mem_append_left _ (List.mem_cons_self ..)
  have same' : ∃ h t, ({ s with heap := h' } : Shared) = { Γ.s₀ with heap := h, toks := t } := by
    obtain ⟨h, t, e⟩ := st.same
    exact ⟨h', t, by rw [e]; rfl⟩
  · refine ⟨same', st.floor, st.late, fun p hp => hk _ _ (hpin p hp) (st.pin p hp), fun b o e => hk b o (fun q => by rw [q, h0] at e; cases e) (st.keep b o e), fun b hb => ?_, fun y c hyc => ?_, m, hns.at' fun o e => hk _ o hL.symm e, fun y d hy => ?_, fun y ys hy => ?_⟩
    · obtain ⟨o, e⟩ := st.hid b (List.mem_append_right _ hb)
      exact ⟨o, hk b o (fun q => hCh (q ▸ hb)) e⟩
    · obtain ⟨u, o, e, r⟩ := st.cls y c hyc
      exact ⟨u, o, hk _ _ (fun q => hc y c hyc q.symm) e, r⟩
    · obtain ⟨v, l, r⟩ := hv y d hy
      exact ⟨v, look y v l, r.mono (hl _ _ (fun b hb => hids_more hb) (hids_hid cm))⟩
    · obtain ⟨l, o1, n1, vs, n, e, e4⟩ := hm y ys hy
      refine ⟨look y _ l, fun hb => o1 (List.mem_append_right _ hb), n1, vs, n, hk _ _ (fun q => o1 (q ▸ cm)) e, e4.mono (hl _ _ (fun b hb => ?_) (List.mem_cons_of_mem _ cm))⟩
      rcases List.mem_cons.mp hb with rfl | hb
      · exact List.mem_cons_self ..
      · exact List.mem_cons_of_mem _ (List.mem_append_right _ hb)

/-- a comprehension bound to a local name: the stores are exchanged -/
theorem S1.asgc (hΓ : Γ.Ok) {scope cl x px ifs elt iter pos ds rs y py spos} (K : CompOk Γ scope cl x) (hi : IT Γ ρ mu iter ds) (hc : CL Γ ρ scope cl x ifs elt ds rs) (hfold : ∀ v, foldedSetIterable iter Γ.env v = pure v) (hsz : rs.length ≤ sizeLine)
    (ho : Own Γ y) (hmu : ∀ z xs, mu = some (z, xs) → z ≠ y)
    (hsw : swapsWith (.ListComp elt [⟨.Name x px, iter, ifs, 0⟩] scope pos) (some (.Name y py)) spos.line Γ.env = pure true) :
    S1 Γ ρ mu (.Assign [.Name y py] (.ListComp elt [⟨.Name x px, iter, ifs, 0⟩] scope pos) spos) (.next (up ρ y (.list rs)) mu) := fun a s E hs => by
  rw [exec_Assign_Name_used _ _ _ _ hsw]
  refine wpAny_bind (wpAny_standAt (wpAny_bind ?_))
  show wpAny _ Γ.A (do let _ ← comprehension (.ListComp elt [⟨.Name x px, iter, ifs, 0⟩] scope pos) scope Γ.env _ (newList []) false (eval iter Γ.env) (some (assign (.Name y py) Γ.env))) _ _ s
  refine wpAny_bind (comp_core hΓ K hi hc hfold hsz (use := some (assign (.Name y py) Γ.env)) hs fun s' D C m k hD hC hDC hn hr => ?_)
  show wpAny Γ.M Γ.A (assign (.Name y py) Γ.env (.ref D)) _ E s'
  have hCa : ∃ o, s'.heap.get? C = some o := by obtain ⟨o, _, _, e, _⟩ := hn; exact ⟨o, e⟩
  have st : St (Γ.more [C]) ρ mu a s' := hs.more k (fun b hb => by rw [List.mem_singleton.mp hb]; exact hC) (fun b hb => by rw [List.mem_singleton.mp hb]; exact hCa)
  have hvw : Le (vw s'.heap (C :: Γ.hids mu a)) (vw s'.heap ((Γ.more [C]).hids mu a)) := vw_more fun b hb => by
    rcases hids_more_inv hb with h | h
    · rw [List.mem_singleton.mp h]; exact List.mem_cons_self ..
    · exact List.mem_cons_of_mem _ h
  have ho' : Own (Γ.more [C]) y := ho
  have hCh : C ∈ (Γ.more [C]).hids mu a := hids_hid (List.mem_append_left _ (List.mem_cons_self ..))
  have hCL : C ≠ Γ.env.locals := fun q => by
    obtain ⟨o, e⟩ := hs.hid _ hΓ.hidL
    rw [← q, hC] at e; cases e
  have sC : Γ.s₀.heap.get? C = Option.none := by
    cases e : Γ.s₀.heap.get? C with
    | none => rfl
    | some o => have := hs.keep C o e; rw [hC] at this; cases this
  have hCc : ∀ x c, Γ.env.cells.lookup x = some c → C ≠ c := fun x c hc q => by
    obtain ⟨u, o, e, _⟩ := hs.cls x c hc
    rw [← q, hC] at e; cases e
  refine wpAny_assign_Name (wpAny_mono (st.store' (hΓ.more [C]) ho' (hr.mono hvw) hmu) (fun _ s'' h'' => ?_) fun _ _ e => e)
  obtain ⟨st', pr, rest⟩ := h''
  refine ⟨m, hn.at' fun o e => rest C o hCL hCc e, fun h3 hsb => wpAny_pure (wpAny_pure ⟨a, st'.drop hsb hCL hCc sC (fun q => by obtain ⟨o, e⟩ := hs.hid _ q; rw [hC] at e; cases e) (fun p hp q => by have e := hs.pin p hp; rw [q, hC] at e; cases e), fun b o hb e => ?_⟩)⟩
  exact ⟨hb, (hsb.2 b (fun q => by rw [q, hC] at e; cases e)).trans (pr b o (fun q => (hids_more_inv q).elim (fun h => by rw [List.mem_singleton.mp h, hC] at e; cases e) hb) (k.get b o e)).2⟩
end
end Mine
end -- L5
section -- L6
set_option maxRecDepth 10000
namespace Mine

theorem cellsFrom_acc : ∀ (names : List (Str × NameKind)) (n : Nat) (acc : List (Str × Addr)) (x : Str), (acc.lookup x).isSome = true → ((cellsFrom n names acc).lookup x).isSome = true
  | [], _, _, _, h => h
  | (name, kind) :: r, n, acc, x, h => by
    unfold cellsFrom
    split
    · refine cellsFrom_acc r _ _ _ ?_
      rw [List.lookup_cons]
      split <;> first | rfl | exact h
    · exact cellsFrom_acc r _ _ _ h
theorem cellsFrom_has : ∀ (names : List (Str × NameKind)) (n : Nat) (acc : List (Str × Addr)) (x : Str), names.lookup x = some .cell → ((cellsFrom n names acc).lookup x).isSome = true
  | [], _, _, _, h => by cases h
  | (name, kind) :: r, n, acc, x, h => by
    unfold cellsFrom
    rw [List.lookup_cons] at h
    split at h
    · rename_i e
      cases h
      rw [if_pos (by decide)]
      refine cellsFrom_acc r _ _ _ ?_
      rw [List.lookup_cons, e]; rfl
    · split
      · exact cellsFrom_has r _ _ _ h
      · exact cellsFrom_has r _ _ _ h
theorem cellsFrom_mem : ∀ (names : List (Str × NameKind)) (n : Nat) (acc : List (Str × Addr)) (p : Str × Addr), p ∈ cellsFrom n names acc → p ∈ acc ∨ n ≤ p.2
  | [], _, _, _, h => .inl h
  | (name, kind) :: r, n, acc, p, h => by
    unfold cellsFrom at h
    split at h
    · rcases cellsFrom_mem r _ _ _ h with h | h
      · rcases List.mem_cons.mp h with rfl | h
        · exact .inr (Nat.le_refl _)
        · exact .inl h
      · exact .inr (by omega)
    · exact cellsFrom_mem r _ _ _ h
theorem lookup_mem {α : Type} : ∀ {l : List (Str × α)} {x : Str} {c : α}, l.lookup x = some c → (x, c) ∈ l
  | [], _, _, h => by cases h
  | (y, d) :: r, x, c, h => by
    rw [List.lookup_cons] at h
    split at h
    · rename_i e
      cases h
      rw [eq_of_beq e]
      exact List.mem_cons_self ..
    · exact List.mem_cons_of_mem _ (lookup_mem h)

theorem bindL_keep (k : Str → Option NameKind) : ∀ (xs : List Str) (vs : List Value) (m : Str → Option Value) (y : Str), y ∉ xs → bindL k (xs.zip vs) m y = m y
  | [], vs, m, y, h => by simp [bindL]
  | x :: xs, [], m, y, h => by simp [bindL]
  | x :: xs, v :: vs, m, y, h => by
    have hy : y ≠ x := fun q => h (q ▸ List.mem_cons_self ..)
    rw [List.zip_cons_cons, bindL, bindL_keep k xs vs _ y fun q => h (List.mem_cons_of_mem _ q)]
    split <;> simp [hy]
theorem bindC_keep (k : Str → Option NameKind) : ∀ (xs : List Str) (vs : List Value) (m : Str → Option Value) (y : Str), y ∉ xs → bindC k (xs.zip vs) m y = m y
  | [], vs, m, y, h => by simp [bindC]
  | x :: xs, [], m, y, h => by simp [bindC]
  | x :: xs, v :: vs, m, y, h => by
    have hy : y ≠ x := fun q => h (q ▸ List.mem_cons_self ..)
    rw [List.zip_cons_cons, bindC, bindC_keep k xs vs _ y fun q => h (List.mem_cons_of_mem _ q)]
    split <;> simp [hy]
theorem bindL_get (k : Str → Option NameKind) : ∀ (xs : List Str) (vs : List Value) (m : Str → Option Value) (y : Str) (v : Value), xs.Nodup → (xs.zip vs).lookup y = some v → k y = some .local → bindL k (xs.zip vs) m y = some v
  | [], vs, m, y, v, _, h, _ => by simp at h
  | x :: xs, [], m, y, v, _, h, _ => by simp at h
  | x :: xs, u :: vs, m, y, v, hn, h, hk => by
    obtain ⟨h1, h2⟩ := List.nodup_cons.mp hn
    rw [List.zip_cons_cons, List.lookup_cons] at h
    rw [List.zip_cons_cons, bindL]
    split at h
    · rename_i e
      cases h
      obtain rfl := eq_of_beq e
      rw [bindL_keep k xs vs _ _ h1, if_pos hk]
      simp
    · exact bindL_get k xs vs _ y v h2 h hk
theorem bindC_get (k : Str → Option NameKind) : ∀ (xs : List Str) (vs : List Value) (m : Str → Option Value) (y : Str) (v : Value), xs.Nodup → (xs.zip vs).lookup y = some v → k y ≠ some .local → bindC k (xs.zip vs) m y = some v
  | [], vs, m, y, v, _, h, _ => by simp at h
  | x :: xs, [], m, y, v, _, h, _ => by simp at h
  | x :: xs, u :: vs, m, y, v, hn, h, hk => by
    obtain ⟨h1, h2⟩ := List.nodup_cons.mp hn
    rw [List.zip_cons_cons, List.lookup_cons] at h
    rw [List.zip_cons_cons, bindC]
    split at h
    · rename_i e
      cases h
      obtain rfl := eq_of_beq e
      rw [bindC_keep k xs vs _ _ h1, if_neg hk]
      simp
    · exact bindC_get k xs vs _ y v h2 h hk
theorem zip_lookup {G : View} : ∀ {xs : List Str} {ds : List PV} {vs : List Value} {y d}, Reps G ds vs → (xs.zip ds).lookup y = some d → ∃ v, (xs.zip vs).lookup y = some v ∧ Rep G d v
  | [], _, _, _, _, _, h => by simp at h
  | x :: xs, _, _, _, _, .nil, h => by simp at h
  | x :: xs, _, _, y, d, .cons (d := e) (v := v) r rs, h => by
    rw [List.zip_cons_cons, List.lookup_cons] at h
    rw [List.zip_cons_cons, List.lookup_cons]
    split at h
    · cases h; exact ⟨_, rfl, r⟩
    · exact zip_lookup rs h

noncomputable def Fx.fn (prog : Program) (w : World) (A : Around) (C : Heap → Prop) (k : Nat) (fd : FuncData) (fa : Addr) (hs : List Addr) (s : Shared) (n : Nat := 0) : Fx :=
  { prog, w, A := A.deeper (callEnvC fd s.heap.objs.size fa), env := callEnvC fd s.heap.objs.size fa, hid := s.heap.objs.size :: ((cellsFrom (s.heap.objs.size + 1) fd.scope.names []).map (·.2) ++ hs), s₀ := s, C, k, n }

structure FnOk (C : Heap → Prop) (fa : Addr) (fd : FuncData) (xs : List Str) : Prop where
  obj : ∀ h, C h → ∃ o, h.get? fa = some o ∧ o.data = .func fd
  code : ∀ h, C h → h.CodeRec fd.code fd.qualname
  lim : ∀ h, C h → h.NoLimit
  mono : ∀ h h' : Heap, C h → (∀ b o, h.get? b = some o → h'.get? b = some o) → C h'
  bind : ∀ vs : List Value, vs.length = xs.length → bindArgs fd ⟨vs, []⟩ = pure (xs.zip vs)
  nodup : xs.Nodup
  kinds : ∀ x ∈ xs, fd.scope.names.lookup x = some .local ∨ fd.scope.names.lookup x = some .cell
  cnd : ∀ L, ((cellsFrom L fd.scope.names []).map (·.1)).Nodup
  clo : fd.closure = []
  glob : fd.globals = mainGlobals
  bns : fd.builtins = builtinsNs
  kind : fd.scope.kind = .function
  co : fd.scope.isCoroutine = false
  gen : fd.scope.isGenerator = false
  nodbg : fd.scope.names.lookup (Str.ofString "__debug__") = none ∧ fd.scope.names.lookup (Str.ofString "__classdict__") = none

section
variable {prog : Program} {w : World} {A : Around} {C : Heap → Prop} {k : Nat} {fd : FuncData} {fa : Addr} {hs : List Addr} {s : Shared} {xs : List Str} {n : Nat}
theorem FnOk.ok (F : FnOk C fa fd xs) (R : Rm A (k + 1)) (h5 : 5 ≤ k) (hC : C s.heap) (ha : (cellsFrom (s.heap.objs.size + 1) fd.scope.names []).Pairwise fun x y => x.2 ≠ y.2) : (Fx.fn prog w A C k fd fa hs s n).Ok where
  kind := F.kind
  handled := R.handled
  depth := by have := R.depth; show A.depth + 1 + k < _; omega
  units := by have := R.units; show A.units + 3 + 10 * k < _; omega
  room := h5
  nodbg := F.nodbg
  glob := F.glob
  bns := F.bns
  ctx := hC
  mono := F.mono
  hidL := List.mem_cons_self ..
  newL := size_none s
  cells := fun x c h => by
    have hm := lookup_mem h
    refine ⟨List.mem_cons_of_mem _ (List.mem_append_left _ (List.mem_map.mpr ⟨_, hm, rfl⟩)), fun q => ?_⟩
    rcases cellsFrom_mem _ _ _ _ hm with h' | h'
    · cases h'
    · have q' : c = s.heap.objs.size := q
      have h'' : s.heap.objs.size + 1 ≤ c := h'
      rw [q'] at h''
      exact absurd h'' (Nat.not_succ_le_self _)
  apart := fun x y c h h' => name_of_addr ha (lookup_mem h) (lookup_mem h')
  pinH := fun p hp => by cases hp

theorem own_fn {x : Str} (h : fd.scope.names.lookup x = some .local ∨ fd.scope.names.lookup x = some .cell) : Own (Fx.fn prog w A C k fd fa hs s n) x := by
  rcases h with h | h
  · exact .inl h
  · refine .inr ⟨h, ?_⟩
    obtain ⟨c, hc⟩ := Option.isSome_iff_exists.mp (cellsFrom_has fd.scope.names (s.heap.objs.size + 1) [] x h)
    refine ⟨c, hc, ?_⟩
    rcases cellsFrom_mem _ _ _ _ (lookup_mem hc) with h' | h'
    · cases h'
    · show s.heap.get? c = none
      simp only at h'
      cases e : s.heap.get? c with
      | none => rfl
      | some o => exact absurd (Nat.lt_of_lt_of_le (Heap.lt_size e) (Nat.le_of_succ_le h')) (Nat.lt_irrefl _)

theorem fn_st {ds : List PV} {vs : List Value} (F : FnOk C fa fd xs) (hl : Live hs s) (hr : Reps (vw s.heap hs) ds vs) {s₁ : Shared} (hn : n ≤ s.toks) (htk : s.toks ≤ s₁.toks)
    (x : InCallC s (callEnvC fd s.heap.objs.size fa).locals (bindL (callEnvC fd s.heap.objs.size fa).kindOf (xs.zip vs) fun _ => none) (callEnvC fd s.heap.objs.size fa).cells
        (bindC (callEnvC fd s.heap.objs.size fa).kindOf (xs.zip vs) fun _ => none) s₁) : St (Fx.fn prog w A C k fd fa hs s n) (fun y => (xs.zip ds).lookup y) none 0 s₁ where
  same := x.toInCall.same
  floor := Nat.le_trans hn htk
  late := htk
  pin := fun p hp => by cases hp
  keep := x.toInCall.keep
  hid := fun b hb => by
    rcases List.mem_cons.mp hb with rfl | hb
    · obtain ⟨o, _, _, e, _⟩ := x.toInCall.ns
      exact ⟨o, e⟩
    · rcases List.mem_append.mp hb with hb | hb
      · obtain ⟨p, hp, rfl⟩ := List.mem_map.mp hb
        have : ∃ c, (cellsFrom (s.heap.objs.size + 1) fd.scope.names []).lookup p.1 = some c := by
          have : ∀ l : List (Str × Addr), p ∈ l → ∃ c, l.lookup p.1 = some c := fun l => by
            induction l with
            | nil => intro h; cases h
            | cons q r ih =>
              intro h
              rw [List.lookup_cons]
              split
              · exact ⟨_, rfl⟩
              · rename_i hne
                rcases List.mem_cons.mp h with rfl | h
                · simp at hne
                · exact ih h
          exact this _ hp
        obtain ⟨c, hc⟩ := this
        have e := x.cell p.1 c hc
        by_cases q : c = p.2
        · rw [← q]; obtain ⟨o, e, _⟩ := e; exact ⟨o, e⟩
        · exfalso
          have hmem := lookup_mem hc
          have hpw := x.apart
          have n1 : ∀ q ∈ (cellsFrom (s.heap.objs.size + 1) fd.scope.names []), q.1 = p.1 → q.2 = p.2 := by
            intro q hq he
            have h1 : ∀ l : List (Str × Addr), (l.map (·.1)).Nodup → q ∈ l → p ∈ l → q = p := fun l => by
              induction l with
              | nil => intro _ h; cases h
              | cons a r ih =>
                intro hn h1 h2
                rw [List.map_cons, List.nodup_cons] at hn
                rcases List.mem_cons.mp h1 with e1 | h1
                · rcases List.mem_cons.mp h2 with e2 | h2
                  · rw [e1, e2]
                  · exact absurd (List.mem_map.mpr ⟨p, h2, by rw [← e1, he]⟩) hn.1
                · rcases List.mem_cons.mp h2 with e2 | h2
                  · exact absurd (List.mem_map.mpr ⟨q, h1, by rw [← e2, he]⟩) hn.1
                  · exact ih hn.2 h1 h2
            rw [h1 _ (F.cnd _) hq hp]
          exact q (n1 _ hmem rfl)
      · obtain ⟨o, e⟩ := hl b hb
        exact ⟨o, x.toInCall.keep b o e⟩
  cls := fun y c h => ⟨_, x.cell y c h⟩
  vars := by
    refine ⟨_, x.toInCall.ns, fun y d hy => ?_, fun _ _ h => by cases h⟩
    obtain ⟨v, hv, r⟩ := zip_lookup hr hy
    have hyx : y ∈ xs := (List.of_mem_zip (lookup_mem hv)).1
    refine ⟨v, ?_, r.mono fun b o e => ?_⟩
    · rcases F.kinds y hyx with h | h
      · exact .loc h (bindL_get _ _ _ _ _ _ F.nodup hv h)
      · obtain ⟨c, hc⟩ := Option.isSome_iff_exists.mp (cellsFrom_has fd.scope.names (s.heap.objs.size + 1) [] y h)
        refine .cell (.inl h) hc ?_
        have := x.cell y c hc
        rwa [bindC_get _ _ _ _ _ _ F.nodup hv (by show fd.scope.names.lookup y ≠ _; rw [h]; decide)] at this
    · obtain ⟨e1, e2, e3⟩ := vw_some.mp e
      refine vw_some.mpr ⟨fun hb => ?_, x.toInCall.keep _ _ e2, e3⟩
      rcases List.mem_cons.mp hb with rfl | hb
      · rw [size_none] at e2; cases e2
      · rcases List.mem_append.mp hb with hb | hb
        · obtain ⟨p, hp, rfl⟩ := List.mem_map.mp hb
          have := x.above p.1 p.2 hp
          have h9 := Heap.lt_size e2
          have h8 : s.heap.objs.size < p.2 := this
          exact absurd (Nat.lt_trans h8 h9) (Nat.lt_irrefl _)
        · exact e1 hb

/-- a call, in a state that has told so many tokens -/
noncomputable def CSf (prog : Program) (w : World) (C : Heap → Prop) (k n : Nat) (f : Value) (ds : List PV) (d : PV) : Prop :=
  ∀ A hs s vs E, Rm A k → C s.heap → n ≤ s.toks → Live hs s → Reps (vw s.heap hs) ds vs → wpAny (model prog w) A (call f vs []) (fun v s' => Kp s s' ∧ Rep (vw s'.heap hs) d v) E s
theorem CSf.fn {ds : List PV} {d : PV} {body : List Stmt} (F : FnOk C fa fd xs) (hbody : fd.body = .stmts body) (h5 : 5 ≤ k) (hlen : ds.length = xs.length)
    (h : ∀ A hs s, (Fx.fn prog w A C k fd fa hs s n).Ok → SX (Fx.fn prog w A C k fd fa hs s n) (fun y => (xs.zip ds).lookup y) none body (.ret d)) : CSf prog w C (k + 1) n (.ref fa) ds d := fun A hs s vs E R hC hn hl hr => by
  obtain ⟨o, ho, hdata⟩ := F.obj _ hC
  refine wpAny_call ?_
  refine codeAny_call_function (by have := R.depth; omega) ho hdata F.co F.gen hbody (F.code _ hC) ?_
  rw [F.bind vs (by rw [← hr.length, hlen]), F.clo]
  refine wpAny_pure (wpAny_tk (wpAny_newFunctionEnv_cells F.kind (fun p hp => ?_) fun env he s₁ x htk => ?_))
  · rcases F.kinds p.1 (List.of_mem_zip hp).1 with h | h
    · exact .inl h
    · exact .inr ⟨h, cellsFrom_has _ _ _ _ h⟩
  · subst he
    refine ⟨(F.lim _ hC).keeps x.toInCall.keep, codeAny_func ?_⟩
    have ok : (Fx.fn prog w A C k fd fa hs s n).Ok := F.ok R h5 hC x.apart
    refine wpAny_mono (h A hs s ok 0 s₁ _ (fn_st F hl hr hn htk x)) (fun f s' hf => ?_) fun _ _ e => e
    cases f with
    | ret v => exact ⟨hf.1, hf.2.mono (vw_more fun b hb => List.mem_cons_of_mem _ (List.mem_append_right _ hb))⟩
    | _ => exact hf.elim
theorem CS.fn {ds : List PV} {d : PV} {body : List Stmt} (F : FnOk C fa fd xs) (hbody : fd.body = .stmts body) (h5 : 5 ≤ k) (hlen : ds.length = xs.length)
    (h : ∀ A hs s, (Fx.fn prog w A C k fd fa hs s).Ok → SX (Fx.fn prog w A C k fd fa hs s) (fun y => (xs.zip ds).lookup y) none body (.ret d)) : CS prog w C (k + 1) (.ref fa) ds d := fun A hs s vs E R hC hl hr =>
  CSf.fn F hbody h5 hlen h A hs s vs E R hC (Nat.zero_le _) hl hr
end
end Mine
end -- L6
section -- L7
set_option maxRecDepth 10000
namespace Mine

/-- the method of that name -/
noncomputable def GM (prog : Program) (w : World) (C : Heap → Prop) (d : PV) (name : Str) (f : Value) : Prop :=
  ∀ A k hs s v E Q pl, Rm A k → C s.heap → Live hs s → Rep (vw s.heap hs) d v → Q (f, [v]) s → wpAny (model prog w) A (getMethod v name pl) Q E s
/-- the attribute of that name -/
noncomputable def GA (prog : Program) (w : World) (C : Heap → Prop) (d : PV) (name : Str) (r : PV) : Prop :=
  ∀ A k hs s v E, Rm A k → C s.heap → Live hs s → Rep (vw s.heap hs) d v → wpAny (model prog w) A (getAttr v name true) (fun v s' => Kp s s' ∧ Rep (vw s'.heap hs) r v) E s

theorem GM.str {prog w C x name id} (slot : Slot "str" name id) (hty : typeOf (.builtin id) = pure (.type "method_descriptor")) : GM prog w C (.str x) name (.builtin id) := fun A k hs s v E Q pl R hC L h1 hq => by
  cases h1
  exact getMethod_builtin (typeIs_str _ _ _) PySem.F.plainAttrs_str slot hty (fun _ e => nomatch e) hq
theorem GM.list {prog w C xs name id} (slot : Slot "list" name id) (hty : typeOf (.builtin id) = pure (.type "method_descriptor")) : GM prog w C (.list xs) name (.builtin id) := fun A k hs s v E Q pl R hC L h1 hq => by
  obtain ⟨a, vs, n, rfl, ha, hr⟩ := h1.list_inv
  exact getMethod_builtin ⟨_, (vw_some.mp ha).2.1, rfl⟩ PySem.F.plainAttrs_list slot hty (fun _ e => by cases e; exact ⟨_, (vw_some.mp ha).2.1, rfl⟩) hq

section
variable {Γ : Fx} {ρ : Loc} {mu : Mu}
theorem EVs.nil : EVs Γ ρ mu [] [] := trivial
theorem EVs.cons {e es d ds} (h : EV Γ ρ mu e d) (hst : isStarred e = false) (t : EVs Γ ρ mu es ds) : EVs Γ ρ mu (e :: es) (d :: ds) := ⟨h, hst, t⟩
theorem EV.of1 {e v} (h : EV1 Γ ρ mu e v) : EV Γ ρ mu e (.val v) := fun a s E hs => wpAny_mono (h a s E hs) (fun v' s' h' => ⟨h'.1, by rw [h'.2]; exact .val⟩) fun _ _ e => e
theorem EV.of1' {e v d} (h : EV1 Γ ρ mu e v) (hd : ∀ G, Rep G d v) : EV Γ ρ mu e d := fun a s E hs => wpAny_mono (h a s E hs) (fun v' s' h' => ⟨h'.1, by rw [h'.2]; exact hd _⟩) fun _ _ e => e
theorem EV.cast {e d d2} (h : EV Γ ρ mu e d) (q : d = d2) : EV Γ ρ mu e d2 := q ▸ h
theorem ET.cast {e b b2} (h : ET Γ ρ mu e b) (q : b = b2) : ET Γ ρ mu e b2 := q ▸ h

theorem EV.meth (hΓ : Γ.Ok) {o name apos args pos d0 ds d f k pl} (h0 : EV Γ ρ mu o d0) (hm : GM Γ.prog Γ.w Γ.C d0 name f) (hk : Kee Γ.C f) (ha : EVs Γ ρ mu args ds)
    (hc : CS Γ.prog Γ.w Γ.C k f (d0 :: ds) d) (hk' : k ≤ Γ.k) (h5 : 5 ≤ k)
    (he : eval (.Call (.Attribute o name apos) args [] pos) Γ.env = (do
      let ov ← eval o Γ.env
      standAt apos.atName
      let (f, first) ← holding [ov] (getMethod ov name pl)
      callWith pos f first (backTo pos (starEach args Γ.env)) (backToKw pos (keywordEach [] Γ.env)))) :
    EV Γ ρ mu (.Call (.Attribute o name apos) args [] pos) d := fun a s E hs => by
  refine methodCall_KW (pl := pl) (wpAny_mono (h0 a s E hs) (fun v s1 h1 => ?_) fun _ _ e => e) he
  have hs1 := hs.kept h1.1
  refine hm Γ.A Γ.k (Γ.hids mu a) s1 v E _ pl hΓ.rm (hs1.ctx hΓ) hs1.live h1.2 ?_
  refine callWith_any hk ha.plain (ha.spliced a s1 E _ hs1 fun vs s2 k2 r2 => ?_)
  have hs2 := hs1.kept k2
  refine ⟨hs2.ctx hΓ, ?_⟩
  exact wpAny_mono (hc Γ.A (Γ.hids mu a) s2 (v :: vs) E ⟨hΓ.handled, by have := hΓ.depth; omega, by have := hΓ.units; omega, h5⟩ (hs2.ctx hΓ) hs2.live (.cons (h1.2.mono (k2.le _)) r2)) (fun r s3 h3 => ⟨(h1.1.trans k2).trans h3.1, h3.2⟩) fun _ _ e => e

theorem EV.attr (hΓ : Γ.Ok) {o name pos d r} (h0 : EV Γ ρ mu o d) (hm : GA Γ.prog Γ.w Γ.C d name r) (he : eval (.Attribute o name pos) Γ.env = (do
      let v ← eval o Γ.env
      standAt pos.atName
      let r ← holding [v] (getAttr v name true)
      letTemporaryGo o v r
      pure r)) (hg : ∀ v r, letTemporaryGo o v r = pure ()) : EV Γ ρ mu (.Attribute o name pos) r := fun a s E hs => by
  rw [he]
  refine wpAny_bind (wpAny_mono (h0 a s E hs) (fun v s1 h1 => ?_) fun _ _ e => e)
  have hs1 := hs.kept h1.1
  refine wpAny_bind (wpAny_standAt (wpAny_bind (wpAny_holding (wpAny_mono (hm Γ.A Γ.k (Γ.hids mu a) s1 v E hΓ.rm (hs1.ctx hΓ) hs1.live h1.2) (fun r s2 h2 => ?_) fun _ _ e => e))))
  rw [hg]
  exact wpAny_bind (wpAny_pure (wpAny_pure ⟨h1.1.trans h2.1, h2.2⟩))

theorem EV.load (hΓ : Γ.Ok) {x d a s} {E : Value → Shared → Prop} (hv : ρ x = some d) (hs : St Γ ρ mu a s) : wpAny Γ.M Γ.A (loadName Γ.env x) (fun v s' => s' = s ∧ Rep (vw s.heap (Γ.hids mu a)) d v) E s := by
  obtain ⟨m, hn, hv', _⟩ := hs.vars
  obtain ⟨v, l, r⟩ := hv' x d hv
  have hk : ∃ q, Γ.env.kindOf x = some q := by
    cases l with
    | loc h1 _ => exact ⟨_, h1⟩
    | cell h1 _ _ => exact h1.elim (fun h => ⟨_, h⟩) fun h => ⟨_, h⟩
  obtain ⟨q, hq⟩ := hk
  have ne : ∀ y : Str, Γ.env.kindOf y = Option.none → (x == y) = false := fun y hy => by
    cases e : x == y with
    | false => rfl
    | true => rw [eq_of_beq e, hy] at hq; cases hq
  cases l with
  | loc h1 h2 => exact wpAny_loadName_local hΓ.kind h1 hn h2 ⟨rfl, r⟩
  | cell h1 h2 h3 =>
    rcases h1 with h1 | h1
    · exact wpAny_loadName_cell hΓ.kind h1 h2 h3 ⟨rfl, r⟩
    · exact wpAny_loadName_free hΓ.kind h1 h2 h3 ⟨rfl, r⟩ (ne _ hΓ.nodbg.2)

theorem S1.aug (hΓ : Γ.Ok) {x p' op value pos d1 d2 d} (h1 : ρ x = some d1) (h2 : EV Γ ρ mu value d2) (h : I2 Γ.prog Γ.w op d1 d2 d) (ho : Own Γ x) (hmu : ∀ y xs, mu = some (y, xs) → y ≠ x) :
    S1 Γ ρ mu (.AugAssign (.Name x p') op value pos) (.next (up ρ x d) mu) := fun a s E hs => by
  refine wpAny_AugAssign_Name (wpAny_mono (EV.load hΓ h1 hs) (fun v1 s1 e1 => ?_) fun _ _ e => e)
  obtain ⟨rfl, r1⟩ := e1
  refine wpAny_mono (h2 a _ E hs) (fun v2 s2 e2 => ?_) fun _ _ e => e
  have hs2 := hs.kept e2.1
  refine wpAny_mono (h Γ.A Γ.k (Γ.hids mu a) s2 v1 v2 E hΓ.rm hs2.live (r1.mono (e2.1.le _)) e2.2) (fun v s3 e3 => ?_) fun _ _ e => e
  exact wpAny_mono ((hs2.kept e3.1).store hΓ ho e3.2 hmu) (fun _ s4 h4 => ⟨a, h4.1, ((e2.1.trans e3.1).pres _).trans h4.2⟩) fun _ _ e => e

theorem EV.neg (hΓ : Γ.Ok) {e pos i} (h : EV Γ ρ mu e (.int i)) : EV Γ ρ mu (.UnaryOp .USub e pos) (.int (-i)) := fun a s E hs =>
  wpAny_UnaryOp (wpAny_mono (h a s E hs) (fun v s1 h1 => by
    obtain ⟨k1, r1⟩ := h1
    cases r1
    exact PySem.P.neg_int ⟨k1.trans (Kp.tok s1 _), .int⟩) fun _ _ e => e)

/-- an expression statement -/
theorem S1.three (hΓ : Γ.Ok) {x y z px py pz value pos d} (h : EV Γ ρ mu value d) (hx : Own Γ x) (hy : Own Γ y) (hz : Own Γ z) (hmx : ∀ u xs, mu = some (u, xs) → u ≠ x) (hmy : ∀ u xs, mu = some (u, xs) → u ≠ y) (hmz : ∀ u xs, mu = some (u, xs) → u ≠ z)
    (he : (assignEach [.Name x px, .Name y py, .Name z pz] Γ.env).map (·.2) = [assign (.Name x px) Γ.env, assign (.Name y py) Γ.env, assign (.Name z pz) Γ.env])
    (hw : swappedStores [.Name x px, .Name y py, .Name z pz] value Γ.env = pure Option.none) :
    S1 Γ ρ mu (.Assign [.Name x px, .Name y py, .Name z pz] value pos) (.next (up (up (up ρ x d) y d) z d) mu) := fun a s E hs =>
  wpAny_Assign_three (wpAny_mono (h a s E hs) (fun v s1 h1 =>
    wpAny_assign_Name (wpAny_mono ((hs.kept h1.1).store hΓ hx h1.2 hmx) (fun _ s2 h2 =>
      wpAny_assign_Name (wpAny_mono (h2.1.store hΓ hy (h1.2.mono h2.2.le) hmy) (fun _ s3 h3 =>
        wpAny_assign_Name (wpAny_mono (h3.1.store hΓ hz ((h1.2.mono h2.2.le).mono h3.2.le) hmz) (fun _ s4 h4 =>
          ⟨a, h4.1, (((h1.1.pres _).trans h2.2).trans h3.2).trans h4.2⟩) fun _ _ e => e)) fun _ _ e => e)) fun _ _ e => e)) fun _ _ e => e) he hw
end
end Mine
end -- L7
section -- L8
set_option maxRecDepth 10000
namespace Mine
theorem kp_ext {s : Shared} {h' : Heap} (he : Heap.ExtBut s.heap.objs.size s.heap h') : Kp s { s with heap := h' } :=
  Kp.ofh fun b o e => he b o (fun q => by rw [q, size_none] at e; cases e) e
theorem IsTup.of_get {h : Heap} {a : Addr} {vs : Array Value} {n : Nat} (e : h.get? a = some { cls := .type "tuple", data := .seq vs n }) : IsTup h a vs := ⟨_, e, rfl, n, rfl⟩

theorem Reps.two {G : View} {d1 d2 : PV} {vs : List Value} (h : Reps G [d1, d2] vs) : ∃ v1 v2, vs = [v1, v2] ∧ Rep G d1 v1 ∧ Rep G d2 v2 := by
  cases h with | cons h1 h => ?_
  cases h with | cons h2 h => ?_
  cases h
  exact ⟨_, _, rfl, h1, h2⟩

section
variable {Γ : Fx} {ρ : Loc} {mu : Mu}
/-- x, y = a pair -/
theorem S1.unpack (hΓ : Γ.Ok) {x y px py kk tpos value pos d1 d2} (h : EV Γ ρ mu value (.tup [d1, d2])) (hx : Own Γ x) (hy : Own Γ y) (hmx : ∀ u xs, mu = some (u, xs) → u ≠ x) (hmy : ∀ u xs, mu = some (u, xs) → u ≠ y)
    (hs : swapsWithSole [.Tuple [.Name x px, .Name y py] kk tpos] value pos.line Γ.env = pure false) (hw : swappedStores [.Tuple [.Name x px, .Name y py] kk tpos] value Γ.env = pure Option.none) :
    S1 Γ ρ mu (.Assign [.Tuple [.Name x px, .Name y py] kk tpos] value pos) (.next (up (up ρ x d1) y d2) mu) := fun a s E hst => by
  refine Assign_Tuple (wpAny_mono (h a s E hst) (fun v s1 h1 => ?_) fun _ _ e => e) hs hw
  obtain ⟨k1, r1⟩ := h1
  obtain ⟨t, vs, n, rfl, ht, hr⟩ := r1.tup_inv
  obtain ⟨v1, v2, hvs, r1, r2⟩ := hr.two
  have ht' := IsTup.of_get (vw_some.mp ht).2.1
  have hsz : vs.size = 2 := by rw [← Array.length_toList, hvs]; rfl
  refine wpAny_assign_Tuple hΓ.handled ht' (by rw [hsz]; rfl) rfl fun h' he => ?_
  have k2 := kp_ext he
  rw [hvs]
  have hst2 := (hst.kept k1).kept k2
  refine wpAny_assignInOrder_more ?_
  refine wpAny_assign_Name (wpAny_mono (hst2.store hΓ hx (r1.mono (k2.le _)) hmx) (fun _ s3 h3 => ?_) fun _ _ e => e)
  refine wpAny_assignInOrder_more (wpAny_assign_Name (wpAny_mono (h3.1.store hΓ hy ((r2.mono (k2.le _)).mono h3.2.le) hmy) (fun _ s4 h4 => ?_) fun _ _ e => e))
  exact wpAny_assignInOrder_none ⟨a, h4.1, (((k1.trans k2).pres _).trans h3.2).trans h4.2⟩
/-- the stores turned round -/
theorem S1.swap (hΓ : Γ.Ok) {x y px py kk tpos value pos d1 d2} (h : EV Γ ρ mu value (.tup [d1, d2])) (hx : Own Γ x) (hy : Own Γ y) (hmx : ∀ u xs, mu = some (u, xs) → u ≠ x) (hmy : ∀ u xs, mu = some (u, xs) → u ≠ y)
    (hs : swapsWithSole [.Tuple [.Name x px, .Name y py] kk tpos] value pos.line Γ.env = pure false) (hw : swappedStores [.Tuple [.Name x px, .Name y py] kk tpos] value Γ.env = pure (some [x, y])) :
    S1 Γ ρ mu (.Assign [.Tuple [.Name x px, .Name y py] kk tpos] value pos) (.next (up (up ρ y d2) x d1) mu) := fun a s E hst => by
  refine Assign_Tuple_swapped (wpAny_mono (h a s E hst) (fun v s1 h1 => ?_) fun _ _ e => e) hs hw
  obtain ⟨k1, r1⟩ := h1
  obtain ⟨t, vs, n, rfl, ht, hr⟩ := r1.tup_inv
  obtain ⟨v1, v2, hvs, r1, r2⟩ := hr.two
  have ht' := IsTup.of_get (vw_some.mp ht).2.1
  have hsz : vs.size = 2 := by rw [← Array.length_toList, hvs]; rfl
  show wpAny _ _ (unpackItems (.ref t) 2 Option.none) _ _ _
  rw [← hsz]
  refine unpackItems_tuple hΓ.handled ht' fun h' he => ?_
  have k2 := kp_ext he
  rw [hvs]
  have hst2 := (hst.kept k1).kept k2
  show wpAny _ _ (assignInOrder [fun v => bindName Γ.env y v, fun v => bindName Γ.env x v] [v2, v1]) _ _ _
  refine wpAny_assignInOrder_more (bindName_ (wpAny_mono (hst2.store hΓ hy (r2.mono (k2.le _)) hmy) (fun _ s3 h3 => ?_) fun _ _ e => e))
  refine wpAny_assignInOrder_more (bindName_ (wpAny_mono (h3.1.store hΓ hx ((r1.mono (k2.le _)).mono h3.2.le) hmx) (fun _ s4 h4 => ?_) fun _ _ e => e))
  exact wpAny_assignInOrder_none ⟨a, h4.1, (((k1.trans k2).pres _).trans h3.2).trans h4.2⟩

/-- a new list -/
noncomputable def EF (Γ : Fx) (ρ : Loc) (e : Expr) (xs : List PV) : Prop :=
  ∀ a s E, St Γ ρ none a s → wpAny Γ.M Γ.A (eval e Γ.env) (fun v s' => Kp s s' ∧ ∃ a' vs n, v = .ref a' ∧ s.heap.get? a' = none ∧ s'.heap.get? a' = some { cls := .type "list", data := .seq vs n } ∧ Reps (vw s'.heap (a' :: Γ.hid)) xs vs.toList) E s
theorem vw_push_hide {hs : List Addr} (s : Shared) (o : Obj) : Le (vw s.heap hs) (vw (s.heap.push o) (s.heap.objs.size :: hs)) := fun b o' e => by
  obtain ⟨h1, h2, h3⟩ := vw_some.mp e
  refine vw_some.mpr ⟨fun hm => ?_, Heap.get?_push_of_some _ h2, h3⟩
  rcases List.mem_cons.mp hm with q | q
  · rw [q, size_none] at h2; cases h2
  · exact h1 q
theorem EF.list (hΓ : Γ.Ok) {es ds pos} (h : EVs Γ ρ none es ds) (hsz : ds.length ≤ sizeLine) : EF Γ ρ (.List es pos) ds := fun a s E hs =>
  List_ (h.spliced a s E _ hs fun vs s' k r => by
    have el := r.length
    refine wpAny_newObj_type ⟨k.trans (push_kp s' _), s'.heap.objs.size, vs.toArray, 0, rfl, kp_none k (size_none s'), Heap.get?_push_size _ rfl, ?_⟩ (by show vs.toArray.size ≤ sizeLine; rw [List.size_toArray]; omega)
    exact r.mono (vw_push_hide s' _))
theorem EF.add (hΓ : Γ.Ok) {l r pos xs ys} (h1 : EV Γ ρ none l (.list xs)) (h2 : EV Γ ρ none r (.list ys)) (h : xs.length + ys.length ≤ sizeLine) : EF Γ ρ (.BinOp l .Add r pos) (xs ++ ys) := fun a s E hs =>
  wpAny_BinOp (wpAny_mono (h1 a s E hs) (fun v1 s1 hv1 => wpAny_mono (h2 a s1 E (hs.kept hv1.1)) (fun v2 s2 hv2 => by
    obtain ⟨a1, vs, n, rfl, ha, hr⟩ := (hv1.2.mono (hv2.1.le _)).list_inv
    obtain ⟨b, ws, m, rfl, hb, hr'⟩ := hv2.2.list_inv
    have e1 := hr.length
    have e2 := hr'.length
    simp only [Array.length_toList] at e1 e2
    refine PySem.P.add_list (vw_some.mp ha).2.1 (vw_some.mp hb).2.1 ⟨(hv1.1.trans hv2.1).trans (push_kp s2 _), s2.heap.objs.size, _, 0, rfl, kp_none (hv1.1.trans hv2.1) (size_none s2), Heap.get?_push_size _ rfl, ?_⟩ (by omega)
    have := (hr.append hr').mono (vw_push_hide s2 { cls := .type "list", data := .seq (vs ++ ws) })
    rw [Array.toList_append]
    exact this) fun _ _ e => e) fun _ _ e => e)

noncomputable def del (ρ : Loc) (x : Str) : Loc := fun y => if y = x then none else ρ y

/-- a name takes a new list, which the frame may change -/
theorem S1.asg_mu (hΓ : Γ.Ok) {x pos' value pos xs} (h : EF Γ ρ value xs) (hk : Γ.env.kindOf x = some .local)
    (hsw : swapsWith value (some (.Name x pos')) pos.line Γ.env = pure false) : S1 Γ ρ none (.Assign [.Name x pos'] value pos) (.next (del ρ x) (some (x, xs))) := fun a s E hs =>
  wpAny_Assign_Name (wpAny_mono (h a s E hs) (fun v s' h' => by
    obtain ⟨k, a', vs, n, rfl, hnew, hat, hrep⟩ := h'
    have hs' := hs.kept k
    -- the state, stored over
    obtain ⟨⟨h0, t0, e0⟩, fl, u0, pn, kp, hid, cls, m, hn, hv, hm⟩ := hs'
    have hLa : a' ≠ Γ.env.locals := fun q => by
      obtain ⟨o, e⟩ := hs.hid _ hΓ.hidL
      rw [← q, hnew] at e; cases e
    have hCa : ∀ y c, Γ.env.cells.lookup y = some c → a' ≠ c := fun y c hc q => by
      obtain ⟨u, o, e, _⟩ := hs.cls y c hc
      rw [← q, hnew] at e; cases e
    have hHa : a' ∉ Γ.hid := fun q => by obtain ⟨o, e⟩ := hs.hid _ q; rw [hnew] at e; cases e
    have h0a : Γ.s₀.heap.get? a' = Option.none := by
      cases e : Γ.s₀.heap.get? a' with
      | none => rfl
      | some o => have := hs.keep a' o e; rw [hnew] at this; cases this
    refine wpAny_storeName_local hk hn (fun h' hn' hsb => ?_) (by rw [hΓ.kind]; rfl)
    have hk' : ∀ b o, b ≠ Γ.env.locals → s'.heap.get? b = some o → h'.get? b = some o := fun b o hb e => (hsb.2 b hb).trans e
    have cellk : ∀ y c w, Γ.env.cells.lookup y = some c → s'.heap.IsCell c w → h'.IsCell c w := fun y c w hc ⟨o, e, r⟩ => ⟨o, hk' c o (hΓ.cells y c hc).2 e, r⟩
    have vwa : Le (vw s.heap Γ.hid) (vw h' (a' :: Γ.hid)) := fun b o e => by
      obtain ⟨h1, h2, h3⟩ := vw_some.mp e
      refine vw_some.mpr ⟨fun q => ?_, hk' b o (fun q => h1 (q ▸ hΓ.hidL)) (k.get b o h2), h3⟩
      rcases List.mem_cons.mp q with q | q
      · rw [q, hnew] at h2; cases h2
      · exact h1 q
    have vwb : Le (vw s'.heap (a' :: Γ.hid)) (vw h' (a' :: Γ.hid)) := fun b o e => by
      obtain ⟨h1, h2, h3⟩ := vw_some.mp e
      exact vw_some.mpr ⟨h1, hk' b o (fun q => h1 (q ▸ List.mem_cons_of_mem _ hΓ.hidL)) h2, h3⟩
    obtain ⟨m0, hn0, hv0, _⟩ := hs.vars
    have mm : ∀ y w, m0 y = some w → m y = some w := fun y w e => by
      rw [← (hn0.at' fun o e => k.get _ o e).agree hn y]; exact e
    refine ⟨a', ⟨⟨h', _, by rw [e0]⟩, Nat.le_succ_of_le fl, Nat.le_succ_of_le u0, fun p hp => hk' _ _ (hΓ.pinH p hp).2.1 (pn p hp), fun b o e => hk' b o (fun q => by rw [q, hΓ.newL] at e; cases e) (kp b o e), fun b hb => ?_, fun y c hc => let ⟨u, hu⟩ := cls y c hc; ⟨u, cellk y c u hc hu⟩, _, hn', fun y d hy => ?_, fun y ys hy => ?_⟩, fun b o hb e => ⟨fun q => ?_, hk' b o (fun q => hb (q ▸ hΓ.hidL)) (k.get b o e)⟩⟩
    · by_cases q : b = Γ.env.locals
      · subst q
        obtain ⟨o, _, _, e, _⟩ := hn'
        exact ⟨o, e⟩
      · obtain ⟨o, e⟩ := hid b hb
        exact ⟨o, hk' b o q e⟩
    · unfold del at hy
      split at hy
      · cases hy
      · rename_i hne
        obtain ⟨w, l, r⟩ := hv0 y d hy
        refine ⟨w, ?_, r.mono vwa⟩
        cases l with
        | loc h1 h2 => exact .loc h1 (by simp [hne, mm y w h2])
        | cell h1 h2 h3 => exact .cell h1 h2 (cellk _ _ _ h2 (isCell_keeps h3 k.get))
    · cases hy
      exact ⟨.loc hk (by simp), hHa, h0a, vs, n, hk' a' _ hLa hat, hrep.mono vwb⟩
    · rcases List.mem_cons.mp q with q | q
      · rw [q, hnew] at e; cases e
      · exact hb q) fun _ _ e => e) hsw

theorem St.freeze {a s x xs} (hs : St Γ ρ (some (x, xs)) a s) : St Γ (up ρ x (.list xs)) none a s := by
  obtain ⟨same, fl, u0, pn, kp, hid, cls, m, hn, hv, hm⟩ := hs
  refine ⟨same, fl, u0, pn, kp, hid, cls, m, hn, fun y d hy => ?_, fun _ _ h => by cases h⟩
  have le : Le (vw s.heap (Γ.hids (some (x, xs)) a)) (vw s.heap (Γ.hids Option.none a)) := vw_more fun b hb => List.mem_cons_of_mem _ hb
  by_cases q : y = x
  · subst q
    simp only [up, if_true, Option.some.injEq] at hy
    subst hy
    obtain ⟨l, o1, n1, vs, n, e, e4⟩ := hm y xs rfl
    exact ⟨_, l, .list (vw_some.mpr ⟨o1, e, rfl⟩) (e4.mono le)⟩
  · simp only [up, if_neg q] at hy
    obtain ⟨v, l, r⟩ := hv y d hy
    exact ⟨v, l, r.mono le⟩
theorem pres_freeze {x xs a s} (hs : St Γ ρ (some (x, xs)) a s) : Pres (Γ.hids (some (x, xs)) a) s (Γ.hids none a) s := fun b o hb e => ⟨fun q => hb (List.mem_cons_of_mem _ q), e⟩
theorem SX.freeze {x xs ss o} (h : SX Γ (up ρ x (.list xs)) none ss o) : SX Γ ρ (some (x, xs)) ss o := fun a s E hs =>
  wpAny_mono (h a s E hs.freeze) (fun f s' h' => h'.ret_of (pres_freeze hs)) fun _ _ e => e
/-- data that hold no object -/
noncomputable def flat : PV → Bool
  | .none | .bool _ | .int _ | .str _ | .val _ => true
  | _ => false
theorem Rep.flat {G G' : View} {d v} (hd : flat d = true) (h : Rep G d v) : Rep G' d v := by
  cases h <;> first | exact Rep.none | exact Rep.bool | exact Rep.int | exact Rep.str | exact Rep.val | cases hd
theorem EV.frozen {x xs e d} (h : EV Γ (up ρ x (.list xs)) Option.none e d) (hd : flat d = true) : EV Γ ρ (some (x, xs)) e d := fun a s E hs =>
  wpAny_mono (h a s E hs.freeze) (fun v s' h' => ⟨h'.1, h'.2.flat hd⟩) fun _ _ e => e
theorem ET.frozen {x xs e b} (h : ET Γ (up ρ x (.list xs)) none e b) : ET Γ ρ (some (x, xs)) e b := fun a s E hs => h a s E hs.freeze

/-- the list that the frame changes -/
theorem mu_name (hΓ : Γ.Ok) {x xs p a s} {E : Value → Shared → Prop} (hs : St Γ ρ (some (x, xs)) a s) : wpAny Γ.M Γ.A (eval (.Name x p) Γ.env) (fun v s' => s' = s ∧ v = .ref a) E s := by
  obtain ⟨m, hn, _, hm⟩ := hs.vars
  have l := (hm x xs rfl).look
  have hk : ∃ q, Γ.env.kindOf x = some q := by
    cases l with
    | loc h1 _ => exact ⟨_, h1⟩
    | cell h1 _ _ => exact h1.elim (fun h => ⟨_, h⟩) fun h => ⟨_, h⟩
  obtain ⟨q, hq⟩ := hk
  have ne : ∀ y : Str, Γ.env.kindOf y = Option.none → (x == y) = false := fun y hy => by
    cases e : x == y with
    | false => rfl
    | true => rw [eq_of_beq e, hy] at hq; cases hq
  refine wpAny_Name ?_ (ne _ hΓ.nodbg.1)
  cases l with
  | loc h1 h2 => exact wpAny_loadName_local hΓ.kind h1 hn h2 ⟨rfl, rfl⟩
  | cell h1 h2 h3 =>
    rcases h1 with h1 | h1
    · exact wpAny_loadName_cell hΓ.kind h1 h2 h3 ⟨rfl, rfl⟩
    · exact wpAny_loadName_free hΓ.kind h1 h2 h3 ⟨rfl, rfl⟩ (ne _ hΓ.nodbg.2)
/-- the list changed -/
theorem St.written (hΓ : Γ.Ok) {a s x xs ys h' ws n} (hs : St Γ ρ (some (x, xs)) a s) (hat : h'.get? a = some { cls := .type "list", data := .seq ws n }) (hsb : Heap.SameBut a s.heap h')
    (hr : Reps (vw s.heap (a :: Γ.hid)) ys ws.toList) : St Γ ρ (some (x, ys)) a { s with heap := h' } ∧ Pres (Γ.hids (some (x, xs)) a) s (Γ.hids (some (x, ys)) a) { s with heap := h' } := by
  obtain ⟨⟨h0, t0, e0⟩, fl, u0, pn, kp, hid, cls, m, hn, hv, hm⟩ := hs
  obtain ⟨l, o1, n1, vs, n0, e, e4⟩ := hm x xs rfl
  have hk : ∀ b o, b ≠ a → s.heap.get? b = some o → h'.get? b = some o := fun b o hb e => (hsb.2 b hb).trans e
  have hLa : Γ.env.locals ≠ a := fun q => o1 (q ▸ hΓ.hidL)
  have hCa : ∀ y c, Γ.env.cells.lookup y = some c → c ≠ a := fun y c hc q => o1 (q ▸ (hΓ.cells y c hc).1)
  have cellk : ∀ y c w, Γ.env.cells.lookup y = some c → s.heap.IsCell c w → h'.IsCell c w := fun y c w hc ⟨o, e, r⟩ => ⟨o, hk c o (hCa y c hc) e, r⟩
  have look : ∀ y w, Look Γ m s.heap y w → Look Γ m h' y w := fun y w l => by
    cases l with
    | loc h1 h2 => exact .loc h1 h2
    | cell h1 h2 h3 => exact .cell h1 h2 (cellk _ _ _ h2 h3)
  have le : Le (vw s.heap (a :: Γ.hid)) (vw h' (a :: Γ.hid)) := fun b o e => by
    obtain ⟨h1, h2, h3⟩ := vw_some.mp e
    exact vw_some.mpr ⟨h1, hk b o (fun q => h1 (q ▸ List.mem_cons_self ..)) h2, h3⟩
  refine ⟨⟨⟨h', t0, by rw [e0]⟩, fl, u0, fun p hp => hk _ _ (fun q => o1 (q ▸ (hΓ.pinH p hp).1)) (pn p hp), fun b o e => hk b o (fun q => by rw [q, n1] at e; cases e) (kp b o e), fun b hb => ?_, fun y c hc => let ⟨u, hu⟩ := cls y c hc; ⟨u, cellk y c u hc hu⟩, m, hn.at' fun o e => hk _ o hLa e, fun y d hy => ?_, fun y zs hy => ?_⟩, fun b o hb e => ⟨hb, hk b o (fun q => hb (q ▸ List.mem_cons_self ..)) e⟩⟩
  · obtain ⟨o, e⟩ := hid b hb
    exact ⟨o, hk b o (fun q => o1 (q ▸ hb)) e⟩
  · obtain ⟨v, l, r⟩ := hv y d hy
    exact ⟨v, look y v l, r.mono le⟩
  · cases hy
    exact ⟨look _ _ l, o1, n1, ws, n, hat, hr.mono le⟩

/-- x.append(e) -/
theorem S1.append (hΓ : Γ.Ok) {x xs px e d apos pos spos pl} (h : EV Γ ρ (some (x, xs)) e d) (hst : isStarred e = false) (hz : xs.length ≤ sizeLine)
    (he : eval (.Call (.Attribute (.Name x px) "append" apos) [e] [] pos) Γ.env = (do
      let ov ← eval (.Name x px) Γ.env
      standAt apos.atName
      let (f, first) ← holding [ov] (getMethod ov "append" pl)
      callWith pos f first (backTo pos (starEach [e] Γ.env)) (backToKw pos (keywordEach [] Γ.env))))
    (hi : interactive Γ.env = false) (hsw : swapsWith (.Call (.Attribute (.Name x px) "append" apos) [e] [] pos) Option.none spos.line Γ.env = pure false) :
    S1 Γ ρ (some (x, xs)) (.Expr (.Call (.Attribute (.Name x px) "append" apos) [e] [] pos) spos) (.next ρ (some (x, xs ++ [d]))) := fun a s E hs => by
  refine wpAny_Expr (methodCall_KW (pl := pl) (wpAny_mono (mu_name hΓ hs) (fun v s1 h1 => ?_) fun _ _ e => e) he) hi hsw
  obtain ⟨rfl, rfl⟩ := h1
  obtain ⟨_, _, _, hm⟩ := hs.vars
  obtain ⟨_, _, _, vs, n, hat, _⟩ := hm x xs rfl
  refine Calls.getMethod_list_append hat rfl rfl ?_
  have hv : EVs Γ ρ (some (x, xs)) [e] [d] := ⟨h, hst, trivial⟩
  refine callWith_any (C := Γ.C) .builtin hv.plain (hv.spliced a _ E _ hs fun vs2 s2 k2 r2 => ?_)
  have hs2 := hs.kept k2
  refine ⟨hs2.ctx hΓ, ?_⟩
  cases r2 with | cons r rr => ?_
  cases rr
  obtain ⟨_, _, _, hm2⟩ := hs2.vars
  obtain ⟨_, _, _, vs', n', hat2, hrep⟩ := hm2 x xs rfl
  have el : xs.length = vs'.size := by rw [hrep.length, Array.length_toList]
  refine wpAny_list_append_plain ⟨n', hat2⟩ (fun h' hl' hsb => ?_) (by omega)
  obtain ⟨n2, hl'⟩ := hl'
  obtain ⟨st, pr⟩ := hs2.written hΓ (ys := xs ++ [d]) hl' hsb (by rw [Array.toList_push]; exact hrep.append (.cons r .nil))
  exact ⟨a, st, (k2.pres _).trans pr⟩
end
end Mine
end -- L8
section -- L9
set_option maxRecDepth 10000
namespace Mine
theorem reps0 {G : View} {vs : List Value} (h : Reps G [] vs) : vs = [] := by cases h; rfl
theorem reps1 {G : View} {d : PV} {vs : List Value} (h : Reps G [d] vs) : ∃ v, vs = [v] ∧ Rep G d v := by
  cases h with | cons h1 h => ?_
  cases h; exact ⟨_, rfl, h1⟩
theorem reps3 {G : View} {d1 d2 d3 : PV} {vs : List Value} (h : Reps G [d1, d2, d3] vs) : ∃ v1 v2 v3, vs = [v1, v2, v3] ∧ Rep G d1 v1 ∧ Rep G d2 v2 ∧ Rep G d3 v3 := by
  cases h with | cons h1 h => ?_
  obtain ⟨v2, v3, rfl, h2, h3⟩ := h.two
  exact ⟨_, _, _, rfl, h1, h2, h3⟩
theorem intsAre_of {G : View} : ∀ {ns : List Int} {vs : List Value}, Reps G (ns.map .int) vs → IntsAre vs ns
  | [], _, h => by rw [reps0 h]; exact .nil
  | n :: ns, _, h => by
    cases h with | cons h1 h => ?_
    cases h1
    exact .cons _ _ (intsAre_of h)
theorem strsAre_of {G : View} : ∀ {ys : List Str} {vs : List Value}, Reps G (ys.map .str) vs → StrsAre vs ys
  | [], _, h => by rw [reps0 h]; exact .nil
  | n :: ns, _, h => by
    cases h with | cons h1 h => ?_
    cases h1
    exact .cons _ _ (strsAre_of h)
theorem of_intsAre {G : View} : ∀ {ns : List Int} {vs : List Value}, IntsAre vs ns → Reps G (ns.map .int) vs
  | _, _, .nil => .nil
  | _, _, .cons n t h => .cons .int (of_intsAre h)
theorem of_strsAre {G : View} : ∀ {ns : List Str} {vs : List Value}, StrsAre vs ns → Reps G (ns.map .str) vs
  | _, _, .nil => .nil
  | _, _, .cons n t h => .cons .str (of_strsAre h)
theorem Rep.int_inv {G : View} {i v} (h : Rep G (.int i) v) : ∃ t, v = .int i t := by cases h; exact ⟨_, rfl⟩
theorem Rep.str_inv {G : View} {i v} (h : Rep G (.str i) v) : ∃ t, v = .str i t := by cases h; exact ⟨_, rfl⟩

section
variable {prog : Program} {w : World} {C : Heap → Prop} {k : Nat}
theorem c_len_list {xs : List PV} (hz : xs.length < 2 ^ 62) : CS prog w C k (.builtin "len") [.list xs] (.int xs.length) := fun A hs s vs E R hC hl hv => by
  obtain ⟨v, rfl, r⟩ := reps1 hv
  obtain ⟨a, ws, n, rfl, ha, hr⟩ := r.list_inv
  have e : xs.length = ws.size := by rw [hr.length, Array.length_toList]
  refine Calls.call_len_list ⟨_, (vw_some.mp ha).2.1, rfl, n, rfl⟩ (by rw [← e]; exact_mod_cast Nat.lt_trans hz (by decide)) ⟨Kp.tok s _ (by omega), ?_⟩
  rw [← e]; exact .int
theorem c_len_tup {xs : List PV} (hz : xs.length < 2 ^ 62) : CS prog w C k (.builtin "len") [.tup xs] (.int xs.length) := fun A hs s vs E R hC hl hv => by
  obtain ⟨v, rfl, r⟩ := reps1 hv
  obtain ⟨a, ws, n, rfl, ha, hr⟩ := r.tup_inv
  have e : xs.length = ws.size := by rw [hr.length, Array.length_toList]
  refine PyProof.Rows.len_tuple (IsTup.of_get (vw_some.mp ha).2.1) (by rw [← e]; exact_mod_cast Nat.lt_trans hz (by decide)) ⟨Kp.tok s _ (by omega), ?_⟩
  rw [← e]; exact .int
theorem c_len_str {x : Str} (hz : x.length < 2 ^ 62) : CS prog w C k (.builtin "len") [.str x] (.int x.length) := fun A hs s vs E R hC hl hv => by
  obtain ⟨v, rfl, r⟩ := reps1 hv
  obtain ⟨t, rfl⟩ := r.str_inv
  exact PyProof.Rows.len_str (by have : (x.length : Int) < 2 ^ 63 := by exact_mod_cast Nat.lt_trans hz (by decide)
                                 omega) ⟨Kp.tok s _ (by omega), .int⟩
theorem c_min2 {a b : Int} : CS prog w C k (.builtin "min") [.int a, .int b] (.int (if b < a then b else a)) := fun A hs s vs E R hC hl hv => by
  obtain ⟨v1, v2, rfl, r1, r2⟩ := hv.two
  obtain ⟨t, rfl⟩ := r1.int_inv
  obtain ⟨u, rfl⟩ := r2.int_inv
  refine wpAny_tk (min_two_ints R.handled fun h' tk hk htk => ⟨⟨hk, ⟨h', tk, rfl⟩, htk⟩, ?_⟩)
  split <;> exact .int
theorem c_max2 {a b : Int} : CS prog w C k (.builtin "max") [.int a, .int b] (.int (if b > a then b else a)) := fun A hs s vs E R hC hl hv => by
  obtain ⟨v1, v2, rfl, r1, r2⟩ := hv.two
  obtain ⟨t, rfl⟩ := r1.int_inv
  obtain ⟨u, rfl⟩ := r2.int_inv
  refine wpAny_tk (max_two_ints R.handled fun h' tk hk htk => ⟨⟨hk, ⟨h', tk, rfl⟩, htk⟩, ?_⟩)
  split <;> exact .int
theorem nums_of {vs : Array Value} {ns : List Int} {xs : Array (Int × Tok)} (hi : IntsAre vs.toList ns) (hx : vs = intItems xs) : xs.toList.map (·.1) = ns := by
  rw [← nums_intItems, ← hx]; exact hi.numsOf
theorem c_sum {ns : List Int} : CS prog w C k (.builtin "sum") [.list (ns.map .int)] (.int ns.sum) := fun A hs s vs E R hC hl hv => by
  obtain ⟨v, rfl, r⟩ := reps1 hv
  obtain ⟨a, ws, n, rfl, ha, hr⟩ := r.list_inv
  have hi := intsAre_of hr
  obtain ⟨xs, hx⟩ := AllInts.items (vs := ws) (by have := hi.allInts; simpa using this)
  have hl' : s.heap.IsList a (intItems xs) := hx ▸ ⟨_, (vw_some.mp ha).2.1, rfl, n, rfl⟩
  refine wpAny_tk (sum_intListG R.handled hl' fun h' tk t' hk htk => ⟨⟨hk, ⟨h', tk, rfl⟩, htk⟩, ?_⟩)
  rw [preSum_eq, List.take_of_length_le (by simp), nums_of hi hx]
  exact .int
theorem c_max_list {ns : List Int} {m : Int} (hm : m ∈ ns) (hge : ∀ x ∈ ns, x ≤ m) : CS prog w C k (.builtin "max") [.list (ns.map .int)] (.int m) := fun A hs s vs E R hC hl hv => by
  obtain ⟨v, rfl, r⟩ := reps1 hv
  obtain ⟨a, ws, n, rfl, ha, hr⟩ := r.list_inv
  have hi := intsAre_of hr
  obtain ⟨xs, hx⟩ := AllInts.items (vs := ws) (by have := hi.allInts; simpa using this)
  have hl' : s.heap.IsList a (intItems xs) := hx ▸ ⟨_, (vw_some.mp ha).2.1, rfl, n, rfl⟩
  have hns := nums_of hi hx
  have hpos : 0 < xs.size := by
    have : ns.length = xs.size := by rw [← hns]; simp
    have := List.length_pos_of_mem hm
    omega
  refine wpAny_tk (max_intList R.handled hl' hpos fun v h' tk hv hk htk => ⟨⟨hk, ⟨h', tk, rfl⟩, htk⟩, ?_⟩)
  obtain ⟨t, rfl⟩ := intItems_at hv
  obtain ⟨h1, h2⟩ := argBest_gt (numAt xs) (xs.size - 1)
  have at_ : ∀ j, j < xs.size → numAt xs j ∈ ns := fun j hj => by
    rw [numAt_eq, hns]
    have hl : j < ns.length := by rw [← hns]; simpa using hj
    rw [List.getD_eq_getElem?_getD, List.getElem?_eq_getElem hl]
    exact List.getElem_mem hl
  obtain ⟨j, hj, rfl⟩ := List.getElem_of_mem hm
  have hj' : j < xs.size := by rw [← hns] at hj; simpa using hj
  have ej : numAt xs j = ns[j] := by
    rw [numAt_eq, hns, List.getD_eq_getElem?_getD, List.getElem?_eq_getElem hj]; rfl
  have e : numAt xs (argBest (fun i j => decide (numAt xs i > numAt xs j)) (xs.size - 1)) = ns[j] := by
    have a1 := h2 j (by omega)
    have a2 := hge _ (at_ _ (by omega : argBest (fun i j => decide (numAt xs i > numAt xs j)) (xs.size - 1) < xs.size))
    omega
  rw [e]
  exact .int
theorem c_tuple_list {xs : List PV} (hz : xs.length ≤ sizeLine) : CS prog w C k (.type "tuple") [.list xs] (.tup xs) := fun A hs s vs E R hC hl hv => by
  obtain ⟨v, rfl, r⟩ := reps1 hv
  obtain ⟨a, ws, n, rfl, ha, hr⟩ := r.list_inv
  have e : xs.length = ws.size := by rw [hr.length, Array.length_toList]
  refine call_tuple_list ⟨_, (vw_some.mp ha).2.1, rfl, n, rfl⟩ (fun h' hk => ?_) (by omega)
  have k1 : Kp s { s with heap := h' } := Kp.ofh hk
  exact ⟨k1.trans (push_kp { s with heap := h' } _), new_tup (s := { s with heap := h' }) (hl.kp k1) (hr.mono (k1.le _))⟩
theorem c_join {sep : Str} {ys : List Str} (hok : (ys.map (·.length)).sum + ys.length * sep.length ≤ 16777216) : CS prog w C k (.builtin "str.join") [.str sep, .list (ys.map .str)] (.str (Txt.join sep ys)) := fun A hs s vs E R hC hl hv => by
  obtain ⟨v1, v2, rfl, r1, r2⟩ := hv.two
  obtain ⟨t, rfl⟩ := r1.str_inv
  obtain ⟨a, ws, n, rfl, ha, hr⟩ := r2.list_inv
  refine wpAny_tk (join_list ⟨_, (vw_some.mp ha).2.1, rfl, n, rfl⟩ (strsAre_of hr) hok fun t' k htk => ⟨Kp.tok s _ htk, .str⟩)
open Builtin Builtin.Str in
theorem strsFrom_are : ∀ (l : List Str) (k : Nat), StrsAre (strsFrom k l) l
  | [], k => .nil
  | x :: r, k => by
    rw [strsFrom_eq]
    have := strsFrom_are r (k + 1)
    rw [strsFrom_eq] at this
    exact .cons _ _ this
open Builtin Builtin.Str in
theorem c_split {x y : Str} (hy : (y.length == 0) = false) (h1 : (decide (x.length < y.length) || decide (strKind x < strKind y)) = false) (hf : (occurrences x y 0 x.length (x.length + 1)).isEmpty = false)
    (hx : x.length ≤ sizeLine) (hz : (partsBetween x (occurrences x y 0 x.length (x.length + 1)) y.length).length ≤ sizeLine) :
    CS prog w C k (.builtin "str.split") [.str x, .str y] (.list ((partsBetween x (occurrences x y 0 x.length (x.length + 1)) y.length).map .str)) := fun A hs s vs E R hC hl hv => by
  obtain ⟨v1, v2, rfl, r1, r2⟩ := hv.two
  obtain ⟨t, rfl⟩ := r1.str_inv
  obtain ⟨u, rfl⟩ := r2.str_inv
  refine wpAny_tk (call_meets F.slot_str_split (typeIs_str _ _ _) F.entry_str_split (F.args_str_split_2 _ _) (meets_str_split_sep x y t u h1 hy hf hx hz) ?_)
  intro htk
  refine ⟨Kp.of (fun b o e => Heap.get?_push_of_some _ e) htk, ?_⟩
  refine new_list (s := s) hl (of_strsAre ?_)
  exact strsFrom_are _ _
open Builtin Builtin.Str in
/-- replace, of tokens that are two -/
theorem rep_ {A : Around} {E : Value → Shared → Prop} {s : Shared} {x y z : Str} {t u v : Tok} (hu : u ≠ 0) (hv : v ≠ 0) (huv : u ≠ v) (hb : x.length + (x.length + 1) * z.length ≤ 16777216) (hnb : NoneBooked s.heap) :
    wpAny (model prog w) A (call (.builtin "str.replace") [.str x t, .str y u, .str z v]) (fun v s' => Kp s s' ∧ ∃ t', v = .str (Txt.replace x y z) t') E s :=
  wpAny_tk (SC.replaceA hu hv huv hb (fun t' k htk => ⟨Kp.tok s _ htk, t', rfl⟩) hnb)
end
end Mine
end -- L9
section -- L10
set_option maxRecDepth 10000
namespace Mine
theorem Reps.drop {G : View} : ∀ {ds vs} (n : Nat), Reps G ds vs → Reps G (ds.drop n) (vs.drop n)
  | _, _, 0, h => h
  | _, _, n + 1, .nil => .nil
  | _, _, n + 1, .cons _ r => Reps.drop n r
theorem Reps.take {G : View} : ∀ {ds vs} (n : Nat), Reps G ds vs → Reps G (ds.take n) (vs.take n)
  | _, _, 0, h => by simp only [List.take_zero]; exact .nil
  | _, _, n + 1, .nil => .nil
  | _, _, n + 1, .cons h r => .cons h (Reps.take n r)
theorem Reps.reverse {G : View} : ∀ {ds vs}, Reps G ds vs → Reps G ds.reverse vs.reverse
  | _, _, .nil => .nil
  | _, _, .cons h r => by rw [List.reverse_cons, List.reverse_cons]; exact (Reps.reverse r).append (.cons h .nil)
theorem Reps.set {G : View} : ∀ {ds vs} (n : Nat) {d v}, Reps G ds vs → Rep G d v → Reps G (ds.set n d) (vs.set n v)
  | _, _, _, _, _, .nil, _ => .nil
  | _, _, 0, _, _, .cons h r, q => .cons q r
  | _, _, n + 1, _, _, .cons h r, q => .cons h (Reps.set n r q)
theorem Reps.flatten {G : View} {ds vs} (n : Nat) (h : Reps G ds vs) : Reps G (List.replicate n ds).flatten (List.replicate n vs).flatten := by
  induction n with
  | zero => exact .nil
  | succ n ih => rw [List.replicate_succ, List.replicate_succ, List.flatten_cons, List.flatten_cons]; exact h.append ih

mutual
noncomputable def ofPy : PyData → PV
  | .none => .none
  | .bool b => .bool b
  | .int i => .int i
  | .str x => .str x
  | .list xs => .list (ofPys xs)
  | .tuple xs => .tup (ofPys xs)
  | .dict _ => .none
noncomputable def ofPys : List PyData → List PV
  | [] => []
  | x :: r => ofPy x :: ofPys r
end
mutual
theorem reads_of {h : Heap} {hs : List Addr} : ∀ (d : PyData) (v : Value), d.canLay0 = true → Rep (vw h hs) (ofPy d) v → ∃ as, Reads h v d as
  | .none, _, _, r => by rw [ofPy] at r; cases r; exact ⟨_, .none⟩
  | .bool b, _, _, r => by rw [ofPy] at r; cases r; exact ⟨_, .bool _⟩
  | .int i, _, _, r => by rw [ofPy] at r; cases r; exact ⟨_, .int _ _⟩
  | .str x, _, _, r => by rw [ofPy] at r; cases r; exact ⟨_, .str _ _⟩
  | .list xs, _, hc, r => by
    rw [ofPy] at r
    obtain ⟨a, vs, n, rfl, ha, hr⟩ := r.list_inv
    obtain ⟨as, q⟩ := readsAll_of xs vs.toList (by simpa [PyData.canLay0] using hc) hr
    exact ⟨_, .list (vw_some.mp ha).2.1 rfl rfl q⟩
  | .tuple xs, _, hc, r => by
    rw [ofPy] at r
    obtain ⟨a, vs, n, rfl, ha, hr⟩ := r.tup_inv
    obtain ⟨as, q⟩ := readsAll_of xs vs.toList (by simpa [PyData.canLay0] using hc) hr
    exact ⟨_, .tuple (vw_some.mp ha).2.1 rfl rfl q⟩
  | .dict _, _, hc, _ => by simp [PyData.canLay0] at hc
theorem readsAll_of {h : Heap} {hs : List Addr} : ∀ (ds : List PyData) (vs : List Value), PyData.canLayAll0 ds = true → Reps (vw h hs) (ofPys ds) vs → ∃ as, ReadsAll h vs ds as
  | [], _, _, r => by rw [ofPys] at r; rw [reps0 r]; exact ⟨_, .nil⟩
  | d :: ds, _, hc, r => by
    rw [ofPys] at r
    cases r with | cons r1 r => ?_
    have hc' : d.canLay0 = true ∧ PyData.canLayAll0 ds = true := by simpa [PyData.canLayAll0] using hc
    obtain ⟨as, q⟩ := reads_of d _ hc'.1 r1
    obtain ⟨bs, q'⟩ := readsAll_of ds _ hc'.2 r
    exact ⟨_, .cons q q'⟩
end
section
variable {prog : Program} {w : World} {C : Heap → Prop} {k : Nat}
theorem C2.eq_py {d1 d2 : PyData} (h1 : d1.canLay0 = true) (h2 : d2.canLay0 = true) (hd : d1.depth ≤ 40) : C2 prog w .Eq (ofPy d1) (ofPy d2) (PyData.eqv d1 d2) := fun A k hs s v1 v2 E R L r1 r2 => by
  obtain ⟨as, q1⟩ := reads_of d1 v1 h1 r1
  obtain ⟨bs, q2⟩ := reads_of d2 v2 h2 r2
  exact SeqAt.compareEq_reads q1 q2 h1 h2 (by have := R.units; have := R.room; omega) ⟨Kp.refl s, rfl⟩
theorem C2.ne_py {d1 d2 : PyData} (h1 : d1.canLay0 = true) (h2 : d2.canLay0 = true) (hd : d1.depth ≤ 40) : C2 prog w .NotEq (ofPy d1) (ofPy d2) (!PyData.eqv d1 d2) := fun A k hs s v1 v2 E R L r1 r2 => by
  obtain ⟨as, q1⟩ := reads_of d1 v1 h1 r1
  obtain ⟨bs, q2⟩ := reads_of d2 v2 h2 r2
  exact SeqAt.compareNe_reads q1 q2 h1 h2 (by have := R.units; have := R.room; omega) ⟨Kp.refl s, rfl⟩
theorem ofPys_ints (ns : List Int) : ofPys (ns.map .int) = ns.map .int := by
  induction ns with
  | nil => rfl
  | cons n r ih => rw [List.map_cons, ofPys, ih]; rfl
theorem canLay_ints (ns : List Int) : PyData.canLayAll0 (ns.map .int) = true := by
  induction ns with
  | nil => rfl
  | cons n r ih => rw [List.map_cons, PyData.canLayAll0, ih]; rfl
theorem depth_ints (ns : List Int) : PyData.depthAll (ns.map .int) = 0 := by
  induction ns with
  | nil => rfl
  | cons n r ih => rw [List.map_cons, PyData.depthAll, ih]; rfl
theorem eqv_ints (ns ms : List Int) : PyData.eqvAll (ns.map .int) (ms.map .int) = decide (ns = ms) := by
  induction ns generalizing ms with
  | nil => cases ms <;> simp [PyData.eqvAll]
  | cons n r ih =>
    cases ms with
    | nil => simp [PyData.eqvAll]
    | cons m q =>
      rw [List.map_cons, List.map_cons, PyData.eqvAll, ih]
      show ((n == m) && decide (r = q)) = _
      by_cases h1 : n = m <;> by_cases h2 : r = q <;> simp [h1, h2]
theorem C2.eq_ints {ns ms : List Int} : C2 prog w .Eq (.list (ns.map .int)) (.list (ms.map .int)) (decide (ns = ms)) := by
  have := C2.eq_py (prog := prog) (w := w) (d1 := .list (ns.map .int)) (d2 := .list (ms.map .int)) (by show PyData.canLayAll0 _ = true; exact canLay_ints _) (by show PyData.canLayAll0 _ = true; exact canLay_ints _) (by show PyData.depthAll _ + 1 ≤ 40; rw [depth_ints]; omega)
  rw [ofPy, ofPy, ofPys_ints, ofPys_ints, PyData.eqv, eqv_ints] at this
  exact this
theorem C2.ne_ints {ns ms : List Int} : C2 prog w .NotEq (.list (ns.map .int)) (.list (ms.map .int)) (!decide (ns = ms)) := by
  have := C2.ne_py (prog := prog) (w := w) (d1 := .list (ns.map .int)) (d2 := .list (ms.map .int)) (by show PyData.canLayAll0 _ = true; exact canLay_ints _) (by show PyData.canLayAll0 _ = true; exact canLay_ints _) (by show PyData.depthAll _ + 1 ≤ 40; rw [depth_ints]; omega)
  rw [ofPy, ofPy, ofPys_ints, ofPys_ints, PyData.eqv, eqv_ints] at this
  exact this
/-- a pair of a tuple of ints and an int -/
theorem C2.eq_norm {ns ms : List Int} {a b : Int} : C2 prog w .Eq (.tup [.tup (ns.map .int), .int a]) (.tup [.tup (ms.map .int), .int b]) (decide (ns = ms) && decide (a = b)) := by
  have := C2.eq_py (prog := prog) (w := w) (d1 := .tuple [.tuple (ns.map .int), .int a]) (d2 := .tuple [.tuple (ms.map .int), .int b])
    (by simp [PyData.canLay0, PyData.canLayAll0, canLay_ints]) (by simp [PyData.canLay0, PyData.canLayAll0, canLay_ints]) (by simp [PyData.depth, PyData.depthAll, depth_ints])
  simp only [ofPy, ofPys, ofPys_ints, PyData.eqv, PyData.eqvAll, eqv_ints, Bool.and_true] at this
  have e : (a == b) = decide (a = b) := by by_cases h : a = b <;> simp [h]
  rw [e] at this
  exact this
theorem C2.ne_norm {ns ms : List Int} {a b : Int} : C2 prog w .NotEq (.tup [.tup (ns.map .int), .int a]) (.tup [.tup (ms.map .int), .int b]) (!(decide (ns = ms) && decide (a = b))) := by
  have := C2.ne_py (prog := prog) (w := w) (d1 := .tuple [.tuple (ns.map .int), .int a]) (d2 := .tuple [.tuple (ms.map .int), .int b])
    (by simp [PyData.canLay0, PyData.canLayAll0, canLay_ints]) (by simp [PyData.canLay0, PyData.canLayAll0, canLay_ints]) (by simp [PyData.depth, PyData.depthAll, depth_ints])
  simp only [ofPy, ofPys, ofPys_ints, PyData.eqv, PyData.eqvAll, eqv_ints, Bool.and_true] at this
  have e : (a == b) = decide (a = b) := by by_cases h : a = b <;> simp [h]
  rw [e] at this
  exact this
/-- lists of triples of ints -/
noncomputable def trip (p : Int × Int × Int) : PV := .tup [.int p.1, .int p.2.1, .int p.2.2]
noncomputable def tripD (p : Int × Int × Int) : PyData := .tuple [.int p.1, .int p.2.1, .int p.2.2]
theorem ofPys_trips (l : List (Int × Int × Int)) : ofPys (l.map tripD) = l.map trip := by
  induction l with
  | nil => rfl
  | cons n r ih => rw [List.map_cons, ofPys, ih]; rfl
theorem canLay_trips (l : List (Int × Int × Int)) : PyData.canLayAll0 (l.map tripD) = true := by
  induction l with
  | nil => rfl
  | cons n r ih => rw [List.map_cons, PyData.canLayAll0, ih]; rfl
theorem depth_trips (l : List (Int × Int × Int)) : PyData.depthAll (l.map tripD) ≤ 1 := by
  induction l with
  | nil => exact Nat.zero_le _
  | cons n r ih => rw [List.map_cons, PyData.depthAll]; exact Nat.max_le.mpr ⟨Nat.le_refl _, ih⟩
theorem C2.ne_trips {l l' : List (Int × Int × Int)} (h : l = l') : C2 prog w .NotEq (.list (l.map trip)) (.list (l'.map trip)) false := by
  subst h
  have hc : PyData.canLay0 (.list (l.map tripD)) = true := by show PyData.canLayAll0 _ = true; exact canLay_trips l
  have := C2.ne_py (prog := prog) (w := w) (d1 := .list (l.map tripD)) (d2 := .list (l.map tripD)) hc hc (by show PyData.depthAll _ + 1 ≤ 40; have := depth_trips l; omega)
  rw [ofPy, ofPys_trips, SeqAt.eqv_refl _ hc] at this
  exact this
end
end Mine
end -- L10
section -- L11
set_option maxRecDepth 10000
namespace Mine
section
variable {Γ : Fx} {ρ : Loc} {mu : Mu}
/-- a slice's part -/
inductive PT (Γ : Fx) (ρ : Loc) (mu : Mu) : Option Expr → Option Int → Prop
  | no : PT Γ ρ mu none none
  | yes {e i} : EV Γ ρ mu e (.int i) → PT Γ ρ mu (some e) (some i)
theorem PT.ev {e i} (h : PT Γ ρ mu e i) : ∀ a s E, St Γ ρ mu a s → wpAny Γ.M Γ.A (evalPart e Γ.env) (fun v s' => Kp s s' ∧ IsPart v i) E s := fun a s E hs => by
  cases h with
  | no => rw [evalPart_none]; exact wpAny_pure ⟨Kp.refl s, .none⟩
  | yes h =>
    refine wpAny_mono (h a s E hs) (fun v s' h' => ⟨h'.1, ?_⟩) fun _ _ e => e
    obtain ⟨t, rfl⟩ := h'.2.int_inv
    exact .int _ _
theorem EV.slice (hΓ : Γ.Ok) {e lo up st p pos xs ys i j k} (h : EV Γ ρ mu e (.list xs)) (hl : PT Γ ρ mu lo i) (hu : PT Γ ρ mu up j) (hst : PT Γ ρ mu st k) (h0 : k ≠ some 0)
    (hp : ∀ G (items : Array Value), Reps G xs items.toList → Reps G ys (slicePick items i j k).toList) (hz : xs.length ≤ sizeLine)
    (hs' : ∀ o v, subscripted (.Slice lo up st p) false o v = operate [v, o] (getItem o v)) : EV Γ ρ mu (.Subscript e (.Slice lo up st p) pos) (.list ys) := fun a s E hs =>
  PyProof.Rows.Subscript_ (wpAny_mono (h a s E hs) (fun v1 s1 hv1 => by
    have hs1 := hs.kept hv1.1
    refine wpAny_Slice (wpAny_mono (hl.ev a s1 E hs1) (fun l s2 h2 => wpAny_mono (hu.ev a s2 E (hs1.kept h2.1)) (fun u s3 h3 => wpAny_mono (hst.ev a s3 E ((hs1.kept h2.1).kept h3.1)) (fun t s4 h4 => ?_) fun _ _ e => e) fun _ _ e => e) fun _ _ e => e)
    have k4 : Kp s1 s4 := (h2.1.trans h3.1).trans h4.1
    have hs4 := hs1.kept k4
    obtain ⟨b, vs, n, rfl, hb, hr⟩ := (hv1.2.mono (k4.le _)).list_inv
    have hat := (vw_some.mp hb).2.1
    have el : xs.length = vs.size := by rw [hr.length, Array.length_toList]
    have hlist : (s4.heap.push { cls := .type "slice", data := .fields #[l, u, t] }).IsList b vs := ⟨_, Heap.get?_push_of_some _ hat, rfl, n, rfl⟩
    refine tail_any (T := "list") (ops := [.ref s4.heap.objs.size, .ref b]) hlist.typeIs slot_list_getitem.lookup ?_ (hs' _ _)
    refine wpAny_getItem_list_slice hlist (Heap.IsSliceOf.new ..) h2.2 h3.2 h4.2 h0 ?_ (by omega)
    have kp5 := push_kp s4 { cls := .type "slice", data := .fields #[l, u, t] }
    refine ⟨((hv1.1.trans k4).trans kp5).trans (push_kp { s4 with heap := s4.heap.push { cls := .type "slice", data := .fields #[l, u, t] } } _), ?_⟩
    exact new_list (s := { s4 with heap := s4.heap.push { cls := .type "slice", data := .fields #[l, u, t] } }) (hs4.live.kp kp5) ((hp _ _ hr).mono (kp5.le _))) fun _ _ e => e)

theorem pick_from {G : View} {xs : List PV} (n : Nat) : ∀ (items : Array Value), Reps G xs items.toList → Reps G (xs.drop n) (slicePick items (some (n : Int)) none none).toList := fun items h => by
  rw [slicePick_from']; exact h.drop n
theorem pick_init {G : View} {xs : List PV} : ∀ (items : Array Value), Reps G xs items.toList → Reps G (xs.take (xs.length - 1)) (slicePick items none (some (-1)) none).toList := fun items h => by
  have e := slicePick_butLast items 1 (by decide)
  rw [show (-((1 : Nat) : Int)) = (-1 : Int) by rfl] at e
  rw [e, h.length, Array.length_toList]; exact h.take _
theorem pick_rev {G : View} {xs : List PV} : ∀ (items : Array Value), Reps G xs items.toList → Reps G xs.reverse (slicePick items none none (some (-1))).toList := fun items h => by
  rw [krv_pick]; exact h.reverse
theorem pick_run {G : View} {xs : List PV} (a b : Nat) (ha : a ≤ xs.length) (hb : b ≤ xs.length) : ∀ (items : Array Value), Reps G xs items.toList → Reps G ((xs.drop a).take (b - a)) (slicePick items (some (a : Int)) (some (b : Int)) none).toList := fun items h => by
  have e : xs.length = items.size := by rw [h.length, Array.length_toList]
  rw [slicePick_plain]
  simp only [Option.elim, clipAt_nat]
  rw [Nat.min_eq_left (by omega), Nat.min_eq_left (by omega)]
  exact (h.drop a).take _
end

section
variable {prog : Program} {w : World} {A : Around} {E : Value → Shared → Prop} {s : Shared}
/-- a list's place written -/
theorem setItem_plain {l : Addr} {items : Array Value} {n : Nat} {k : Int} {t : Tok} {v : Value} {Q : Unit → Shared → Prop} (hl : s.heap.get? l = some { cls := .type "list", data := .seq items n })
    (h0 : 0 ≤ k) (hfit : k < 2 ^ 63) (hn : k < items.size)
    (hQ : ∀ h', (∃ n', h'.get? l = some { cls := .type "list", data := .seq (items.setIfInBounds k.toNat v) n' }) → Heap.SameBut l s.heap h' → Q () { s with heap := h' }) :
    wpAny (model prog w) A (setItem (.ref l) (.int k t) v) Q E s := by
  have hL : s.heap.IsList l items := ⟨_, hl, rfl, n, rfl⟩
  unfold setItem
  try with_reducible refine wpAny_holding ?_
  first | refine wpAny_bind (wpAny_pure ?_) | skip
  refine wpAny_bind (wpAny_sequenceKey hL.typeIs (by decide) ?_)
  refine wpAny_bind (wpAny_callSpecial?_slot (name := Str.ofString "__setitem__") hL.typeIs slot_list_setitem (wpAny_call_entry slot_list_setitem hL.typeIs entry_list_setitem ?_ (args_list_setitem _ _ _)))
  show wpAny _ _ (Builtin.List.listSubscript? (.int k t) >>= _) _ _ s
  refine wpAny_bind (wpAny_listSubscript_int (fitsIndex_of h0 hfit) ?_)
  clear hfit
  obtain ⟨j, rfl⟩ := Int.eq_ofNat_of_zero_le h0
  have hj : j < items.size := by omega
  have hx' : items[j]? = some items[j] := Array.getElem?_eq_getElem hj
  show wpAny _ _ ((seqItemAt l j >>= fun r => pure (r.map (j, ·))) >>= _) _ _ s
  refine wpAny_bind (wpAny_bind (wpAny_seqItemAt hl rfl (wpAny_pure ?_)))
  rw [hx']
  show wpAny _ _ (setSeqItemAt l j v >>= _) _ _ s
  refine wpAny_bind (wpAny_setSeqItemAt hl rfl ?_)
  have fin := hQ (s.heap.update l (Obj.mapSeq (·.setIfInBounds j v))) ⟨_, Heap.get?_update_self _ hl rfl⟩ (Heap.SameBut.update ..)
  first
    | exact wpAny_bind (wpAny_pure (wpAny_pure ⟨.none, rfl, wpAny_pure fin⟩))
    | exact wpAny_pure ⟨.none, rfl, wpAny_pure fin⟩
end
section
variable {Γ : Fx} {ρ : Loc} {mu : Mu}
/-- x[i] = e of the list that the frame changes -/
theorem S1.setmu (hΓ : Γ.Ok) {x xs px i pos' value pos d k} (h : EV Γ ρ (some (x, xs)) value d) (hi : EV Γ ρ (some (x, xs)) i (.int k)) (h0 : 0 ≤ k) (hk : k.toNat < xs.length) (hz : xs.length < 2 ^ 62)
    (hsw : swapsWith value (some (.Subscript (.Name x px) i pos')) pos.line Γ.env = pure false) :
    S1 Γ ρ (some (x, xs)) (.Assign [.Subscript (.Name x px) i pos'] value pos) (.next ρ (some (x, xs.set k.toNat d))) := fun a s E hs => by
  refine wpAny_Assign_Subscript (wpAny_mono (h a s E hs) (fun v s1 h1 => ?_) fun _ _ e => e) hsw
  have hs1 := hs.kept h1.1
  refine wpAny_mono (mu_name hΓ hs1) (fun o s2 h2 => ?_) fun _ _ e => e
  obtain ⟨rfl, rfl⟩ := h2
  refine wpAny_mono (hi a _ E hs1) (fun iv s3 h3 => ?_) fun _ _ e => e
  obtain ⟨t, rfl⟩ := h3.2.int_inv
  have hs3 := hs1.kept h3.1
  obtain ⟨_, _, _, hm⟩ := hs3.vars
  obtain ⟨_, _, _, vs, n, hat, hrep⟩ := hm x xs rfl
  have el : xs.length = vs.size := by rw [hrep.length, Array.length_toList]
  refine setItem_plain hat h0 (by omega) (by omega) fun h' hl' hsb => ?_
  obtain ⟨n', hl'⟩ := hl'
  obtain ⟨st, pr⟩ := hs3.written hΓ (ys := xs.set k.toNat d) hl' hsb (by rw [Array.toList_setIfInBounds]; exact hrep.set _ (h1.2.mono (h3.1.le _)))
  exact ⟨a, st, ((h1.1.trans h3.1).pres _).trans pr⟩
end
end Mine
end -- L11
section -- L12
set_option maxRecDepth 10000
namespace Mine
noncomputable def reps (x : Str) (n : Nat) : Str := ⟨(List.replicate n x.cps.toList).flatten.toArray⟩
theorem fold_flat (x : Array Nat) : ∀ (n : Nat) (acc : Array Nat), (List.replicate n x).foldl (· ++ ·) acc = acc ++ (List.replicate n x.toList).flatten.toArray
  | 0, acc => by simp
  | n + 1, acc => by rw [List.replicate_succ, List.foldl_cons, fold_flat x n, List.replicate_succ, List.flatten_cons, ← Array.toList_inj]; simp
theorem fold_flatV (x : Array Value) : ∀ (n : Nat) (acc : Array Value), (List.replicate n x).foldl (· ++ ·) acc = acc ++ (List.replicate n x.toList).flatten.toArray
  | 0, acc => by simp
  | n + 1, acc => by rw [List.replicate_succ, List.foldl_cons, fold_flatV x n, List.replicate_succ, List.flatten_cons, ← Array.toList_inj]; simp
section
variable {prog : Program} {w : World} {C : Heap → Prop} {k : Nat}
theorem B2.mul_str {x : Str} {n : Nat} (hx : x.length ≤ 10) (hn : n ≤ 100000) : B2 prog w .Mult (.str x) (.int n) (.str (reps x n)) := fun A k hs s v1 v2 E R L h1 h2 => by
  obtain ⟨t, rfl⟩ := h1.str_inv
  obtain ⟨u, rfl⟩ := h2.int_inv
  have hz : sizeLine = 16777216 := by decide
  have hm : x.length * n ≤ 1000000 := Nat.le_trans (Nat.mul_le_mul hx hn) (by decide)
  refine PySem.P.mul_str (by
      have h1 : ¬ (n : Int) < -(2 ^ 63) := by omega
      have h2 : ¬ (n : Int) ≥ 2 ^ 63 := by omega
      rw [decide_eq_false h1, decide_eq_false h2]; rfl) (fun h1 h2 => ?_) (fun h1 h2 => ?_) ?_
  · have h3 : (1 : Int) ≤ (n : Int) := by omega
    have h4 : (10 : Int) ≤ (2 ^ 63 - 1) / (n : Int) := by
      rw [Int.le_ediv_iff_mul_le (by omega)]
      omega
    have : (x.length : Int) ≤ 10 := by omega
    omega
  · unfold Builtin.Str.tooLong
    rw [Int.toNat_natCast]
    exact decide_eq_false (by omega)
  · by_cases h1 : (n : Int) < 1
    · rw [if_pos h1]
      refine ⟨by decide, Kp.tok s _, ?_⟩
      have : n = 0 := by omega
      subst this
      exact .str
    · rw [if_neg h1]
      by_cases h2 : ((n : Int) == 1 || x.length == 0) = true
      · rw [if_pos h2]
        refine ⟨Kp.refl s, ?_⟩
        have e : reps x n = x := by
          rcases Bool.or_eq_true_iff.mp h2 with h | h
          · have : n = 1 := by have := eq_of_beq h; omega
            subst this
            unfold reps; simp
          · have hx0 : x.cps.toList = [] := by
              have := eq_of_beq h
              exact List.eq_nil_of_length_eq_zero (by simpa [Str.length] using this)
            unfold reps
            rw [hx0]
            have : (List.replicate n ([] : List Nat)).flatten = [] := by simp
            rw [this]
            cases x with | mk c => simp at hx0; rw [hx0]
        rw [e]; exact .str
      · rw [if_neg h2, Int.toNat_natCast, fold_flat]
        refine ⟨?_, Kp.tok s _, ?_⟩
        · show (#[] ++ _ : Array Nat).size ≤ _
          simp only [Array.size_append, List.size_toArray, List.length_flatten, List.map_replicate, List.sum_replicate_nat, Array.length_toList]
          have : x.length = x.cps.size := rfl
          simp only [List.size_toArray, List.length_nil, Nat.zero_add]
          rw [Nat.mul_comm, ← this]; omega
        · have e : (#[] ++ (List.replicate n x.cps.toList).flatten.toArray : Array Nat) = (List.replicate n x.cps.toList).flatten.toArray := by simp
          rw [e]; exact .str
theorem mul_list_ {A : Around} {E : Value → Shared → Prop} {s : Shared} {l : Addr} {items : Array Value} {m : Nat} {x : Int} {u : Tok} {Q : Value → Shared → Prop} (hl : s.heap.get? l = some { cls := .type "list", data := .seq items m })
    (hlo : -(2 ^ 63 : Int) ≤ x) (hhi : x < 2 ^ 63) (hsz : items.size * x.toNat ≤ 2 ^ 24)
    (h : Q (.ref s.heap.objs.size) { s with heap := s.heap.push { cls := .type "list", data := .seq (List.foldl (fun x1 x2 => x1 ++ x2) #[] (List.replicate (if items.isEmpty = true then 0 else x.toNat) items)) } }) :
    wpAny (model prog w) A (binaryOp .Mult (.ref l) (.int x u)) Q E s :=
  wpAny_binaryOp_repeat_ref (T := "list") (U := "int") (by decide) ⟨_, hl, rfl⟩ (fun s' => typeIs_int s' x u) noFill_list_mul F.fills_int_mul F.slot_int_rmul repeat_list F.slot_int_index.lookup
    (call_meets F.slot_int_rmul (typeIs_int s x u) F.entry_int_rmul (F.args_int_rmul_2 _ _) (int___rmul___int_list x u l items m)
      ⟨hl, rfl, ⟨_, hl, rfl⟩, call_meets F.slot_list_mul ⟨_, hl, rfl⟩ F.entry_list_mul (F.args_list_mul_2 _ _)
        (AutoListH.list___mul___list_int_3 l items m x u (by simp [Builtin.List.listFitsIndex]; omega) (by omega) (by simp [Builtin.List.listTooLong, sizeLine]; omega))
        ⟨hl, h⟩⟩)
theorem B2.mul_list {xs : List PV} {n : Nat} (hx : xs.length ≤ 10) (hn : n ≤ 100000) : B2 prog w .Mult (.list xs) (.int n) (.list (List.replicate n xs).flatten) := fun A k hs s v1 v2 E R L h1 h2 => by
  obtain ⟨l, items, m, rfl, ha, hr⟩ := h1.list_inv
  obtain ⟨u, rfl⟩ := h2.int_inv
  have hl := (vw_some.mp ha).2.1
  have el : xs.length = items.size := by rw [hr.length, Array.length_toList]
  have hm : items.size * n ≤ 1000000 := by rw [← el]; exact Nat.le_trans (Nat.mul_le_mul hx hn) (by decide)
  refine mul_list_ hl (by omega) (by omega) (by rw [Int.toNat_natCast]; omega) ⟨push_kp s _, ?_⟩
  refine new_list L ?_
  rw [fold_flatV]
  by_cases hem : items.isEmpty = true
  · have : items = #[] := Array.isEmpty_iff.mp hem
    subst this
    have hx0 : xs = [] := List.eq_nil_of_length_eq_zero (by simpa using el)
    subst hx0
    have e : (List.replicate n ([] : List PV)).flatten = [] := by simp
    rw [e]
    simpa using Reps.nil
  · rw [if_neg hem, Int.toNat_natCast]
    have := hr.flatten n
    simpa using this
theorem c_count {ns : List Int} {m : Int} : CS prog w C k (.builtin "list.count") [.list (ns.map .int), .int m] (.int (ns.count m)) := fun A hs s vs E R hC hl hv => by
  obtain ⟨v1, v2, rfl, r1, r2⟩ := hv.two
  obtain ⟨l, items, n, rfl, ha, hr⟩ := r1.list_inv
  obtain ⟨u, rfl⟩ := r2.int_inv
  have hat := (vw_some.mp ha).2.1
  have hi := intsAre_of hr
  let e : Value → Bool := fun y => match y with | .int a _ => a == m | _ => false
  have he : ∀ y, y ∈ items → MeetsSeq.EqGives y (.int m u) (e y) := fun y hy => by
    obtain ⟨a, t, rfl⟩ := hi.allInts y (by simpa using hy)
    exact MeetsSeq.EqGives.int a m t u
  refine call_meets F.slot_list_count ⟨_, hat, rfl⟩ F.entry_list_count (F.args_list_count_2 _ _) (MeetsSeq.list_count l items n _ e he) ⟨hat, Kp.tok s _, ?_⟩
  have ec : ∀ (vs : List Value) (ns : List Int), IntsAre vs ns → vs.countP e = ns.count m := fun vs ns h => by
    induction h with
    | nil => rfl
    | cons a t h ih =>
      rw [List.countP_cons, List.count_cons, ih]
  rw [ec _ _ hi]
  exact .int
end
end Mine
end -- L12
section -- L13
set_option maxRecDepth 10000
namespace Mine
noncomputable def forBody : FuncBody → Nat → List Stmt
  | .stmts l, n => match l[n]? with | some (.For _ _ b _ _) => b | _ => []
  | _, _ => []
theorem up_same (ρ : Loc) (x : Str) (d : PV) : up ρ x d x = some d := if_pos rfl
theorem up_ne (ρ : Loc) {x y : Str} (d : PV) (h : y ≠ x) : up ρ x d y = ρ y := if_neg h
theorem del_ne (ρ : Loc) {x y : Str} (h : y ≠ x) : del ρ x y = ρ y := if_neg h
theorem no_mu {x : Str} : ∀ y xs, (none : Mu) = some (y, xs) → y ≠ x := fun _ _ q => by cases q
theorem mu_ne {x z : Str} {zs : List PV} (h : (z == x) = false) : ∀ y xs, (some (z, zs) : Mu) = some (y, xs) → y ≠ x := fun _ _ q e => by cases q; rw [e] at h; simp at h
theorem ret_ne {d : PV} : ∀ ρ' mu', Out.ret d ≠ .next ρ' mu' := fun _ _ e => by cases e

noncomputable def CellsAre (Γ : Fx) (scope : Scope) (x : Str) : List (Str × Addr) → Prop
  | [] => True
  | p :: r => (Γ.env.cells.lookup p.1 = some p.2 ∧ Γ.env.kindOf p.1 = some .cell ∧ (relabel scope Γ.env).names.lookup p.1 = some .cell ∧ (p.1 == x) = false) ∧ CellsAre Γ scope x r
theorem compρ_free {ρ : Loc} {cl : List (Str × Addr)} {x y : Str} {d : PV} (h : y ≠ x) (hc : (cl.lookup y).isSome = true) : compρ ρ cl x d y = ρ y := by
  unfold compρ; rw [if_neg h, if_pos hc]
theorem fdiv_nat (a b : Nat) : (a : Int).fdiv b = ((a / b : Nat) : Int) := by
  rw [Int.fdiv_eq_ediv_of_nonneg _ (Int.natCast_nonneg b)]; rfl
theorem fmod_nat (a b : Nat) : (a : Int).fmod b = ((a % b : Nat) : Int) := by
  rw [Int.fmod_eq_emod_of_nonneg _ (Int.natCast_nonneg b)]; rfl
section
variable {Γ : Fx} {ρ : Loc} {mu : Mu}
theorem CellsAre.mem {scope x} : ∀ {cl : List (Str × Addr)}, CellsAre Γ scope x cl → ∀ p ∈ cl, Γ.env.cells.lookup p.1 = some p.2 ∧ Γ.env.kindOf p.1 = some .cell ∧ (relabel scope Γ.env).names.lookup p.1 = some .cell ∧ (p.1 == x) = false
  | [], _, p, h => by cases h
  | q :: r, ⟨h1, h2⟩, p, h => by
    rcases List.mem_cons.mp h with rfl | h
    · exact h1
    · exact CellsAre.mem h2 p h
theorem compok {scope cl x} (clos : closureFor scope Γ.env = pure cl) (kind : scope.kind = .function) (names : (scope.names.all fun y => !(decide (y.2 = .cell)) && (!(decide (y.2 = .local)) || decide (scope.names.lookup y.1 = some .local))) = true)
    (nodbg : (relabel scope Γ.env).names.lookup (Str.ofString "__debug__") = none ∧ (relabel scope Γ.env).names.lookup (Str.ofString "__classdict__") = none)
    (tgt : scope.names.lookup x = some .local) (hc : CellsAre Γ scope x cl) : CompOk Γ scope cl x where
  clos := clos
  kind := kind
  names := fun y hy hl => by
    have := List.all_eq_true.mp names y hy
    simp only [Bool.and_eq_true, Bool.or_eq_true, Bool.not_eq_true', decide_eq_false_iff_not, decide_eq_true_eq] at this
    rcases this.2 with h | h
    · exact absurd hl h
    · exact h
  nocell := fun y hy => by
    have := List.all_eq_true.mp names y hy
    simp only [Bool.and_eq_true, Bool.not_eq_true', decide_eq_false_iff_not] at this
    exact this.1
  nodbg := nodbg
  tgt := tgt
  sub := fun y c h => (hc.mem _ (lookup_mem h)).1
  free := fun y h => by
    obtain ⟨c, hc'⟩ := Option.isSome_iff_exists.mp h
    have := hc.mem _ (lookup_mem hc')
    refine ⟨this.2.1, this.2.2.1, fun e => ?_⟩
    have q := this.2.2.2
    simp only at q
    rw [e] at q
    simp at q
theorem IT.cast {e ds ds2} (h : IT Γ ρ mu e ds) (q : ds = ds2) : IT Γ ρ mu e ds2 := q ▸ h
theorem CL.mk {α : Type} {scope cl x ifs elt} (l : List α) (f : α → PV) (p : α → Bool) (g : α → PV) (ht : ∀ a ∈ l, ETc Γ ρ scope cl x (f a) ifs (p a)) (he : ∀ a ∈ l, p a = true → EVc Γ ρ scope cl x (f a) elt (g a)) :
    CL Γ ρ scope cl x ifs elt (l.map f) ((l.filter p).map g) := by
  induction l with
  | nil => exact .nil
  | cons a r ih =>
    have ih := ih (fun b hb => ht b (List.mem_cons_of_mem _ hb)) fun b hb => he b (List.mem_cons_of_mem _ hb)
    have h1 := ht a (List.mem_cons_self ..)
    rw [List.filter_cons]
    cases hp : p a with
    | true =>
      rw [hp] at h1
      exact .take h1 (he a (List.mem_cons_self ..) hp) ih
    | false =>
      rw [hp] at h1
      exact .skip h1 ih
theorem CL.map {α : Type} {scope cl x elt} (l : List α) (f : α → PV) (g : α → PV) (he : ∀ a ∈ l, EVc Γ ρ scope cl x (f a) elt (g a)) : CL Γ ρ scope cl x [] elt (l.map f) (l.map g) := by
  have := CL.mk (Γ := Γ) (ρ := ρ) (scope := scope) (cl := cl) (x := x) (ifs := []) (elt := elt) l f (fun _ => true) g (fun a _ => .inl ⟨rfl, rfl⟩) fun a ha _ => he a ha
  rwa [List.filter_eq_self.mpr (fun _ _ => rfl)] at this
end
end Mine
end -- L13
section -- L14
set_option maxRecDepth 10000
namespace Mine
/-- an object hidden and held fast -/
noncomputable def Fx.pinned (Γ : Fx) (T : Addr) (o : Obj) : Fx := { Γ with hid := T :: Γ.hid, pins := (T, o) :: Γ.pins }
noncomputable def ups : Loc → List Str → List PV → Loc
  | ρ, x :: xs, d :: ds => ups (up ρ x d) xs ds
  | ρ, _, _ => ρ
/-- a loop over a zip: the body is right whatever object the zip keeps hidden -/
inductive Loop2 (Γ : Fx) (xs : List Str) (body : List Stmt) : Loc → List (List PV) → Loc → Prop
  | done {ρ} : Loop2 Γ xs body ρ [] ρ
  | step {ρ d ds ρ' ρ''} : (∀ T o, (Γ.pinned T o).Ok → SX (Γ.pinned T o) (ups ρ xs d) none body (.next ρ' none)) → Loop2 Γ xs body ρ' ds ρ'' → Loop2 Γ xs body ρ (d :: ds) ρ''
section
variable {Γ : Fx} {ρ : Loc}
theorem Fx.Ok.pinned (hΓ : Γ.Ok) {T : Addr} {o : Obj} (h1 : T ≠ Γ.env.locals) (h2 : ∀ x c, Γ.env.cells.lookup x = some c → T ≠ c) : (Γ.pinned T o).Ok where
  kind := hΓ.kind
  handled := hΓ.handled
  depth := hΓ.depth
  units := hΓ.units
  room := hΓ.room
  nodbg := hΓ.nodbg
  glob := hΓ.glob
  bns := hΓ.bns
  ctx := hΓ.ctx
  mono := hΓ.mono
  hidL := List.mem_cons_of_mem _ hΓ.hidL
  newL := hΓ.newL
  cells := fun x c h => ⟨List.mem_cons_of_mem _ (hΓ.cells x c h).1, (hΓ.cells x c h).2⟩
  apart := hΓ.apart
  pinH := fun p hp => by
    rcases List.mem_cons.mp hp with rfl | hp
    · exact ⟨List.mem_cons_self .., h1, h2⟩
    · obtain ⟨a, b, c⟩ := hΓ.pinH p hp
      exact ⟨List.mem_cons_of_mem _ a, b, c⟩
theorem Look.pin {T o m h x v} (l : Look Γ m h x v) : Look (Γ.pinned T o) m h x v := by
  cases l with
  | loc h1 h2 => exact .loc h1 h2
  | cell h1 h2 h3 => exact .cell h1 h2 h3
theorem Look.unpin {T o m h x v} (l : Look (Γ.pinned T o) m h x v) : Look Γ m h x v := by
  cases l with
  | loc h1 h2 => exact .loc h1 h2
  | cell h1 h2 h3 => exact .cell h1 h2 h3
/-- a new object is hidden -/
theorem St.pinIn {a s s' T o} (hs : St Γ ρ none a s) (k : Kp s s') (hn : s.heap.get? T = none) (ht : s'.heap.get? T = some o) : St (Γ.pinned T o) ρ none a s' := by
  have hk := hs.kept k
  obtain ⟨m, hns, hv, _⟩ := hs.vars
  have le : Le (vw s.heap Γ.hid) (vw s'.heap (T :: Γ.hid)) := fun b o' e => by
    obtain ⟨h1, h2, h3⟩ := vw_some.mp e
    refine vw_some.mpr ⟨fun hm => ?_, k.get b o' h2, h3⟩
    rcases List.mem_cons.mp hm with q | q
    · rw [q, hn] at h2; cases h2
    · exact h1 q
  refine ⟨hk.same, hk.floor, hk.late, fun p hp => ?_, hk.keep, fun b hb => ?_, hk.cls, m, hns.at' fun o e => k.get _ _ e, fun x d hx => ?_, fun _ _ h => by cases h⟩
  · rcases List.mem_cons.mp hp with rfl | hp
    · exact ht
    · exact hk.pin p hp
  · rcases List.mem_cons.mp hb with rfl | hb
    · exact ⟨o, ht⟩
    · exact hk.hid b hb
  · obtain ⟨v, l, r⟩ := hv x d hx
    exact ⟨v, (l.keeps k.get).pin, r.mono le⟩
theorem St.pinOut {a s T o} (hs : St (Γ.pinned T o) ρ none a s) : St Γ ρ none a s := by
  obtain ⟨m, hns, hv, _⟩ := hs.vars
  exact ⟨hs.same, hs.floor, hs.late, fun p hp => hs.pin p (List.mem_cons_of_mem _ hp), hs.keep, fun b hb => hs.hid b (List.mem_cons_of_mem _ hb), hs.cls, m, hns, fun x d hx => let ⟨v, l, r⟩ := hv x d hx; ⟨v, l.unpin, r.mono (vw_more fun b hb => List.mem_cons_of_mem _ hb)⟩, fun _ _ h => by cases h⟩
/-- the zip writes -/
theorem St.turn {a : Addr} {s : Shared} {T : Addr} {o o' : Obj} {wr : List Addr} {h' : Heap} {tk : Nat} (hs : St (Γ.pinned T o) ρ none a s) (hΓ : (Γ.pinned T o).Ok) (htk : s.toks ≤ tk) (hw : ∀ b, b ∈ wr → b ≠ T → b ∉ Γ.hid) (hd : ∀ b, b ∈ wr → b ≠ T → ∀ q, s.heap.get? b = some q → isData q = false) (hn : ∀ b, b ∈ wr → Γ.s₀.heap.get? b = none) (hTP : ∀ p ∈ Γ.pins, p.1 ≠ T) (hTh : T ∉ Γ.hid)
    (k : ∀ b q, b ∉ wr → s.heap.get? b = some q → h'.get? b = some q) (hT : h'.get? T = some o') :
    St (Γ.pinned T o') ρ none a { s with heap := h', toks := tk } ∧ Le (vw s.heap (T :: Γ.hid)) (vw h' (T :: Γ.hid)) := by
  have hle : Le (vw s.heap (T :: Γ.hid)) (vw h' (T :: Γ.hid)) := fun b q e => by
    obtain ⟨h1, h2, h3⟩ := vw_some.mp e
    refine vw_some.mpr ⟨h1, k b q (fun hb => ?_) h2, h3⟩
    have := hd b hb (fun e => h1 (e ▸ List.mem_cons_self ..)) q h2
    rw [h3] at this; cases this
  have hk : ∀ b, b ∈ Γ.hid → b ∉ wr := fun b hb q => hw b q (fun e => hTh (e ▸ hb)) hb
  obtain ⟨⟨h0, t0, e0⟩, fl, u0, pn, kp, hid, cls, m, hns, hv, _⟩ := hs
  have hΓh : Γ.env.locals ∈ Γ.hid := by
    rcases List.mem_cons.mp hΓ.hidL with h | h
    · exact absurd h.symm (hΓ.pinH (T, o) (List.mem_cons_self ..)).2.1
    · exact h
  have hcl : ∀ y c, Γ.env.cells.lookup y = some c → c ∈ Γ.hid := fun y c hc => by
    rcases List.mem_cons.mp (hΓ.cells y c hc).1 with h | h
    · exact absurd h.symm ((hΓ.pinH (T, o) (List.mem_cons_self ..)).2.2 y c hc)
    · exact h
  have cellk : ∀ y c u, Γ.env.cells.lookup y = some c → s.heap.IsCell c u → h'.IsCell c u := fun y c u hc ⟨q, e, r⟩ => ⟨q, k _ _ (hk c (hcl y c hc)) e, r⟩
  refine ⟨⟨⟨h', tk, by rw [e0]; rfl⟩, Nat.le_trans fl htk, Nat.le_trans u0 htk, fun p hp => ?_, fun b q e => k b q (fun hb => by have h9 := hn b hb; have e9 : Γ.s₀.heap.get? b = some q := e; rw [h9] at e9; cases e9) (kp b q e), fun b hb => ?_, fun y c hc => let ⟨u, hu⟩ := cls y c hc; ⟨u, cellk y c u hc hu⟩, m, hns.at' fun q e => k _ q (hk _ hΓh) e, fun y d hy => ?_, fun _ _ h => by cases h⟩, hle⟩
  · rcases List.mem_cons.mp hp with rfl | hp'
    · exact hT
    · have hh := (hΓ.pinH p (List.mem_cons_of_mem _ hp')).1
      rcases List.mem_cons.mp hh with h | h
      · exact absurd h (hTP p hp')
      · exact k _ _ (hk _ h) (pn p (List.mem_cons_of_mem _ hp'))
  · rcases List.mem_cons.mp hb with rfl | hb'
    · exact ⟨o', hT⟩
    · obtain ⟨q, e⟩ := hid b hb
      exact ⟨q, k b q (hk b hb') e⟩
  · obtain ⟨v, l, r⟩ := hv y d hy
    refine ⟨v, ?_, r.mono hle⟩
    cases l with
    | loc h1 h2 => exact .loc h1 h2
    | cell h1 h2 h3 => exact .cell h1 h2 (cellk _ _ _ h2 h3)
end
end Mine
end -- L14
section -- L15
set_option maxRecDepth 10000
namespace Mine
inductive Names : List Expr → List Str → Prop
  | nil : Names [] []
  | cons {es xs} (x : Str) (p : Pos) : Names es xs → Names (.Name x p :: es) (x :: xs)
theorem Names.each {env : Env} : ∀ {es xs}, Names es xs → (assignEach es env).length = xs.length ∧ (assignEach es env).findIdx? (·.1) = none
  | _, _, .nil => ⟨rfl, rfl⟩
  | _, _, .cons x p h => by
    obtain ⟨h1, h2⟩ := Names.each (env := env) h
    refine ⟨by show (assignEach _ env).length + 1 = _; rw [h1]; rfl, ?_⟩
    show List.findIdx? (·.1) ((false, assign (.Name x p) env) :: assignEach _ env) = none
    rw [List.findIdx?_cons, h2]
    rfl
section
variable {Γ : Fx} {ρ : Loc}
theorem St.turnOut {a : Addr} {s : Shared} {T : Addr} {o : Obj} {wr : List Addr} {h' : Heap} {tk : Nat} (hs : St (Γ.pinned T o) ρ none a s) (hΓ : Γ.Ok) (htk : s.toks ≤ tk) (hw : ∀ b, b ∈ wr → b ∉ Γ.hid) (hd : ∀ b, b ∈ wr → b ≠ T → ∀ q, s.heap.get? b = some q → isData q = false) (hn : ∀ b, b ∈ wr → Γ.s₀.heap.get? b = none)
    (k : ∀ b q, b ∉ wr → s.heap.get? b = some q → h'.get? b = some q) : St Γ ρ none a { s with heap := h', toks := tk } := by
  have hle : Le (vw s.heap (T :: Γ.hid)) (vw h' Γ.hid) := fun b q e => by
    obtain ⟨h1, h2, h3⟩ := vw_some.mp e
    refine vw_some.mpr ⟨fun hm => h1 (List.mem_cons_of_mem _ hm), k b q (fun hb => ?_) h2, h3⟩
    have := hd b hb (fun e => h1 (e ▸ List.mem_cons_self ..)) q h2
    rw [h3] at this; cases this
  have hk : ∀ b, b ∈ Γ.hid → b ∉ wr := fun b hb q => hw b q hb
  obtain ⟨⟨h0, t0, e0⟩, fl, u0, pn, kp, hid, cls, m, hns, hv, _⟩ := hs
  have cellk : ∀ y c u, Γ.env.cells.lookup y = some c → s.heap.IsCell c u → h'.IsCell c u := fun y c u hc ⟨q, e, r⟩ => ⟨q, k _ _ (hk c (hΓ.cells y c hc).1) e, r⟩
  refine ⟨⟨h', tk, by rw [e0]; rfl⟩, Nat.le_trans fl htk, Nat.le_trans u0 htk, fun p hp => k _ _ (hk _ (hΓ.pinH p hp).1) (pn p (List.mem_cons_of_mem _ hp)), fun b q e => k b q (fun hb => by have h9 := hn b hb; have e9 : Γ.s₀.heap.get? b = some q := e; rw [h9] at e9; cases e9) (kp b q e),
    fun b hb => ?_, fun y c hc => let ⟨u, hu⟩ := cls y c hc; ⟨u, cellk y c u hc hu⟩, m, hns.at' fun q e => k _ q (hk _ hΓ.hidL) e, fun y d hy => ?_, fun _ _ h => by cases h⟩
  · obtain ⟨q, e⟩ := hid b (List.mem_cons_of_mem _ hb)
    exact ⟨q, k b q (hk b hb) e⟩
  · obtain ⟨v, l, r⟩ := hv y d hy
    refine ⟨v, ?_, r.mono hle⟩
    cases l with
    | loc h1 h2 => exact .loc h1 h2
    | cell h1 h2 h3 => exact .cell h1 h2 (cellk _ _ _ h2 h3)
theorem assignMany (hΓ : Γ.Ok) {E : Value → Shared → Prop} : ∀ {es xs}, Names es xs → ∀ {ds vs} {ρ : Loc} {a s}, (∀ x ∈ xs, Own Γ x) → St Γ ρ none a s → Reps (vw s.heap (Γ.hids none a)) ds vs → ds.length = xs.length →
    wpAny Γ.M Γ.A (assignInOrder ((assignEach es Γ.env).map (·.2)) vs) (fun _ s' => St Γ (ups ρ xs ds) none a s' ∧ Pres (Γ.hids none a) s (Γ.hids none a) s') E s
  | _, _, .nil, ds, vs, ρ, a, s, ho, hs, hr, hl => by
    have : ds = [] := List.eq_nil_of_length_eq_zero hl
    subst this
    rw [reps0 hr]
    exact wpAny_assignInOrder_none ⟨hs, Pres.refl _ _⟩
  | _, _, .cons (es := es) (xs := xs) x p h, ds, vs, ρ, a, s, ho, hs, hr, hl => by
    cases hr with
    | nil => simp at hl
    | cons r1 rr =>
      refine wpAny_assignInOrder_more (t := assign (.Name x p) Γ.env) (wpAny_assign_Name (wpAny_mono (hs.store hΓ (ho x (List.mem_cons_self ..)) r1 no_mu) (fun _ s' h' => ?_) fun _ _ e => e))
      exact wpAny_mono (assignMany hΓ h (fun y hy => ho y (List.mem_cons_of_mem _ hy)) h'.1 (rr.mono h'.2.le) (by simpa using hl)) (fun _ s'' h'' => ⟨h''.1, h'.2.trans h''.2⟩) fun _ _ e => e

/-- an iterator that hands out tuples -/
noncomputable def IT2 (Γ : Fx) (ρ : Loc) (e : Expr) (ds : List (List PV)) : Prop :=
  ∀ a s E Q, St Γ ρ none a s → (∀ s' I T₀ fp wr Pt T Mid, Kp s s' → s.heap.get? T₀ = none → (∃ o, s'.heap.get? T₀ = some o) → WalksT Γ.prog Γ.w Γ.A I fp wr ds.length Pt T Mid → T 0 s'.heap → T₀ ∈ wr → (∀ b, b ∈ fp → b ∉ Γ.hid) → (∀ b, b ∈ wr → s.heap.get? b = none) →
    (∀ i h, T i h → ∀ b, b ∈ wr → ∃ o, h.get? b = some o ∧ (b ≠ T₀ → isData o = false)) → (∀ i t h, Mid i t h → ∀ b, b ∈ wr → ∃ o, h.get? b = some o ∧ (b ≠ T₀ → isData o = false)) →
    (∀ i vals, Pt i vals → ∃ d, ds[i]? = some d ∧ Reps (vw s'.heap (T₀ :: Γ.hid)) d vals.toList) → Q (.ref I) s') →
    wpAny Γ.M Γ.A (eval e Γ.env) (fun xv s₁ => wpAny Γ.M Γ.A (pyIter xv) Q E s₁) E s

theorem S1.forz (hΓ : Γ.Ok) {elts xs kk tp iter body pos ds ρ'} (hN : Names elts xs) (hi : IT2 Γ ρ iter ds) (hlen : ∀ d ∈ ds, d.length = xs.length) (ho : ∀ x ∈ xs, Own Γ x) (hl : Loop2 Γ xs body ρ ds ρ') (hfold : ∀ v, foldedSetIterable iter Γ.env v = pure v) :
    S1 Γ ρ none (.For (.Tuple elts kk tp) iter body [] pos) (.next ρ' none) := fun a s E hs => by
  refine wpAny_For (hi a s E _ hs fun s₁ I T₀ fp wr Pt T Mid k₁ hTn hTa W hT0 hTw hout hwn hTal hMal hitems => ?_) hfold
  have fpw : ∀ b, b ∈ wr → b ∈ fp := W.sub
  have hTh : T₀ ∉ Γ.hid := hout _ (fpw _ hTw)
  have hs0 : Γ.s₀.heap.get? T₀ = none := by
    cases q : Γ.s₀.heap.get? T₀ with
    | none => rfl
    | some o => have := hs.keep T₀ o q; rw [hTn] at this; cases this
  have hTL : T₀ ≠ Γ.env.locals := fun q => by obtain ⟨o, e⟩ := hs.hid _ hΓ.hidL; rw [← q, hTn] at e; cases e
  have hTC : ∀ x c, Γ.env.cells.lookup x = some c → T₀ ≠ c := fun x c hc q => by obtain ⟨u, o, e, _⟩ := hs.cls x c hc; rw [← q, hTn] at e; cases e
  have hTP : ∀ p ∈ Γ.pins, p.1 ≠ T₀ := fun p hp q => by have e := hs.pin p hp; rw [q, hTn] at e; cases e
  have okp : ∀ o, (Γ.pinned T₀ o).Ok := fun o => hΓ.pinned hTL hTC
  have s0n : ∀ b, b ∈ wr → Γ.s₀.heap.get? b = none := fun b hb => by
    cases q : Γ.s₀.heap.get? b with
    | none => rfl
    | some o => have := hs.keep b o q; rw [hwn b hb] at this; cases this
  obtain ⟨o₁, hT1⟩ := hTa
  refine codeAny_forLoop_any (fun n s' => ∃ ρ₁ a' i o, St (Γ.pinned T₀ o) ρ₁ none a' s' ∧ Loop2 Γ xs body ρ₁ (ds.drop i) ρ' ∧ i ≤ ds.length ∧ n = ds.length - i ∧ T i s'.heap ∧ Pres Γ.hid s Γ.hid s' ∧ Le (vw s₁.heap (T₀ :: Γ.hid)) (vw s'.heap (T₀ :: Γ.hid))) ?_ ds.length
    ⟨ρ, a, 0, o₁, hs.pinIn k₁ hTn hT1, by simpa using hl, Nat.zero_le _, by simp, hT0, k₁.pres _, Le.refl _⟩
  rintro n s' ⟨ρ₁, a', i, o, hs', hl', hi', rfl, hT, hp, hle⟩
  have hwd : ∀ b, b ∈ wr → b ≠ T₀ → ∀ q, s'.heap.get? b = some q → isData q = false := fun b hb hne q e => by
    obtain ⟨o', e', d'⟩ := hTal i _ hT b hb
    rw [e] at e'; cases e'; exact d' hne
  by_cases hlt : i < ds.length
  · refine wpAny_tk (W.item i s' _ _ hlt hT fun t vals h' tk hP hlt' htup hMid hk htk => ?_)
    obtain ⟨o2, hT2, _⟩ := hMal i t h' hMid T₀ hTw
    obtain ⟨hs₂, hle₂⟩ := hs'.turn (okp o) (tk := tk) htk (fun b hb hne => hout b (fpw b hb)) hwd s0n hTP hTh hk hT2
    obtain ⟨d, hd, hr⟩ := hitems i vals hP
    have hdr : ds.drop i = d :: ds.drop (i + 1) := by
      rw [List.drop_eq_getElem_cons hlt]
      rw [List.getElem?_eq_getElem hlt] at hd
      rw [Option.some.inj hd]
    have hdl := hlen d (by rw [List.getElem?_eq_getElem hlt] at hd; rw [← Option.some.inj hd]; exact List.getElem_mem hlt)
    rw [hdr] at hl'
    show wpAny _ _ (letOwnedTupleGo (.Tuple elts kk tp) (.ref I) (.ref t)) _ _ _
    refine W.go elts kk tp i t _ _ _ hMid fun h₂ hT' hk₂ => ?_
    have hwd2 : ∀ b, b ∈ wr → b ≠ T₀ → ∀ q, h'.get? b = some q → isData q = false := fun b hb hne q e => by
      obtain ⟨o', e', d'⟩ := hMal i t h' hMid b hb
      rw [e] at e'; cases e'; exact d' hne
    obtain ⟨o3, hT3, _⟩ := hTal (i + 1) h₂ hT' T₀ hTw
    obtain ⟨hs₃, hle₃⟩ := hs₂.turn (okp o2) (s := { s' with heap := h', toks := tk }) (tk := tk) (Nat.le_refl _) (fun b hb hne => hout b (fpw b hb)) hwd2 s0n hTP hTh hk₂ hT3
    have htn : t ∉ wr := W.apart i t h' hMid
    have htup2 : h₂.IsTuple t vals := by
      obtain ⟨q, e, r⟩ := htup
      exact ⟨q, hk₂ t q htn e, r⟩
    have hvl : vals.size = xs.length := by rw [← hdl, hr.length, Array.length_toList]
    obtain ⟨n1, n2⟩ := hN.each (env := Γ.env)
    refine wpAny_assign_Tuple (s := { s' with heap := h₂, toks := tk }) hΓ.handled htup2 (by rw [n1, hvl]) n2 fun h₄ he => ?_
    have k4 : Kp { s' with heap := h₂, toks := tk } { s' with heap := h₄, toks := tk } := kp_ext (s := { s' with heap := h₂, toks := tk }) he
    have hs₄ : St (Γ.pinned T₀ o3) ρ₁ none a' { s' with heap := h₄, toks := tk } := hs₃.kept k4
    have hr4 : Reps (vw h₄ (T₀ :: Γ.hid)) d vals.toList := ((hr.mono (hle.trans hle₂)).mono hle₃).mono (k4.le (T₀ :: Γ.hid))
    have hT4 : T (i + 1) h₄ := W.frame _ _ _ hT' fun b hb q e => k4.get b q e
    have pr4 : Pres Γ.hid s Γ.hid { s' with heap := h₄, toks := tk } := fun b q hb e => by
      obtain ⟨h1, h2⟩ := hp b q hb e
      have hbw : b ∉ wr := fun z => by rw [hwn b z] at e; cases e
      exact ⟨h1, k4.get b q (hk₂ b q hbw (hk b q hbw h2))⟩
    cases hl' with
    | step hb hL =>
      refine wpAny_mono (assignMany (okp o3) hN ho hs₄ hr4 hdl) (fun _ s₅ h₅ => ?_) fun _ _ e => e
      refine wpAny_mono (hb T₀ o3 (okp o3) a' s₅ _ h₅.1) (fun f s₆ h₆ => ?_) fun _ _ e => e
      cases f with
      | next =>
        obtain ⟨a₂, hs₆, p₆⟩ := h₆
        have pall : Pres (T₀ :: Γ.hid) { s' with heap := h₄, toks := tk } (T₀ :: Γ.hid) s₆ := Pres.trans h₅.2 p₆
        refine ⟨ds.length - (i + 1), by omega, _, a₂, i + 1, o3, hs₆, hL, hlt, rfl, W.frame _ _ _ hT4 fun b hb q e => ?_, fun b q hb e => ?_, (((hle.trans hle₂).trans hle₃).trans (k4.le _)).trans pall.le⟩
        · by_cases hbt : b = T₀
          · subst hbt
            have e1 := hs₄.pin (b, o3) (List.mem_cons_self ..)
            have e2 := hs₆.pin (b, o3) (List.mem_cons_self ..)
            rw [show h₄.get? b = some o3 from e1] at e
            cases e
            exact e2
          · exact (pall b q (fun z => (List.mem_cons.mp z).elim hbt (hout b hb)) e).2
        · obtain ⟨h1, h2⟩ := pr4 b q hb e
          have hbt : b ≠ T₀ := fun z => by rw [z, hTn] at e; cases e
          exact ⟨h1, (pall b q (fun z => (List.mem_cons.mp z).elim hbt h1) h2).2⟩
      | _ => exact h₆.elim
  · have hin : i = ds.length := by omega
    subst hin
    rw [List.drop_length] at hl'
    cases hl' with
    | done =>
      refine wpAny_tk (W.done s' _ _ hT fun h' tk hk htk => wpAny_execs_nil ?_)
      refine ⟨a', hs'.turnOut hΓ htk (fun b hb => hout b (fpw b hb)) hwd s0n hk, fun b q hb e => ?_⟩
      obtain ⟨h1, h2⟩ := hp b q hb e
      exact ⟨h1, hk b q (fun z => by rw [hwn b z] at e; cases e) h2⟩
end
end Mine
end -- L15
section -- L16
set_option maxRecDepth 10000
namespace Mine
section
variable {Γ : Fx} {ρ : Loc}
noncomputable def pairUp : List PV → List PV → List (List PV)
  | a :: as, b :: bs => [a, b] :: pairUp as bs
  | _, _ => []
theorem pairUp_length : ∀ as bs : List PV, (pairUp as bs).length = min as.length bs.length
  | [], _ => by simp [pairUp]
  | _ :: _, [] => by simp [pairUp]
  | a :: as, b :: bs => by simp [pairUp, pairUp_length as bs]
theorem pairUp_get : ∀ (as bs : List PV) (i : Nat) (a b : PV), as[i]? = some a → bs[i]? = some b → (pairUp as bs)[i]? = some [a, b]
  | [], _, i, a, b, h, _ => by simp at h
  | _ :: _, [], i, a, b, _, h => by simp at h
  | x :: as, y :: bs, 0, a, b, h1, h2 => by simp at h1 h2; subst h1; subst h2; rfl
  | x :: as, y :: bs, i + 1, a, b, h1, h2 => by
    simp only [List.getElem?_cons_succ] at h1 h2
    show (pairUp as bs)[i]? = _
    exact pairUp_get as bs i a b h1 h2
theorem pairUp_lens {as bs : List PV} : ∀ d ∈ pairUp as bs, d.length = 2 := by
  induction as generalizing bs with
  | nil => intro d h; cases bs <;> simp [pairUp] at h
  | cons a as ih =>
    cases bs with
    | nil => intro d h; simp [pairUp] at h
    | cons b bs =>
      intro d h
      rcases List.mem_cons.mp h with rfl | h
      · rfl
      · exact ih d h
theorem IT2.zip2 (hΓ : Γ.Ok) {e1 e2 p pos as bs} (hg : GL Γ.C (Str.ofString "zip") (.type "zip")) (hk : Γ.env.kindOf (Str.ofString "zip") = some .globalImplicit) (h1 : EV Γ ρ none e1 (.list as)) (hs1 : isStarred e1 = false) (h2 : EV Γ ρ none e2 (.list bs)) (hs2 : isStarred e2 = false) :
    IT2 Γ ρ (.Call (.Name (Str.ofString "zip") p) [e1, e2] [] pos) (pairUp as bs) := fun a s E Q hs hQ =>
  Call_Name rfl (wpAny_mono (EV1.glob hΓ hg hk (by decide) a s E hs) (fun f s1 h1' => by
    obtain ⟨k1, rfl⟩ := h1'
    have hv : EVs Γ ρ none [e1, e2] [.list as, .list bs] := .cons h1 hs1 (.cons h2 hs2 .nil)
    refine callWith_any (C := Γ.C) .type hv.plain (hv.spliced a s1 E _ (hs.kept k1) fun vs s2 k2 rvs => ⟨((hs.kept k1).kept k2).ctx hΓ, ?_⟩)
    obtain ⟨v1, v2, rfl, r1, r2⟩ := rvs.two
    obtain ⟨l1, xs, n1, rfl, ha1, hr1⟩ := r1.list_inv
    obtain ⟨l2, ys, n2, rfl, ha2, hr2⟩ := r2.list_inv
    obtain ⟨hn1, hg1, _⟩ := vw_some.mp ha1
    obtain ⟨hn2, hg2, _⟩ := vw_some.mp ha2
    have hl1 : s2.heap.IsList l1 xs := ⟨_, hg1, rfl, n1, rfl⟩
    have hl2 : s2.heap.IsList l2 ys := ⟨_, hg2, rfl, n2, rfl⟩
    have hst2 := (hs.kept k1).kept k2
    have lt1 := Heap.lt_size hg1
    have lt2 := Heap.lt_size hg2
    generalize hN : s2.heap.objs.size = N at *
    refine call_zip_2 hl1 hl2 fun h' a1 a2 a3 a4 a5 a6 hk' => ?_
    rw [hN] at a1 a2 a3 a4 a5 a6 ⊢
    have k3 : Kp s2 { s2 with heap := h' } := Kp.ofh hk'
    have above : ∀ j, s2.heap.get? (N + j) = none := fun j => by
      cases e : s2.heap.get? (N + j) with
      | none => rfl
      | some o => exact absurd (Heap.lt_size e) (by rw [hN]; exact Nat.not_lt.mpr (Nat.le_add_right _ _))
    have above0 : s2.heap.get? N = none := above 0
    have k02 : Kp s s2 := k1.trans k2
    have ne : ∀ {i j : Nat}, i ≠ j → (N + i : Addr) ≠ N + j := fun h q => h (Nat.add_left_cancel q)
    have ne0 : ∀ {j : Nat}, 0 ≠ j → (N : Addr) ≠ N + j := fun {j} h q => h (by have : N + 0 = N + j := q; exact Nat.add_left_cancel this)
    have ln : ∀ {l : Addr} (j : Nat), l < N → l ≠ N + j := fun j h q => absurd h (by rw [q]; exact Nat.not_lt.mpr (Nat.le_add_right _ _))
    have ln0 : ∀ {l : Addr}, l < N → l ≠ N := fun h q => absurd h (by rw [q]; exact Nat.lt_irrefl _)
    have D : ZipApart (N + 4) (N + 2) (N + 3) N (N + 1) l1 l2 := ⟨ne (by decide), ne (by decide), ne0 (by decide), ne (by decide), ne (by decide), (ne0 (by decide)).symm, ne (by decide), (ne0 (by decide)).symm, ne (by decide), ne0 (by decide),
      ln _ lt1, ln _ lt1, ln0 lt1, ln _ lt1, ln _ lt2, ln _ lt2, ln0 lt2, ln _ lt2⟩
    have W := WalksT.zip2 (prog := Γ.prog) (w := Γ.w) (A := Γ.A) hΓ.handled (N + 4) (N + 2) (N + 3) N (N + 1) l1 l2 D xs ys
    have hst3 := hst2.kept k3
    have hidn : ∀ b, s2.heap.get? b = none → b ∉ Γ.hid := fun b e q => by obtain ⟨o, e'⟩ := hst2.hid b q; rw [e] at e'; cases e'
    have hzl : (pairUp as bs).length = min xs.size ys.size := by
      rw [pairUp_length, hr1.length, hr2.length, Array.length_toList, Array.length_toList]
    refine wpAny_pyIter_zip a1 (hQ _ (N + 4) (N + 3) _ _ _ _ _ (k02.trans k3) (kp_none k02 (above 3)) ⟨_, a3⟩ (hzl ▸ W) ⟨a1, a2, ⟨_, _, a3⟩, a4, a5, hl1.at fun o e => hk' _ o e, hl2.at fun o e => hk' _ o e⟩ (by simp) (fun b hb => ?_) (fun b hb => ?_) (fun i h hT b hb => ?_) (fun i t h hM b hb => ?_) (fun i vals hP => ?_))
    · simp at hb
      rcases hb with rfl | rfl | rfl | rfl | rfl | rfl | rfl
      · exact hidn _ (above 4)
      · exact hidn _ (above 2)
      · exact hidn _ (above 3)
      · exact hidn _ above0
      · exact hidn _ (above 1)
      · exact hn1
      · exact hn2
    · simp at hb
      rcases hb with rfl | rfl | rfl | rfl
      · exact kp_none k02 (above 4)
      · exact kp_none k02 (above 3)
      · exact kp_none k02 above0
      · exact kp_none k02 (above 1)
    · obtain ⟨b1, b2, ⟨x, y, b3⟩, ⟨o4, b4, b4', _⟩, ⟨o5, b5, b5', _⟩, _⟩ := hT
      simp at hb
      rcases hb with rfl | rfl | rfl | rfl
      · exact ⟨_, b1, fun _ => rfl⟩
      · exact ⟨_, b3, fun q => absurd rfl q⟩
      · exact ⟨_, b4, fun _ => by unfold isData; rw [b4']; decide⟩
      · exact ⟨_, b5, fun _ => by unfold isData; rw [b5']; decide⟩
    · obtain ⟨b1, b2, ⟨x, y, b3⟩, ⟨o4, b4, b4', _⟩, ⟨o5, b5, b5', _⟩, _⟩ := hM
      simp at hb
      rcases hb with rfl | rfl | rfl | rfl
      · exact ⟨_, b1, fun _ => rfl⟩
      · exact ⟨_, b3, fun q => absurd rfl q⟩
      · exact ⟨_, b4, fun _ => by unfold isData; rw [b4']; decide⟩
      · exact ⟨_, b5, fun _ => by unfold isData; rw [b5']; decide⟩
    · obtain ⟨x, y, hx, hy, rfl⟩ := hP
      obtain ⟨d1, hd1, q1⟩ := hr1.get' i x (by simpa using hx)
      obtain ⟨d2, hd2, q2⟩ := hr2.get' i y (by simpa using hy)
      have le : Le (vw s2.heap (Γ.hids none a)) (vw h' ((N + 3 : Nat) :: Γ.hid)) := fun b o e => by
        obtain ⟨e1, e2, e3⟩ := vw_some.mp e
        refine vw_some.mpr ⟨fun hm => ?_, hk' b o e2, e3⟩
        rcases List.mem_cons.mp hm with q | q
        · rw [q, above 3] at e2; cases e2
        · exact e1 q
      exact ⟨_, pairUp_get as bs i d1 d2 hd1 hd2, .cons (q1.mono le) (.cons (q2.mono le) .nil)⟩) fun _ _ e => e)
end
end Mine
end -- L16
section -- L17
set_option maxRecDepth 100000
namespace Mine
noncomputable abbrev IsTrip (h : Heap) (T : Addr) (a b c : Value) : Prop := h.get? T = some { cls := .type "tuple", data := .seq #[a, b, c] }
/-- the parts of a zip of three lists lie apart -/
structure Apart3 (z TI TO i1 i2 i3 l1 l2 l3 : Addr) : Prop where
  nd : [z, TI, TO, i1, i2, i3].Nodup
  l1 : l1 ∉ [z, TO, i1, i2, i3]
  l2 : l2 ∉ [z, TO, i1, i2, i3]
  l3 : l3 ∉ [z, TO, i1, i2, i3]
section
variable {prog : Program} {w : World} {A : Around} {E : Value → Shared → Prop} {s : Shared}
theorem upd_trip {T : Addr} {a b c x : Value} {k : Nat} {Q : Unit → Shared → Prop} (hT : IsTrip s.heap T a b c)
    (h : ∀ h', h'.get? T = some { cls := .type "tuple", data := .seq ((#[a, b, c] : Array Value).setIfInBounds k x) } → Heap.SameBut T s.heap h' → Q () { s with heap := h' }) : wpAny (model prog w) A (updateSeq T (·.setIfInBounds k x)) Q E s := by
  refine wpAny_updateSeq hT rfl (h _ ?_ (Heap.SameBut.update ..))
  rw [Heap.get?_update_self _ hT rfl]
  simp [Obj.mapSeq]
theorem next3_item {z TI TO i1 i2 i3 l1 l2 l3 : Addr} {k : Nat} {xs ys zs : Array Value} {x y u a b c : Value} {Q : Value → Shared → Prop} (D : Apart3 z TI TO i1 i2 i3 l1 l2 l3)
    (hz : IsZip s.heap z TI TO .none) (hTI : IsTrip s.heap TI (.ref i1) (.ref i2) (.ref i3)) (hTO : IsTrip s.heap TO a b c)
    (h1 : s.heap.IsListIter i1 l1 k) (h2 : s.heap.IsListIter i2 l2 k) (h3 : s.heap.IsListIter i3 l3 k) (hl1 : s.heap.IsList l1 xs) (hl2 : s.heap.IsList l2 ys) (hl3 : s.heap.IsList l3 zs) (hx : xs[k]? = some x) (hy : ys[k]? = some y) (hu : zs[k]? = some u)
    (hQ : ∀ h', IsZip h' z TI TO (rawInt s.heap.objs.size) → IsTrip h' TO x y u → h'.IsListIter i1 l1 (k + 1) → h'.IsListIter i2 l2 (k + 1) → h'.IsListIter i3 l3 (k + 1) → IsTrip h' s.heap.objs.size x y u →
      (∀ d o, d ≠ z → d ≠ TO → d ≠ i1 → d ≠ i2 → d ≠ i3 → s.heap.get? d = some o → h'.get? d = some o) → Q (.ref s.heap.objs.size) { s with heap := h' }) :
    wpAny (model prog w) A (Builtin.«zip.__next__» ⟨[.ref z], []⟩) (fun fin s' => ∃ v, fin = .done (.ret v) ∧ Q v s') E s := by
  obtain ⟨nd, dl1, dl2, dl3⟩ := D
  simp only [List.nodup_cons, List.mem_cons, List.not_mem_nil, or_false, not_or] at nd dl1 dl2 dl3
  obtain ⟨⟨zTI, zTO, zi1, zi2, zi3⟩, ⟨TITO, TIi1, TIi2, TIi3⟩, ⟨TOi1, TOi2, TOi3⟩, ⟨i12, i13⟩, i23, _⟩ := nd
  obtain ⟨l1z, l1TO, l1i1, l1i2, l1i3⟩ := dl1
  obtain ⟨l2z, l2TO, l2i1, l2i2, l2i3⟩ := dl2
  obtain ⟨l3z, l3TO, l3i1, l3i2, l3i3⟩ := dl3
  show wpAny _ _ (field (.ref z) 2 >>= _) _ _ _
  refine wpAny_bind (wpAny_field hz rfl (x := .bool false) rfl ?_)
  show wpAny _ _ (field (.ref z) 3 >>= _) _ _ _
  refine wpAny_bind (wpAny_field hz rfl (x := .ref TI) rfl ?_)
  refine wpAny_bind (wpAny_seqItems hTI rfl ?_)
  show wpAny _ _ (Builtin.SmallTypes.ownedTupleIsFree (.ref z) >>= _) _ _ _
  refine wpAny_bind ?_
  unfold Builtin.SmallTypes.ownedTupleIsFree
  refine wpAny_bind (wpAny_field hz rfl (x := .none) rfl (wpAny_pure ?_))
  simp only [if_true]
  refine wpAny_bind (wpAny_rule ?_)
  refine wpAny_bind (wpAny_field hz rfl (x := .ref TO) rfl ?_)
  refine wpAny_bind (wpAny_setField_rec hz (by simp) fun g1 hz1 s1 => ?_)
  replace hz1 : IsZip g1 z TI TO .ellipsis := hz1
  refine wpAny_bind ?_
  simp only [List.zipIdx_cons, List.zipIdx_nil, List.forIn_cons, List.forIn_nil]
  -- the first
  refine wpAny_bind (wpAny_bind (wpAny_onRaise ?_))
  show wpAny _ _ (Builtin.SmallTypes.nextOf (.ref i1) >>= _) _ _ _
  refine wpAny_bind (wpAny_nextOf_list_item (h1.extBut s1.extBut (Ne.symm zi1)) (hl1.extBut s1.extBut l1z) hx fun g2 hi1 s2 => wpAny_pure ?_)
  have t2 : IsTrip g2 TO a b c := s2.extBut _ _ TOi1 (s1.extBut _ _ (Ne.symm zTO) hTO)
  refine wpAny_bind (wpAny_seqItems t2 rfl ?_)
  refine wpAny_bind (upd_trip t2 fun g3 t3 s3 => ?_)
  replace t3 : IsTrip g3 TO x b c := t3
  refine wpAny_bind (wpAny_letGo (wpAny_pure ?_))
  have up3 : ∀ d o, d ≠ z → d ≠ TO → d ≠ i1 → s.heap.get? d = some o → g3.get? d = some o := fun d o e1 e2 e3 e => s3.extBut _ _ e2 (s2.extBut _ _ e3 (s1.extBut _ _ e1 e))
  -- the second
  refine wpAny_bind (wpAny_bind (wpAny_onRaise ?_))
  show wpAny _ _ (Builtin.SmallTypes.nextOf (.ref i2) >>= _) _ _ _
  refine wpAny_bind (wpAny_nextOf_list_item (h2.at fun o e => up3 _ o (Ne.symm zi2) (Ne.symm TOi2) (Ne.symm i12) e) (hl2.at fun o e => up3 _ o l2z l2TO l2i1 e) hy fun g4 hi2 s4 => wpAny_pure ?_)
  have t4 : IsTrip g4 TO x b c := s4.extBut _ _ TOi2 t3
  refine wpAny_bind (wpAny_seqItems t4 rfl ?_)
  refine wpAny_bind (upd_trip t4 fun g5 t5 s5 => ?_)
  replace t5 : IsTrip g5 TO x y c := t5
  refine wpAny_bind (wpAny_letGo (wpAny_pure ?_))
  have up5 : ∀ d o, d ≠ z → d ≠ TO → d ≠ i1 → d ≠ i2 → s.heap.get? d = some o → g5.get? d = some o := fun d o e1 e2 e3 e4 e => s5.extBut _ _ e2 (s4.extBut _ _ e4 (up3 d o e1 e2 e3 e))
  -- the third
  refine wpAny_bind (wpAny_bind (wpAny_onRaise ?_))
  show wpAny _ _ (Builtin.SmallTypes.nextOf (.ref i3) >>= _) _ _ _
  refine wpAny_bind (wpAny_nextOf_list_item (h3.at fun o e => up5 _ o (Ne.symm zi3) (Ne.symm TOi3) (Ne.symm i13) (Ne.symm i23) e) (hl3.at fun o e => up5 _ o l3z l3TO l3i1 l3i2 e) hu fun g6 hi3 s6 => wpAny_pure ?_)
  have t6 : IsTrip g6 TO x y c := s6.extBut _ _ TOi3 t5
  refine wpAny_bind (wpAny_seqItems t6 rfl ?_)
  refine wpAny_bind (upd_trip t6 fun g7 t7 s7 => ?_)
  replace t7 : IsTrip g7 TO x y u := t7
  refine wpAny_bind (wpAny_letGo (wpAny_pure (wpAny_pure ?_)))
  have up7 : ∀ d o, d ≠ z → d ≠ TO → d ≠ i1 → d ≠ i2 → d ≠ i3 → s.heap.get? d = some o → g7.get? d = some o := fun d o e1 e2 e3 e4 e5 e => s7.extBut _ _ e2 (s6.extBut _ _ e5 (up5 d o e1 e2 e3 e4 e))
  refine wpAny_bind (wpAny_seqItems t7 rfl ?_)
  refine wpAny_bind (wpAny_newTuple ?_)
  have hsz : g7.objs.size = s.heap.objs.size := by rw [s7.1, s6.1, s5.1, s4.1, s3.1, s2.1, s1.1]
  have hz7 : IsZip g7 z TI TO .ellipsis := s7.extBut _ _ zTO (s6.extBut _ _ zi3 (s5.extBut _ _ zTO (s4.extBut _ _ zi2 (s3.extBut _ _ zTO (s2.extBut _ _ zi1 hz1)))))
  have k1 : g7.IsListIter i1 l1 (k + 1) := ((((hi1.at fun o e => s3.extBut _ _ (Ne.symm TOi1) e).at fun o e => s4.extBut _ _ i12 e).at fun o e => s5.extBut _ _ (Ne.symm TOi1) e).at fun o e => s6.extBut _ _ i13 e).at fun o e => s7.extBut _ _ (Ne.symm TOi1) e
  have k2 : g7.IsListIter i2 l2 (k + 1) := ((hi2.at fun o e => s5.extBut _ _ (Ne.symm TOi2) e).at fun o e => s6.extBut _ _ i23 e).at fun o e => s7.extBut _ _ (Ne.symm TOi2) e
  have k3 : g7.IsListIter i3 l3 (k + 1) := hi3.at fun o e => s7.extBut _ _ (Ne.symm TOi3) e
  have hzlt : z < g7.objs.size := Heap.lt_size hz7
  show wpAny _ _ (Builtin.SmallTypes.ownedTupleHandOut (.ref z) (.ref g7.objs.size) >>= _) _ _ _
  refine wpAny_bind ?_
  unfold Builtin.SmallTypes.ownedTupleHandOut
  have hz8 : IsZip (g7.push { cls := .type "tuple", data := .seq #[x, y, u] }) z TI TO .ellipsis := Heap.get?_push_of_some _ hz7
  refine wpAny_bind (wpAny_setField_rec hz8 (by simp) fun g9 hz9 s9 => ?_)
  replace hz9 : IsZip g9 z TI TO (rawInt g7.objs.size) := hz9
  refine wpAny_setField_rec hz9 (by simp) fun g10 hz10 s10 => ?_
  replace hz10 : IsZip g10 z TI TO (rawInt g7.objs.size) := hz10
  have up : ∀ d o, d ≠ z → g7.get? d = some o → g10.get? d = some o := fun d o e1 e => s10.extBut _ _ e1 (s9.extBut _ _ e1 (Heap.get?_push_of_some _ e))
  have hT10 : IsTrip g10 g7.objs.size x y u := s10.extBut _ _ (Nat.ne_of_gt hzlt) (s9.extBut _ _ (Nat.ne_of_gt hzlt) (Heap.get?_push_size _ rfl))
  rw [hsz] at hz10 hT10
  refine wpAny_pure ⟨_, rfl, ?_⟩
  show Q (.ref g7.objs.size) _
  rw [hsz]
  exact hQ g10 hz10 (up _ _ (Ne.symm zTO) t7) (k1.at fun o e => up _ o (Ne.symm zi1) e) (k2.at fun o e => up _ o (Ne.symm zi2) e) (k3.at fun o e => up _ o (Ne.symm zi3) e) hT10 fun d o e1 e2 e3 e4 e5 e => up d o e1 (up7 d o e1 e2 e3 e4 e5 e)
/-- the first of the lists is at its end -/
theorem next3_end {z TI TO i1 i2 i3 l1 l2 l3 : Addr} {k : Nat} {xs : Array Value} {a b c : Value} {Q : PySem.Fin → Shared → Prop} (hh : A.handled = none) (D : Apart3 z TI TO i1 i2 i3 l1 l2 l3)
    (hz : IsZip s.heap z TI TO .none) (hTI : IsTrip s.heap TI (.ref i1) (.ref i2) (.ref i3)) (hTO : IsTrip s.heap TO a b c)
    (h1 : s.heap.IsListIter i1 l1 k) (hl1 : s.heap.IsList l1 xs) (hx : xs[k]? = none)
    (hE : ∀ h' e, (∀ d o, d ≠ z → d ≠ i1 → s.heap.get? d = some o → h'.get? d = some o) → (∃ o, h'.get? e = some o ∧ o.cls = .type "StopIteration") → E (.ref e) { s with heap := h' }) :
    wpAny (model prog w) A (Builtin.«zip.__next__» ⟨[.ref z], []⟩) Q E s := by
  obtain ⟨nd, dl1, _, _⟩ := D
  simp only [List.nodup_cons, List.mem_cons, List.not_mem_nil, or_false, not_or] at nd dl1
  obtain ⟨⟨zTI, zTO, zi1, zi2, zi3⟩, _⟩ := nd
  obtain ⟨l1z, l1TO, l1i1, _⟩ := dl1
  show wpAny _ _ (field (.ref z) 2 >>= _) _ _ _
  refine wpAny_bind (wpAny_field hz rfl (x := .bool false) rfl ?_)
  show wpAny _ _ (field (.ref z) 3 >>= _) _ _ _
  refine wpAny_bind (wpAny_field hz rfl (x := .ref TI) rfl ?_)
  refine wpAny_bind (wpAny_seqItems hTI rfl ?_)
  show wpAny _ _ (Builtin.SmallTypes.ownedTupleIsFree (.ref z) >>= _) _ _ _
  refine wpAny_bind ?_
  unfold Builtin.SmallTypes.ownedTupleIsFree
  refine wpAny_bind (wpAny_field hz rfl (x := .none) rfl (wpAny_pure ?_))
  simp only [if_true]
  refine wpAny_bind (wpAny_rule ?_)
  refine wpAny_bind (wpAny_field hz rfl (x := .ref TO) rfl ?_)
  refine wpAny_bind (wpAny_setField_rec hz (by simp) fun g1 hz1 s1 => ?_)
  replace hz1 : IsZip g1 z TI TO .ellipsis := hz1
  refine wpAny_bind ?_
  simp only [List.zipIdx_cons, List.zipIdx_nil, List.forIn_cons, List.forIn_nil]
  refine wpAny_bind (wpAny_bind (wpAny_onRaise ?_))
  show wpAny _ _ (Builtin.SmallTypes.nextOf (.ref i1) >>= _) _ _ _
  refine wpAny_bind (wpAny_nextOf_list_end hh (h1.extBut s1.extBut (Ne.symm zi1)) (hl1.extBut s1.extBut l1z) hx fun g2 e s2 he => ?_)
  obtain ⟨oe, hoe, hce⟩ := he
  have hz2 : IsZip g2 z TI TO .ellipsis := s2 _ _ zi1 hz1
  have hez : e ≠ z := fun q => by subst q; rw [hz2] at hoe; cases hoe; simp at hce
  exact wpAny_setField_rec hz2 (by simp) fun g3 _ s3 => hE g3 e (fun d o e1 e2 q => s3.extBut _ _ e1 (s2 _ _ e2 (s1.extBut _ _ e1 q))) ⟨oe, s3.extBut _ _ hez hoe, hce⟩
end
end Mine
end -- L17
section -- L18
set_option maxRecDepth 100000
namespace Mine
theorem typeCall_zip_3 (a b c : Value) : checkTypeCall "zip" ⟨[a, b, c], []⟩ = pure () := by kernel_rfl
theorem newCall_zip_3 (a b c : Value) : checkBuiltinCall "zip.__new__" ⟨[.type "zip", a, b, c], []⟩ = pure () := by kernel_rfl
theorem args_object_init_4 (a b c d : Value) : argsOk "object.__init__" ⟨[a, b, c, d], []⟩ := by unfold argsOk; kernel_rfl
noncomputable abbrev zp1 (h : Heap) (l1 : Addr) : Heap := h.push { cls := .type "list_iterator", data := .fields #[.ref l1, .int 0 0] }
noncomputable abbrev zp2 (h : Heap) (l1 l2 : Addr) : Heap := (zp1 h l1).push { cls := .type "list_iterator", data := .fields #[.ref l2, .int 0 0] }
noncomputable abbrev zp3 (h : Heap) (l1 l2 l3 : Addr) : Heap := (zp2 h l1 l2).push { cls := .type "list_iterator", data := .fields #[.ref l3, .int 0 0] }
noncomputable abbrev zp4 (h : Heap) (l1 l2 l3 : Addr) : Heap := (zp3 h l1 l2 l3).push { cls := .type "tuple", data := .seq #[.ref h.objs.size, .ref (zp1 h l1).objs.size, .ref (zp2 h l1 l2).objs.size] }
noncomputable abbrev zp5 (h : Heap) (l1 l2 l3 : Addr) : Heap := (zp4 h l1 l2 l3).push { cls := .type "tuple", data := .seq #[.none, .none, .none] }
noncomputable abbrev zp6 (h : Heap) (l1 l2 l3 : Addr) : Heap := (zp5 h l1 l2 l3).push { cls := .type "zip", data := .fields #[.none, .bool false, .bool false, .ref (zp3 h l1 l2 l3).objs.size, .ref (zp4 h l1 l2 l3).objs.size] }
set_option maxHeartbeats 2000000 in
theorem meets_zip_new3 (l1 l2 l3 : Addr) (xs ys zs : Array Value) :
    Meets (Builtin.«zip.__new__» ⟨[.type "zip", .ref l1, .ref l2, .ref l3], []⟩) (fun _ R s => s.heap.IsList l1 xs ∧ s.heap.IsList l2 ys ∧ s.heap.IsList l3 zs ∧
      R (.ok (.ret (.ref (zp5 s.heap l1 l2 l3).objs.size))) { s with heap := zp6 s.heap l1 l2 l3 }) :=
  .of_wp fun prog w A R s h => by
    obtain ⟨hp, g, d, tk, os⟩ := s
    obtain ⟨hl1, hl2, hl3, h⟩ := h
    have hsub := PySem.sub_zip
    have hL1 : Heap.IsList (Shared.heap ⟨hp, g, d, tk, os⟩) l1 xs := hl1
    have hL2 : Heap.IsList (Shared.heap ⟨zp1 hp l1, g, d, tk, os⟩) l2 ys := Heap.IsList.push hl2 _
    have hL3 : Heap.IsList (Shared.heap ⟨zp2 hp l1 l2, g, d, tk, os⟩) l3 zs := Heap.IsList.push (Heap.IsList.push hl3 _) _
    wp_walk using wpAny_pyIter_list hL1, wpAny_pyIter_list hL2, wpAny_pyIter_list hL3
    exact ⟨_, rfl, h⟩
end Mine
end -- L18
section -- L19
set_option maxRecDepth 100000
namespace Mine
section
variable {prog : Program} {w : World} {A : Around} {E : Value → Shared → Prop} {s : Shared}
theorem call_zip_3 {l1 l2 l3 : Addr} {xs ys zs : Array Value} {N : Nat} {Q : Value → Shared → Prop} (hN : s.heap.objs.size = N) (hl1 : s.heap.IsList l1 xs) (hl2 : s.heap.IsList l2 ys) (hl3 : s.heap.IsList l3 zs)
    (h : ∀ h', IsZip h' (N + 5) (N + 3) (N + 4) .none → IsTrip h' (N + 3) (.ref N) (.ref (N + 1 : Nat)) (.ref (N + 2 : Nat)) → IsTrip h' (N + 4) .none .none .none → h'.IsListIter N l1 0 → h'.IsListIter (N + 1) l2 0 → h'.IsListIter (N + 2) l3 0 →
      (∀ c o, s.heap.get? c = some o → h'.get? c = some o) → Q (.ref (N + 5 : Nat)) { s with heap := h' }) :
    wpAny (model prog w) A (call (.type "zip") [.ref l1, .ref l2, .ref l3]) Q E s := by
  refine callType_new PySem.F.called_zip (by decide) (typeCall_zip_3 _ _ _) (newCall_zip_3 _ _ _) (fun obj => args_object_init_4 obj _ _ _) PySem.F.entry_zip_new (meets_zip_new3 l1 l2 l3 xs ys zs) ⟨hl1, hl2, hl3, ?_⟩
  have z1 : (zp1 s.heap l1).objs.size = N + 1 := by rw [Heap.size_push, hN]
  have z2 : (zp2 s.heap l1 l2).objs.size = N + 2 := by rw [Heap.size_push, z1]
  have z3 : (zp3 s.heap l1 l2 l3).objs.size = N + 3 := by rw [Heap.size_push, z2]
  have z4 : (zp4 s.heap l1 l2 l3).objs.size = N + 4 := by rw [Heap.size_push, z3]
  have z5 : (zp5 s.heap l1 l2 l3).objs.size = N + 5 := by rw [Heap.size_push, z4]
  have g6 : (zp6 s.heap l1 l2 l3).get? (zp5 s.heap l1 l2 l3).objs.size = some _ := Heap.get?_push_size _ rfl
  have g5 : (zp6 s.heap l1 l2 l3).get? (zp4 s.heap l1 l2 l3).objs.size = some _ := Heap.get?_push_of_some _ (Heap.get?_push_size _ rfl)
  have g4 : (zp6 s.heap l1 l2 l3).get? (zp3 s.heap l1 l2 l3).objs.size = some _ := Heap.get?_push_of_some _ (Heap.get?_push_of_some _ (Heap.get?_push_size _ rfl))
  have g3 : (zp6 s.heap l1 l2 l3).get? (zp2 s.heap l1 l2).objs.size = some _ := Heap.get?_push_of_some _ (Heap.get?_push_of_some _ (Heap.get?_push_of_some _ (Heap.get?_push_size _ rfl)))
  have g2 : (zp6 s.heap l1 l2 l3).get? (zp1 s.heap l1).objs.size = some _ := Heap.get?_push_of_some _ (Heap.get?_push_of_some _ (Heap.get?_push_of_some _ (Heap.get?_push_of_some _ (Heap.get?_push_size _ rfl))))
  have g1 : (zp6 s.heap l1 l2 l3).get? s.heap.objs.size = some _ := Heap.get?_push_of_some _ (Heap.get?_push_of_some _ (Heap.get?_push_of_some _ (Heap.get?_push_of_some _ (Heap.get?_push_of_some _ (Heap.get?_push_size _ rfl)))))
  show _ ∧ _
  rw [z3, z4, z5] at g6
  rw [z4] at g5
  rw [z1, z2, z3, hN] at g4
  rw [z2] at g3
  rw [z1] at g2
  rw [hN] at g1
  rw [z5]
  exact ⟨⟨_, g6, rfl⟩, h _ g6 g4 g5 ⟨_, g1, rfl, rfl⟩ ⟨_, g2, rfl, rfl⟩ ⟨_, g3, rfl, rfl⟩ fun c o e =>
    Heap.get?_push_of_some _ (Heap.get?_push_of_some _ (Heap.get?_push_of_some _ (Heap.get?_push_of_some _ (Heap.get?_push_of_some _ (Heap.get?_push_of_some _ e)))))⟩
end
end Mine
end -- L19
section -- L20
set_option maxRecDepth 100000
namespace Mine
section
variable {prog : Program} {w : World} {A : Around} {E : Value → Shared → Prop} {s : Shared}
theorem pyNext3_item {z TI TO i1 i2 i3 l1 l2 l3 : Addr} {k : Nat} {xs ys zs : Array Value} {x y u a b c : Value} {Q : Option Value → Shared → Prop} (D : Apart3 z TI TO i1 i2 i3 l1 l2 l3)
    (hz : IsZip s.heap z TI TO .none) (hTI : IsTrip s.heap TI (.ref i1) (.ref i2) (.ref i3)) (hTO : IsTrip s.heap TO a b c)
    (h1 : s.heap.IsListIter i1 l1 k) (h2 : s.heap.IsListIter i2 l2 k) (h3 : s.heap.IsListIter i3 l3 k) (hl1 : s.heap.IsList l1 xs) (hl2 : s.heap.IsList l2 ys) (hl3 : s.heap.IsList l3 zs) (hx : xs[k]? = some x) (hy : ys[k]? = some y) (hu : zs[k]? = some u)
    (hQ : ∀ h', IsZip h' z TI TO (rawInt s.heap.objs.size) → IsTrip h' TO x y u → h'.IsListIter i1 l1 (k + 1) → h'.IsListIter i2 l2 (k + 1) → h'.IsListIter i3 l3 (k + 1) → IsTrip h' s.heap.objs.size x y u →
      (∀ d o, d ≠ z → d ≠ TO → d ≠ i1 → d ≠ i2 → d ≠ i3 → s.heap.get? d = some o → h'.get? d = some o) → Q (some (.ref s.heap.objs.size)) { s with heap := h' }) :
    wpAny (model prog w) A (pyNext (.ref z)) Q E s := by
  have hT : s.TypeIs (.ref z) "zip" := ⟨_, hz, rfl⟩
  unfold pyNext
  exact wpAny_bind (wpAny_attempt (wpAny_callSpecial?_slot (name := Str.ofString "__next__") hT PySem.F.slot_zip_next
    (wpAny_call_entry PySem.F.slot_zip_next hT PySem.F.entry_zip_next
      (next3_item D hz hTI hTO h1 h2 h3 hl1 hl2 hl3 hx hy hu fun h' a1 a2 a3 a4 a5 a6 a7 => wpAny_pure (hQ h' a1 a2 a3 a4 a5 a6 a7)) (PySem.F.args_zip_next_1 _))))
theorem pyNext3_end {z TI TO i1 i2 i3 l1 l2 l3 : Addr} {k : Nat} {xs : Array Value} {a b c : Value} {Q : Option Value → Shared → Prop} (hh : A.handled = none) (D : Apart3 z TI TO i1 i2 i3 l1 l2 l3)
    (hz : IsZip s.heap z TI TO .none) (hTI : IsTrip s.heap TI (.ref i1) (.ref i2) (.ref i3)) (hTO : IsTrip s.heap TO a b c)
    (h1 : s.heap.IsListIter i1 l1 k) (hl1 : s.heap.IsList l1 xs) (hx : xs[k]? = none)
    (hQ : ∀ h', (∀ d o, d ≠ z → d ≠ i1 → s.heap.get? d = some o → h'.get? d = some o) → Q none { s with heap := h' }) : wpAny (model prog w) A (pyNext (.ref z)) Q E s := by
  have hT : s.TypeIs (.ref z) "zip" := ⟨_, hz, rfl⟩
  unfold pyNext
  refine wpAny_bind (wpAny_attempt (wpAny_callSpecial?_slot (name := Str.ofString "__next__") hT PySem.F.slot_zip_next
    (wpAny_call_entry PySem.F.slot_zip_next hT PySem.F.entry_zip_next (next3_end hh D hz hTI hTO h1 hl1 hx fun h' e hk he => ?_) (PySem.F.args_zip_next_1 _))))
  obtain ⟨o, ho, hc⟩ := he
  refine wpAny_bind (wpAny_isInstance (T := "StopIteration") (b := true) ⟨o, ho, hc⟩ isSubtype_stop ?_)
  exact wpAny_pure (hQ _ hk)
theorem walks3 (hh : A.handled = none) (z TI TO i1 i2 i3 l1 l2 l3 : Addr) (D : Apart3 z TI TO i1 i2 i3 l1 l2 l3) (xs ys zs : Array Value) (hy : ys.size = xs.size) (hu : zs.size = xs.size) :
    WalksT prog w A z [z, TI, TO, i1, i2, i3, l1, l2, l3] [z, TO, i1, i2, i3] xs.size
      (fun i vals => ∃ x y u, xs[i]? = some x ∧ ys[i]? = some y ∧ zs[i]? = some u ∧ vals = #[x, y, u])
      (fun i h => IsZip h z TI TO .none ∧ IsTrip h TI (.ref i1) (.ref i2) (.ref i3) ∧ (∃ a b c, IsTrip h TO a b c) ∧ h.IsListIter i1 l1 i ∧ h.IsListIter i2 l2 i ∧ h.IsListIter i3 l3 i ∧ h.IsList l1 xs ∧ h.IsList l2 ys ∧ h.IsList l3 zs)
      (fun i T h => IsZip h z TI TO (rawInt T) ∧ IsTrip h TI (.ref i1) (.ref i2) (.ref i3) ∧ (∃ a b c, IsTrip h TO a b c) ∧ h.IsListIter i1 l1 (i + 1) ∧ h.IsListIter i2 l2 (i + 1) ∧ h.IsListIter i3 l3 (i + 1) ∧ h.IsList l1 xs ∧ h.IsList l2 ys ∧ h.IsList l3 zs ∧
        T ∉ [z, TO, i1, i2, i3]) where
  sub := fun c hc => by simp at hc ⊢; rcases hc with rfl | rfl | rfl | rfl | rfl <;> simp
  frame := fun i h h' hst hk => by
    obtain ⟨hz, hTI, ⟨a, b, c, hTO⟩, h1, h2, h3, hl1, hl2, hl3⟩ := hst
    exact ⟨hk z (by simp) _ hz, hk TI (by simp) _ hTI, ⟨a, b, c, hk TO (by simp) _ hTO⟩, h1.at fun o e => hk i1 (by simp) o e, h2.at fun o e => hk i2 (by simp) o e, h3.at fun o e => hk i3 (by simp) o e,
      hl1.at fun o e => hk l1 (by simp) o e, hl2.at fun o e => hk l2 (by simp) o e, hl3.at fun o e => hk l3 (by simp) o e⟩
  item := fun i s Q E hi hst hQ => by
    obtain ⟨hz, hTI, ⟨a, b, c, hTO⟩, h1, h2, h3, hl1, hl2, hl3⟩ := hst
    have hix : i < xs.size := hi
    have hiy : i < ys.size := by rw [hy]; exact hi
    have hiu : i < zs.size := by rw [hu]; exact hi
    refine pyNext3_item D hz hTI hTO h1 h2 h3 hl1 hl2 hl3 (Array.getElem?_eq_getElem hix) (Array.getElem?_eq_getElem hiy) (Array.getElem?_eq_getElem hiu) fun h' a1 a2 a3 a4 a5 a6 hk => ?_
    have lt : ∀ {c o}, s.heap.get? c = some o → s.heap.objs.size ≠ c := fun e => Nat.ne_of_gt (Heap.lt_size e)
    obtain ⟨nd, dl1, dl2, dl3⟩ := D
    simp only [List.nodup_cons, List.mem_cons, List.not_mem_nil, or_false, not_or] at nd dl1 dl2 dl3
    obtain ⟨⟨zTI, zTO, zi1, zi2, zi3⟩, ⟨TITO, TIi1, TIi2, TIi3⟩, _⟩ := nd
    obtain ⟨l1z, l1TO, l1i1, l1i2, l1i3⟩ := dl1
    obtain ⟨l2z, l2TO, l2i1, l2i2, l2i3⟩ := dl2
    obtain ⟨l3z, l3TO, l3i1, l3i2, l3i3⟩ := dl3
    have n1 : s.heap.objs.size ≠ i1 := by obtain ⟨_, e, _⟩ := h1; exact lt e
    have n2 : s.heap.objs.size ≠ i2 := by obtain ⟨_, e, _⟩ := h2; exact lt e
    have n3 : s.heap.objs.size ≠ i3 := by obtain ⟨_, e, _⟩ := h3; exact lt e
    exact hQ s.heap.objs.size #[xs[i], ys[i], zs[i]] h' s.toks ⟨_, _, _, Array.getElem?_eq_getElem hix, Array.getElem?_eq_getElem hiy, Array.getElem?_eq_getElem hiu, rfl⟩ (Nat.le_refl _) ⟨_, a6, rfl, _, rfl⟩
      ⟨a1, hk _ _ (Ne.symm zTI) TITO TIi1 TIi2 TIi3 hTI, ⟨_, _, _, a2⟩, a3, a4, a5, hl1.at fun o e => hk _ o l1z l1TO l1i1 l1i2 l1i3 e, hl2.at fun o e => hk _ o l2z l2TO l2i1 l2i2 l2i3 e, hl3.at fun o e => hk _ o l3z l3TO l3i1 l3i2 l3i3 e,
        by simp only [List.mem_cons, List.not_mem_nil, or_false, not_or]; exact ⟨lt hz, lt hTO, n1, n2, n3⟩⟩
      fun c o hc e => hk c o (fun x => hc (by simp [x])) (fun x => hc (by simp [x])) (fun x => hc (by simp [x])) (fun x => hc (by simp [x])) (fun x => hc (by simp [x])) e
  go := fun elts k pos i T s Q E hm hQ => by
    obtain ⟨hz, hTI, ⟨a, b, c, hTO⟩, h1, h2, h3, hl1, hl2, hl3, _⟩ := hm
    obtain ⟨nd, dl1, dl2, dl3⟩ := D
    simp only [List.nodup_cons, List.mem_cons, List.not_mem_nil, or_false, not_or] at nd dl1 dl2 dl3
    obtain ⟨⟨zTI, zTO, zi1, zi2, zi3⟩, _⟩ := nd
    refine wpAny_letOwnedTupleGo_zip hz fun h' hz' hs' => hQ h' ⟨hz', hs'.extBut _ _ (Ne.symm zTI) hTI, ⟨a, b, c, hs'.extBut _ _ (Ne.symm zTO) hTO⟩, h1.extBut hs'.extBut (Ne.symm zi1), h2.extBut hs'.extBut (Ne.symm zi2), h3.extBut hs'.extBut (Ne.symm zi3),
      hl1.extBut hs'.extBut dl1.1, hl2.extBut hs'.extBut dl2.1, hl3.extBut hs'.extBut dl3.1⟩ fun c o hc e => hs'.extBut _ _ (fun x => hc (by simp [x])) e
  apart := fun i T h hm hT => hm.2.2.2.2.2.2.2.2.2 hT
  done := fun s Q E hst hQ => by
    obtain ⟨hz, hTI, ⟨a, b, c, hTO⟩, h1, h2, h3, hl1, hl2, hl3⟩ := hst
    exact pyNext3_end hh D hz hTI hTO h1 hl1 (Array.getElem?_eq_none (Nat.le_refl _)) fun h' hk => hQ h' s.toks fun c o hc e =>
      hk c o (fun x => hc (by simp [x])) (fun x => hc (by simp [x])) e
  self := fun i s Q E hst hQ => wpAny_pyIter_zip hst.1 hQ
end
end Mine
end -- L20
section -- L21
set_option maxRecDepth 10000
namespace Mine
section
variable {Γ : Fx} {ρ : Loc}
noncomputable def tripUp : List PV → List PV → List PV → List (List PV)
  | a :: as, b :: bs, c :: cs => [a, b, c] :: tripUp as bs cs
  | _, _, _ => []
theorem tripUp_length : ∀ as bs cs : List PV, bs.length = as.length → cs.length = as.length → (tripUp as bs cs).length = as.length
  | [], _, _, _, _ => by simp [tripUp]
  | _ :: _, [], _, h, _ => by simp at h
  | _ :: _, _ :: _, [], _, h => by simp at h
  | a :: as, b :: bs, c :: cs, h1, h2 => by
    simp only [List.length_cons, Nat.add_right_cancel_iff] at h1 h2
    simp [tripUp, tripUp_length as bs cs h1 h2]
theorem tripUp_get : ∀ (as bs cs : List PV) (i : Nat) (a b c : PV), as[i]? = some a → bs[i]? = some b → cs[i]? = some c → (tripUp as bs cs)[i]? = some [a, b, c]
  | [], _, _, i, a, b, c, h, _, _ => by simp at h
  | _ :: _, [], _, i, a, b, c, _, h, _ => by simp at h
  | _ :: _, _ :: _, [], i, a, b, c, _, _, h => by simp at h
  | x :: as, y :: bs, u :: cs, 0, a, b, c, h1, h2, h3 => by simp at h1 h2 h3; subst h1; subst h2; subst h3; rfl
  | x :: as, y :: bs, u :: cs, i + 1, a, b, c, h1, h2, h3 => by
    simp only [List.getElem?_cons_succ] at h1 h2 h3
    show (tripUp as bs cs)[i]? = _
    exact tripUp_get as bs cs i a b c h1 h2 h3
theorem Reps.three {G : View} {d1 d2 d3 : PV} {vs : List Value} (h : Reps G [d1, d2, d3] vs) : ∃ v1 v2 v3, vs = [v1, v2, v3] ∧ Rep G d1 v1 ∧ Rep G d2 v2 ∧ Rep G d3 v3 := by
  cases h with | cons h1 h => ?_
  cases h with | cons h2 h => ?_
  cases h with | cons h3 h => ?_
  cases h
  exact ⟨_, _, _, rfl, h1, h2, h3⟩
theorem IT2.zip3 (hΓ : Γ.Ok) {e1 e2 e3 p pos as bs cs} (hg : GL Γ.C (Str.ofString "zip") (.type "zip")) (hk : Γ.env.kindOf (Str.ofString "zip") = some .globalImplicit) (h1 : EV Γ ρ none e1 (.list as)) (hs1 : isStarred e1 = false) (h2 : EV Γ ρ none e2 (.list bs)) (hs2 : isStarred e2 = false) (h3 : EV Γ ρ none e3 (.list cs)) (hs3 : isStarred e3 = false)
    (hb : bs.length = as.length) (hc : cs.length = as.length) :
    IT2 Γ ρ (.Call (.Name (Str.ofString "zip") p) [e1, e2, e3] [] pos) (tripUp as bs cs) := fun a s E Q hs hQ =>
  Call_Name rfl (wpAny_mono (EV1.glob hΓ hg hk (by decide) a s E hs) (fun f s1 h1' => by
    obtain ⟨k1, rfl⟩ := h1'
    have hv : EVs Γ ρ none [e1, e2, e3] [.list as, .list bs, .list cs] := .cons h1 hs1 (.cons h2 hs2 (.cons h3 hs3 .nil))
    refine callWith_any (C := Γ.C) .type hv.plain (hv.spliced a s1 E _ (hs.kept k1) fun vs s2 k2 rvs => ⟨((hs.kept k1).kept k2).ctx hΓ, ?_⟩)
    obtain ⟨v1, v2, v3, rfl, r1, r2, r3⟩ := rvs.three
    obtain ⟨l1, xs, n1, rfl, ha1, hr1⟩ := r1.list_inv
    obtain ⟨l2, ys, n2, rfl, ha2, hr2⟩ := r2.list_inv
    obtain ⟨l3, zs, n3, rfl, ha3, hr3⟩ := r3.list_inv
    obtain ⟨hn1, hg1, _⟩ := vw_some.mp ha1
    obtain ⟨hn2, hg2, _⟩ := vw_some.mp ha2
    obtain ⟨hn3, hg3, _⟩ := vw_some.mp ha3
    have hl1 : s2.heap.IsList l1 xs := ⟨_, hg1, rfl, n1, rfl⟩
    have hl2 : s2.heap.IsList l2 ys := ⟨_, hg2, rfl, n2, rfl⟩
    have hl3 : s2.heap.IsList l3 zs := ⟨_, hg3, rfl, n3, rfl⟩
    have hst2 := (hs.kept k1).kept k2
    have lt1 := Heap.lt_size hg1
    have lt2 := Heap.lt_size hg2
    have lt3 := Heap.lt_size hg3
    generalize hN : s2.heap.objs.size = N at *
    refine call_zip_3 hN hl1 hl2 hl3 fun h' a1 a2 a3 a4 a5 a6 hk' => ?_
    have k3 : Kp s2 { s2 with heap := h' } := Kp.ofh hk'
    have above : ∀ j, s2.heap.get? (N + j) = none := fun j => by
      cases e : s2.heap.get? (N + j) with
      | none => rfl
      | some o => exact absurd (Heap.lt_size e) (by rw [hN]; exact Nat.not_lt.mpr (Nat.le_add_right _ _))
    have above0 : s2.heap.get? N = none := above 0
    have k02 : Kp s s2 := k1.trans k2
    have ne : ∀ {i j : Nat}, i ≠ j → (N + i : Addr) ≠ N + j := fun h q => h (Nat.add_left_cancel q)
    have ne0 : ∀ {j : Nat}, 0 ≠ j → (N : Addr) ≠ N + j := fun {j} h q => h (by have : N + 0 = N + j := q; exact Nat.add_left_cancel this)
    have ln : ∀ {l : Addr} (j : Nat), l < N → l ≠ N + j := fun j h q => absurd h (by rw [q]; exact Nat.not_lt.mpr (Nat.le_add_right _ _))
    have ln0 : ∀ {l : Addr}, l < N → l ≠ N := fun h q => absurd h (by rw [q]; exact Nat.lt_irrefl _)
    have nin : ∀ {l : Addr}, l < N → l ∉ [(N + 5 : Addr), N + 4, N, N + 1, N + 2] := fun {l} h => by
      simp only [List.mem_cons, List.not_mem_nil, or_false, not_or]
      exact ⟨ln _ h, ln _ h, ln0 h, ln _ h, ln _ h⟩
    have D : Apart3 (N + 5) (N + 3) (N + 4) N (N + 1) (N + 2) l1 l2 l3 := ⟨by
      simp only [List.nodup_cons, List.mem_cons, List.not_mem_nil, or_false, not_or, not_false_eq_true, true_and, List.nodup_nil, and_true]
      exact ⟨⟨ne (by decide), ne (by decide), (ne0 (by decide)).symm, ne (by decide), ne (by decide)⟩, ⟨ne (by decide), (ne0 (by decide)).symm, ne (by decide), ne (by decide)⟩,
        ⟨(ne0 (by decide)).symm, ne (by decide), ne (by decide)⟩, ⟨ne0 (by decide), ne0 (by decide)⟩, ne (by decide)⟩, nin lt1, nin lt2, nin lt3⟩
    have hsy : ys.size = xs.size := by
      have e1 := hr1.length; have e2 := hr2.length
      rw [Array.length_toList] at e1 e2
      exact e2.symm.trans (hb.trans e1)
    have hsu : zs.size = xs.size := by
      have e1 := hr1.length; have e2 := hr3.length
      rw [Array.length_toList] at e1 e2
      exact e2.symm.trans (hc.trans e1)
    have W := walks3 (prog := Γ.prog) (w := Γ.w) (A := Γ.A) hΓ.handled (N + 5) (N + 3) (N + 4) N (N + 1) (N + 2) l1 l2 l3 D xs ys zs hsy hsu
    have hst3 := hst2.kept k3
    have hidn : ∀ b, s2.heap.get? b = none → b ∉ Γ.hid := fun b e q => by obtain ⟨o, e'⟩ := hst2.hid b q; rw [e] at e'; cases e'
    have hzl : (tripUp as bs cs).length = xs.size := by
      rw [tripUp_length _ _ _ hb hc, hr1.length, Array.length_toList]
    refine wpAny_pyIter_zip a1 (hQ _ (N + 5) (N + 4) _ _ _ _ _ (k02.trans k3) (kp_none k02 (above 4)) ⟨_, a3⟩ (hzl ▸ W) ⟨a1, a2, ⟨_, _, _, a3⟩, a4, a5, a6, hl1.at fun o e => hk' _ o e, hl2.at fun o e => hk' _ o e, hl3.at fun o e => hk' _ o e⟩ (by simp) (fun b hb => ?_) (fun b hb => ?_) (fun i h hT b hb => ?_) (fun i t h hM b hb => ?_) (fun i vals hP => ?_))
    · simp at hb
      rcases hb with rfl | rfl | rfl | rfl | rfl | rfl | rfl | rfl | rfl
      · exact hidn _ (above 5)
      · exact hidn _ (above 3)
      · exact hidn _ (above 4)
      · exact hidn _ above0
      · exact hidn _ (above 1)
      · exact hidn _ (above 2)
      · exact hn1
      · exact hn2
      · exact hn3
    · simp at hb
      rcases hb with rfl | rfl | rfl | rfl | rfl
      · exact kp_none k02 (above 5)
      · exact kp_none k02 (above 4)
      · exact kp_none k02 above0
      · exact kp_none k02 (above 1)
      · exact kp_none k02 (above 2)
    · obtain ⟨b1, b2, ⟨x, y, u, b3⟩, ⟨o4, b4, b4', _⟩, ⟨o5, b5, b5', _⟩, ⟨o6, b6, b6', _⟩, _⟩ := hT
      simp at hb
      rcases hb with rfl | rfl | rfl | rfl | rfl
      · exact ⟨_, b1, fun _ => rfl⟩
      · exact ⟨_, b3, fun q => absurd rfl q⟩
      · exact ⟨_, b4, fun _ => by unfold isData; rw [b4']; decide⟩
      · exact ⟨_, b5, fun _ => by unfold isData; rw [b5']; decide⟩
      · exact ⟨_, b6, fun _ => by unfold isData; rw [b6']; decide⟩
    · obtain ⟨b1, b2, ⟨x, y, u, b3⟩, ⟨o4, b4, b4', _⟩, ⟨o5, b5, b5', _⟩, ⟨o6, b6, b6', _⟩, _⟩ := hM
      simp at hb
      rcases hb with rfl | rfl | rfl | rfl | rfl
      · exact ⟨_, b1, fun _ => rfl⟩
      · exact ⟨_, b3, fun q => absurd rfl q⟩
      · exact ⟨_, b4, fun _ => by unfold isData; rw [b4']; decide⟩
      · exact ⟨_, b5, fun _ => by unfold isData; rw [b5']; decide⟩
      · exact ⟨_, b6, fun _ => by unfold isData; rw [b6']; decide⟩
    · obtain ⟨x, y, u, hx, hy, hu, rfl⟩ := hP
      obtain ⟨d1, hd1, q1⟩ := hr1.get' i x (by simpa using hx)
      obtain ⟨d2, hd2, q2⟩ := hr2.get' i y (by simpa using hy)
      obtain ⟨d3, hd3, q3⟩ := hr3.get' i u (by simpa using hu)
      have le : Le (vw s2.heap (Γ.hids none a)) (vw h' ((N + 4 : Nat) :: Γ.hid)) := fun b o e => by
        obtain ⟨e1, e2, e3⟩ := vw_some.mp e
        refine vw_some.mpr ⟨fun hm => ?_, hk' b o e2, e3⟩
        rcases List.mem_cons.mp hm with q | q
        · rw [q, above 4] at e2; cases e2
        · exact e1 q
      exact ⟨_, tripUp_get as bs cs i d1 d2 d3 hd1 hd2 hd3, .cons (q1.mono le) (.cons (q2.mono le) (.cons (q3.mono le) .nil))⟩) fun _ _ e => e)
end
end Mine
end -- L21
section -- L22
set_option maxRecDepth 10000
namespace Mine
theorem form_of {n : Nat} {l : List (Bool × Sem Value)} (h : l.any (·.1) = false) (hn : n < 30) : methodCallForm n l [] = true := by
  unfold methodCallForm
  have : l.all (fun x => !x.1) = true := by
    rw [List.all_eq_true]
    intro x hx
    have := List.any_eq_false.mp h x hx
    simpa using this
  rw [this]
  simp
  omega
theorem he_meth {o : Expr} {name : Str} {apos pos : Pos} {args : List Expr} {env : Env} (hb : attributeBase o name env (eval o env) = eval o env) (hf : (backTo pos (starEach args env)).any (·.1) = false) (hn : args.length < 30) (hp : (apos.endLine == pos.line) = true) :
    eval (.Call (.Attribute o name apos) args [] pos) env = (do
      let ov ← eval o env
      standAt apos.atName
      let (f, first) ← holding [ov] (getMethod ov name (do return (← importBound o env).getD true))
      callWith pos f first (backTo pos (starEach args env)) (backToKw pos (keywordEach [] env))) := by
  rw [arm_eval_Call, hb]
  have e : backToKw pos (keywordEach [] env) = [] := rfl
  rw [e]
  unfold methodCall methodCallPos
  rw [form_of hf (by rw [List.length_nil]; exact hn)]
  simp only [calleeOf, hp, Bool.not_true, Bool.false_or, if_true, pure_bind]
section
variable {Γ : Fx} {ρ : Loc} {mu : Mu}
theorem EV.meth2 (hΓ : Γ.Ok) {o name apos args pos d0 ds d f k} (h0 : EV Γ ρ mu o d0) (hm : GM Γ.prog Γ.w Γ.C d0 name f) (hk : Kee Γ.C f) (ha : EVs Γ ρ mu args ds)
    (hc : CS Γ.prog Γ.w Γ.C k f (d0 :: ds) d) (hk' : k ≤ Γ.k) (h5 : 5 ≤ k) (hb : attributeBase o name Γ.env (eval o Γ.env) = eval o Γ.env) (hn : args.length < 30) (hp : (apos.endLine == pos.line) = true) :
    EV Γ ρ mu (.Call (.Attribute o name apos) args [] pos) d :=
  @EV.meth _ _ _ hΓ _ _ _ _ _ _ _ _ _ _ _ h0 hm hk ha hc hk' h5 (he_meth hb ha.plain hn hp)
theorem he_name {x : Str} {p pos : Pos} {args : List Expr} {env : Env} : eval (.Call (.Name x p) args [] pos) env = (do callWith pos (← eval (.Name x p) env) [] (backTo pos (starEach args env)) (backToKw pos (keywordEach [] env))) := rfl
/-- sep.join([elt for x in iter]) -/
theorem EV.joinc (hΓ : Γ.Ok) {sep : Str} {kk : Nat} {p apos cpos pos px : Pos} {elt iter : Expr} {x : Str} {scope : Scope} {cl : List (Str × Addr)} {ds : List PV} {ys : List Str} (K : CompOk Γ scope cl x) (hi : IT Γ ρ mu iter ds) (hc : CL Γ ρ scope cl x [] elt ds (ys.map PV.str))
    (hfold : ∀ v, foldedSetIterable iter Γ.env v = pure v) (hl : ys.length ≤ sizeLine) (hok : (ys.map fun x => x.length).sum + ys.length * sep.length ≤ 16777216) (hp : (apos.endLine == pos.line) = true) :
    EV Γ ρ mu (.Call (.Attribute (.Constant (.str sep) kk p) (Str.ofString "join") apos) [.ListComp elt [⟨.Name x px, iter, [], 0⟩] scope cpos] [] pos) (.str (Txt.join sep ys)) :=
  @EV.meth2 _ _ _ hΓ _ _ _ _ _ _ _ _ _ _ EV.str (GM.str PySem.F.slot_str_join PySem.F.type_str_join) .builtin (.cons (@EV.comp _ _ _ hΓ _ _ _ _ _ _ _ _ _ _ K hi hc hfold (by rw [List.length_map]; exact hl)) rfl .nil) (c_join (k := 5) hok) hΓ.room (by decide) rfl (show (1 : Nat) < 30 by decide) hp
end
end Mine
end -- L22
section -- R1
set_option maxRecDepth 10000
namespace Mine
open PySem.Sre

theorem step_done {m : M} (h : m.outcome.isSome = true) : m.step = m := by unfold M.step; rw [if_pos h]
theorem runFor_done {m : M} (h : m.outcome.isSome = true) : ∀ n, M.runFor n m = m
  | 0 => rfl
  | n + 1 => by unfold M.runFor; rw [if_pos h]
theorem runFor_succ (n : Nat) (m : M) : M.runFor (n + 1) m = M.runFor n m.step := by
  rw [M.runFor]
  split
  · rename_i h
    rw [step_done h, runFor_done h]
  · rfl
theorem runFor_add (b : Nat) : ∀ (a : Nat) (m : M), M.runFor (a + b) m = M.runFor b (M.runFor a m)
  | 0, m => by rw [Nat.zero_add]; rfl
  | a + 1, m => by rw [Nat.add_right_comm, runFor_succ, runFor_succ, runFor_add b a]

/-- m ends as m' within n steps -/
noncomputable def Ends (n : Nat) (m m' : M) : Prop := ∃ k, k ≤ n ∧ M.runFor k m = m' ∧ m'.outcome.isSome = true
theorem Ends.step {n m m'} (h : Ends n m.step m') : Ends (n + 1) m m' := by
  obtain ⟨k, hk, e, o⟩ := h
  exact ⟨k + 1, by omega, by rw [runFor_succ, e], o⟩
theorem Ends.here {m} (h : m.outcome.isSome = true) : Ends 0 m m := ⟨0, Nat.le_refl _, rfl, h⟩
theorem Ends.mono {n n' m m'} (h : Ends n m m') (hn : n ≤ n') : Ends n' m m' := let ⟨k, a, b, c⟩ := h; ⟨k, by omega, b, c⟩

noncomputable def c1 : Array Nat := #[14, 4, 0, 1, 1, 6, 1, 16, 46, 1]
noncomputable def c2 : Array Nat := #[14, 9, 4, 1, 2, 16, 10, 16, 13, 0, 7, 7, 16, 13, 16, 10, 15, 18, 5, 16, 10, 15, 13, 11, 16, 13, 5, 5, 0, 16, 10, 1, 15, 2, 0, 1]

section
variable {m : M}
theorem step_exec (h0 : m.outcome = none) (ha : m.answer = none) (hpc : m.pc < m.code.size) : m.step = m.exec := by
  unfold M.step
  rw [h0, if_neg (by decide), ha, if_pos hpc]
theorem step_lit {c : Nat} (h0 : m.outcome = none) (ha : m.answer = none) (hpc : m.pc < m.code.size) (hop : m.code.getD m.pc 0 = 16) (hc : m.code.getD (m.pc + 1) 0 = c) :
    m.step = if m.pos < m.lim ∧ m.text.getD m.pos 0 = c then { m with seen := m.seen.add 16, pc := m.pc + 2, pos := m.pos + 1 } else { m with seen := m.seen.add 16, answer := some false } := by
  rw [step_exec h0 ha hpc]
  unfold M.exec M.word
  rw [Nat.add_zero, hop]
  show (if m.pos ≥ m.lim then _ else _) = _
  by_cases hp : m.pos < m.lim
  · rw [if_neg (by omega)]
    have e : accepts m.code m.pc (m.text.getD m.pos 0) (m.seen.add 16) = .ok (m.text.getD m.pos 0 == c, m.seen.add 16) := by
      unfold accepts; rw [hop, hc]; rfl
    have w : itemWidth m.code m.pc = 2 := by unfold itemWidth; rw [hop]; rfl
    show (match accepts m.code m.pc (m.text.getD m.pos 0) (m.seen.add 16) with | .error why => _ | .ok (false, seen) => _ | .ok (true, seen) => _) = _
    rw [e]
    by_cases hc' : m.text.getD m.pos 0 = c
    · rw [if_pos ⟨hp, hc'⟩, beq_iff_eq.mpr hc']
      show ({ m with seen := m.seen.add 16, pc := m.pc + itemWidth m.code m.pc, pos := m.pos + 1 } : M) = _
      rw [w]
    · rw [if_neg (fun h => hc' h.2), beq_eq_false_iff_ne.mpr hc']
      rfl
  · rw [if_pos (by omega), if_neg (fun h => hp h.1)]
    rfl
theorem step_success (h0 : m.outcome = none) (ha : m.answer = none) (hpc : m.pc < m.code.size) (hop : m.code.getD m.pc 0 = 1) (hw : m.wholeText = false) (hm : m.mustAdvance = false) :
    m.step = { m with seen := m.seen.add 1, handed := m.pos, answer := some true } := by
  rw [step_exec h0 ha hpc]
  unfold M.exec M.word
  rw [Nat.add_zero, hop]
  show (if (m.outermost && ((m.wholeText && m.pos != m.lim) || (m.mustAdvance && m.pos == m.start))) = true then _ else _) = _
  rw [hw, hm, if_neg (by simp)]
  rfl
theorem step_jump {c : Nat} (h0 : m.outcome = none) (ha : m.answer = none) (hpc : m.pc < m.code.size) (hop : m.code.getD m.pc 0 = 15) (hc : m.code.getD (m.pc + 1) 0 = c) :
    m.step = { m with seen := m.seen.add 15, pc := m.pc + 1 + c } := by
  rw [step_exec h0 ha hpc]
  unfold M.exec M.word
  rw [Nat.add_zero, hop]
  show ({ m with seen := m.seen.add 15, pc := m.pc + 1 + m.code.getD (m.pc + 1) 0 } : M) = _
  rw [hc]
theorem step_bol (h0 : m.outcome = none) (ha : m.answer = none) (hpc : m.pc < m.code.size) (hop : m.code.getD m.pc 0 = 6) (hc : m.code.getD (m.pc + 1) 0 = 1) :
    m.step = if (m.pos == 0 || m.text.getD (m.pos - 1) 0 == 10) = true then { m with seen := (m.seen.add 6).add 44, pc := m.pc + 2 } else { m with seen := (m.seen.add 6).add 44, answer := some false } := by
  rw [step_exec h0 ha hpc]
  unfold M.exec M.word
  rw [Nat.add_zero, hop]
  show (match M.isAt { m with seen := m.seen.add 6 } (m.code.getD (m.pc + 1) 0) with
    | .error why => M.stick { m with seen := m.seen.add 6 } why
    | .ok yes => if yes = true then ({ m with seen := (m.seen.add 6).add (43 + m.code.getD (m.pc + 1) 0), pc := m.pc + 2 } : M) else { m with seen := (m.seen.add 6).add (43 + m.code.getD (m.pc + 1) 0), answer := some false }) = _
  rw [hc]
  rfl
theorem step_alt (alt : Nat) (kept : Sre.Kept) {c : Nat} (hz : m.code.getD alt 0 = c) (hc : c ≠ 0) (hw : m.weight + 1 + kept.marks.size ≤ 16777216) : m.alternative alt kept =
    { m with frames := { wait := .nextBranch, pc := alt, pos := m.pos, outermost := m.outermost, kept } :: m.frames, weight := m.weight + 1 + kept.marks.size, pc := alt + 1, handed := m.pos } := by
  unfold M.alternative
  rw [hz, if_neg (by simpa using hc)]
  unfold M.attempt
  rw [if_neg (by show ¬ (m.weight + 1 + kept.marks.size > _); omega)]
  rfl
theorem step_branch (h0 : m.outcome = none) (ha : m.answer = none) (hpc : m.pc < m.code.size) (hop : m.code.getD m.pc 0 = 7) (hi : m.inner = none) :
    m.step = ({ m with seen := m.seen.add 7 } : M).alternative (m.pc + 1) { lastmark := m.lastmark, lastindex := m.lastindex } := by
  rw [step_exec h0 ha hpc]
  unfold M.exec M.word
  rw [Nat.add_zero, hop]
  show ({ m with seen := m.seen.add 7 } : M).alternative (m.pc + 1) (M.keep { m with seen := m.seen.add 7 } m.inner.isSome) = _
  rw [hi]
  rfl
theorem step_not {c : Nat} (h0 : m.outcome = none) (ha : m.answer = none) (hpc : m.pc < m.code.size) (hop : m.code.getD m.pc 0 = 5) (hz : m.code.getD (m.pc + 2) 0 = 0) (hi : m.inner = none) (hw : m.weight + 1 ≤ 16777216) :
    m.step = { m with seen := m.seen.add 5, frames := { wait := .lookNot, pc := m.pc, pos := m.pos, outermost := m.outermost, kept := { lastmark := m.lastmark, lastindex := m.lastindex } } :: m.frames, weight := m.weight + 1, pc := m.pc + 3, handed := m.pos, outermost := false } := by
  rw [step_exec h0 ha hpc]
  unfold M.exec M.word
  rw [Nat.add_zero, hop]
  show (if m.pos < m.code.getD (m.pc + 2) 0 then _ else M.attempt { m with seen := m.seen.add 5 } { M.frame { m with seen := m.seen.add 5 } .lookNot with kept := M.keep { m with seen := m.seen.add 5 } (true && m.inner.isSome) } (m.pc + 3) (m.pos - m.code.getD (m.pc + 2) 0) false) = _
  rw [hz, if_neg (Nat.not_lt_zero _)]
  show M.attempt { m with seen := m.seen.add 5 } { M.frame { m with seen := m.seen.add 5 } .lookNot with kept := M.keep { m with seen := m.seen.add 5 } (true && m.inner.isSome) } (m.pc + 3) (m.pos - 0) false = _
  rw [hi]
  unfold M.attempt
  rw [if_neg (by show ¬ (m.weight + 1 + 0 > _); omega)]
  rfl
theorem step_pop {f : Sre.Frame} {rest : List Sre.Frame} {yes : Bool} (h0 : m.outcome = none) (ha : m.answer = some yes) (hf : m.frames = f :: rest) :
    m.step = M.resume { m with answer := none, frames := rest, weight := m.weight - (1 + f.kept.marks.size), pc := f.pc, pos := f.pos, outermost := f.outermost } f yes := by
  unfold M.step
  rw [h0, if_neg (by decide), ha, hf]
theorem step_end {yes : Bool} (h0 : m.outcome = none) (ha : m.answer = some yes) (hf : m.frames = []) : m.step = { m with outcome := some (if yes then .matched else .failed) } := by
  unfold M.step
  rw [h0, if_neg (by decide), ha, hf]
end

/-- the first pattern, where a place is tried -/
noncomputable def B1 (text : Array Nat) (lim s : Nat) (f : Bool) (pc pos handed : Nat) (seen : Sre.Seen) (answer : Option Bool) : M :=
  { code := c1, text, lim, start := s, lastStart := lim, pc, pos, handed, outermost := f, marks := #[], weight := 1, seen, answer,
    frames := [{ wait := .nextStart, pc := 5, pos := s, outermost := f }] }
noncomputable def bol (text : Array Nat) (s : Nat) : Bool := s == 0 || text.getD (s - 1) 0 == 10
noncomputable def hit1 (text : Array Nat) (lim s : Nat) : Bool := bol text s && (decide (s < lim) && text.getD s 0 == 46)
noncomputable def find1 (text : Array Nat) (lim : Nat) : Nat → Nat → Option (Nat × Nat)
  | 0, s => none
  | n + 1, s => if hit1 text lim s then some (s, s + 1) else find1 text lim n (s + 1)
noncomputable def Good (m : M) : Option (Nat × Nat) → Prop
  | some (q, e) => m.outcome = some .matched ∧ m.start = q ∧ m.handed = e
  | none => m.outcome = some .failed

section
variable {text : Array Nat} {lim s : Nat} {f : Bool} {pc pos handed : Nat} {seen : Sre.Seen}
theorem b1_bol : (B1 text lim s f 5 s handed seen none).step = if bol text s = true then B1 text lim s f 7 s handed ((seen.add 6).add 44) none else B1 text lim s f 5 s handed ((seen.add 6).add 44) (some false) :=
  step_bol rfl rfl (of_decide_eq_true rfl) rfl rfl
theorem b1_lit : (B1 text lim s f 7 s handed seen none).step = if s < lim ∧ text.getD s 0 = 46 then B1 text lim s f 9 (s + 1) handed (seen.add 16) none else B1 text lim s f 7 s handed (seen.add 16) (some false) :=
  step_lit rfl rfl (of_decide_eq_true rfl) rfl rfl
theorem b1_success : (B1 text lim s f 9 pos handed seen none).step = B1 text lim s f 9 pos pos (seen.add 1) (some true) :=
  step_success rfl rfl (of_decide_eq_true rfl) rfl rfl rfl
noncomputable def E1 (text : Array Nat) (lim s : Nat) (f : Bool) (handed : Nat) (seen : Sre.Seen) (yes : Bool) : M :=
  { code := c1, text, lim, start := s, lastStart := lim, pc := 5, pos := s, handed, outermost := f, marks := #[], weight := 0, seen, answer := some yes, frames := [] }
theorem b1_yes : (B1 text lim s f pc pos handed seen (some true)).step = E1 text lim s f handed seen true := by
  refine (step_pop (rest := []) (yes := true) rfl rfl rfl).trans ?_
  rfl
theorem b1_more (h : s < lim) : (B1 text lim s f pc pos handed seen (some false)).step = B1 text lim (s + 1) false 5 (s + 1) (s + 1) seen none := by
  refine (step_pop (rest := []) (yes := false) rfl rfl rfl).trans ?_
  show (if s < lim then _ else _) = _
  rw [if_pos h]
  rfl
theorem b1_last (h : ¬ s < lim) : (B1 text lim s f pc pos handed seen (some false)).step = E1 text lim s f handed seen false := by
  refine (step_pop (rest := []) (yes := false) rfl rfl rfl).trans ?_
  show (if s < lim then _ else _) = _
  rw [if_neg h]
  rfl
theorem e1_end {yes} : (E1 text lim s f handed seen yes).step = { E1 text lim s f handed seen yes with outcome := some (if yes then .matched else .failed) } := step_end rfl rfl rfl

theorem run1 : ∀ (n s : Nat) (f : Bool) (handed : Nat) (seen : Sre.Seen), s + n = lim → ∃ m', Ends (3 * n + 6) (B1 text lim s f 5 s handed seen none) m' ∧ Good m' (find1 text lim n s)
  | n, s, f, handed, seen, hn => by
    have fail : ∀ k, k ≤ 1 → ∀ pc seen, hit1 text lim s = false → ∃ m', Ends (3 * n + 4) (B1 text lim s f pc s handed seen (some false)) m' ∧ Good m' (find1 text lim n s) := by
      intro k hk pc seen hh
      match n, hn with
      | 0, hn =>
        refine ⟨{ E1 text lim s f handed seen false with outcome := some .failed }, (Ends.step (n := 1) ?_).mono (by omega), ?_⟩
        · rw [b1_last (by omega)]
          refine Ends.step ?_
          rw [e1_end]
          exact Ends.here rfl
        · rfl
      | n + 1, hn =>
        obtain ⟨m', h1, h2⟩ := run1 n (s + 1) false (s + 1) seen (by omega)
        refine ⟨m', (Ends.step (n := 3 * n + 6) ?_).mono (by omega), ?_⟩
        · rw [b1_more (by omega)]; exact h1
        · unfold find1; rw [hh, if_neg (by decide)]; exact h2
    by_cases hb : bol text s = true
    · by_cases hl : s < lim ∧ text.getD s 0 = 46
      · have hh : hit1 text lim s = true := by unfold hit1; rw [hb, hl.2]; simp [hl.1]
        match n, hn with
        | 0, hn => exact absurd hl.1 (by omega)
        | n + 1, hn =>
          refine ⟨{ E1 text lim s f (s + 1) ((((seen.add 6).add 44).add 16).add 1) true with outcome := some .matched }, (Ends.step (n := 4) ?_).mono (by omega), ?_⟩
          · rw [b1_bol, if_pos hb]
            refine Ends.step ?_
            rw [b1_lit, if_pos hl]
            refine Ends.step ?_
            rw [b1_success]
            refine Ends.step ?_
            rw [b1_yes]
            refine Ends.step ?_
            rw [e1_end]
            exact Ends.here rfl
          · unfold find1
            rw [hh]
            exact ⟨rfl, rfl, rfl⟩
      · have hh : hit1 text lim s = false := by
          unfold hit1
          rw [hb, Bool.true_and]
          by_cases h1 : s < lim
          · have : text.getD s 0 ≠ 46 := fun h2 => hl ⟨h1, h2⟩
            rw [beq_eq_false_iff_ne.mpr this, Bool.and_false]
          · simp [h1]
        obtain ⟨m', h1, h2⟩ := fail 0 (by omega) 7 (((seen.add 6).add 44).add 16) hh
        refine ⟨m', (Ends.step (n := 3 * n + 5) ?_), h2⟩
        rw [b1_bol, if_pos hb]
        refine Ends.step ?_
        rw [b1_lit, if_neg hl]
        exact h1
    · have hh : hit1 text lim s = false := by unfold hit1; rw [Bool.eq_false_iff.mpr hb]; rfl
      obtain ⟨m', h1, h2⟩ := fail 0 (by omega) 5 ((seen.add 6).add 44) hh
      refine ⟨m', (Ends.step (n := 3 * n + 4) ?_).mono (by omega), h2⟩
      rw [b1_bol, if_neg hb]
      exact h1
theorem search1 (hs : s ≤ lim) : ∃ m', Ends (3 * (lim - s) + 6) (forSearch c1 text 0 s lim false) m' ∧ Good m' (find1 text lim (lim - s) s) := by
  by_cases h : s < lim
  · obtain ⟨m', h1, h2⟩ := run1 (text := text) (lim := lim) (lim - s) s true s (({} : Sre.Seen).add 14) (by omega)
    refine ⟨m', ?_, h2⟩
    have : forSearch c1 text 0 s lim false = B1 text lim s true 5 s s (({} : Sre.Seen).add 14) none := by
      show (if (decide (s > lim) || decide (lim - s < 1)) = true then _ else _) = _
      rw [if_neg (by simp; omega)]
      rfl
    rw [this]; exact h1
  · have e : s = lim := by omega
    subst e
    rw [Nat.sub_self]
    have : forSearch c1 text 0 s s false = { B1 text s s true 5 s s (({} : Sre.Seen).add 14) (some false) with frames := [], weight := 0, lastStart := 0 } := by
      show (if (decide (s > s) || decide (s - s < 1)) = true then _ else _) = _
      rw [if_pos (by simp)]
      rfl
    rw [this]
    refine ⟨{ B1 text s s true 5 s s (({} : Sre.Seen).add 14) (some false) with frames := [], weight := 0, lastStart := 0, outcome := some .failed }, (Ends.step (n := 0) ?_).mono (by omega), rfl⟩
    rw [step_end (yes := false) rfl rfl rfl]
    exact Ends.here rfl
end
end Mine
end -- R1
section -- R2
set_option maxRecDepth 10000
namespace Mine
open PySem.Sre

noncomputable def isEol (c : Nat) : Bool := c == 10 || c == 13
/-- the second pattern's machine, in an alternative -/
noncomputable def B2' (text : Array Nat) (lim ls s : Nat) (f : Bool) (pc pos handed : Nat) (seen : Sre.Seen) (answer : Option Bool) (alt : Nat) : M :=
  { code := c2, text, lim, start := s, lastStart := ls, pc, pos, handed, outermost := f, marks := #[], weight := 2, seen, answer,
    frames := [{ wait := .nextBranch, pc := alt, pos := s, outermost := f }, { wait := .nextStart, pc := 10, pos := s, outermost := f }] }
noncomputable def N2 (text : Array Nat) (lim ls s : Nat) (f : Bool) (pc pos handed : Nat) (seen : Sre.Seen) (answer : Option Bool) : M :=
  { code := c2, text, lim, start := s, lastStart := ls, pc, pos, handed, outermost := false, marks := #[], weight := 3, seen, answer,
    frames := [{ wait := .lookNot, pc := 26, pos := s + 1, outermost := f }, { wait := .nextBranch, pc := 23, pos := s, outermost := f }, { wait := .nextStart, pc := 10, pos := s, outermost := f }] }
noncomputable def A2 (text : Array Nat) (lim ls s : Nat) (f : Bool) (seen : Sre.Seen) : M :=
  { code := c2, text, lim, start := s, lastStart := ls, pc := 10, pos := s, handed := s, outermost := f, marks := #[], weight := 1, seen,
    frames := [{ wait := .nextStart, pc := 10, pos := s, outermost := f }] }
noncomputable def A2y (text : Array Nat) (lim ls s : Nat) (f : Bool) (pc pos handed : Nat) (seen : Sre.Seen) : M :=
  { code := c2, text, lim, start := s, lastStart := ls, pc, pos, handed, outermost := f, marks := #[], weight := 1, seen, answer := some true,
    frames := [{ wait := .nextStart, pc := 10, pos := s, outermost := f }] }
noncomputable def E2 (text : Array Nat) (lim ls s : Nat) (f : Bool) (handed : Nat) (seen : Sre.Seen) : M :=
  { code := c2, text, lim, start := s, lastStart := ls, pc := 10, pos := s, handed, outermost := f, marks := #[], weight := 0, seen, answer := some true, frames := [] }
section
variable {text : Array Nat} {lim ls s : Nat} {f : Bool} {pc pos handed alt : Nat} {seen : Sre.Seen}
theorem a2_branch : (A2 text lim ls s f seen).step = B2' text lim ls s f 12 s s (seen.add 7) none 11 := by
  refine (step_branch rfl rfl (of_decide_eq_true rfl) rfl rfl).trans ?_
  exact step_alt 11 _ (c := 7) rfl (by decide) (of_decide_eq_true rfl)
theorem b2_lit13 : (B2' text lim ls s f 12 pos handed seen none 11).step = if pos < lim ∧ text.getD pos 0 = 13 then B2' text lim ls s f 14 (pos + 1) handed (seen.add 16) none 11 else B2' text lim ls s f 12 pos handed (seen.add 16) (some false) 11 :=
  step_lit rfl rfl (of_decide_eq_true rfl) rfl rfl
theorem b2_lit10 : (B2' text lim ls s f 14 pos handed seen none 11).step = if pos < lim ∧ text.getD pos 0 = 10 then B2' text lim ls s f 16 (pos + 1) handed (seen.add 16) none 11 else B2' text lim ls s f 14 pos handed (seen.add 16) (some false) 11 :=
  step_lit rfl rfl (of_decide_eq_true rfl) rfl rfl
theorem b2_jump1 : (B2' text lim ls s f 16 pos handed seen none alt).step = B2' text lim ls s f 35 pos handed (seen.add 15) none alt := step_jump rfl rfl (of_decide_eq_true rfl) rfl rfl
theorem b2_jump2 : (B2' text lim ls s f 21 pos handed seen none alt).step = B2' text lim ls s f 35 pos handed (seen.add 15) none alt := step_jump rfl rfl (of_decide_eq_true rfl) rfl rfl
theorem b2_jump3 : (B2' text lim ls s f 32 pos handed seen none alt).step = B2' text lim ls s f 35 pos handed (seen.add 15) none alt := step_jump rfl rfl (of_decide_eq_true rfl) rfl rfl
theorem b2_success : (B2' text lim ls s f 35 pos handed seen none alt).step = B2' text lim ls s f 35 pos pos (seen.add 1) (some true) alt := step_success rfl rfl (of_decide_eq_true rfl) rfl rfl rfl
theorem b2_yes : (B2' text lim ls s f pc pos handed seen (some true) alt).step = A2y text lim ls s f alt s handed seen := by
  refine (step_pop (yes := true) rfl rfl rfl).trans ?_
  rfl
theorem a2_yes : (A2y text lim ls s f pc pos handed seen).step = E2 text lim ls s f handed seen := by
  refine (step_pop (yes := true) rfl rfl rfl).trans ?_
  rfl
theorem e2_end : (E2 text lim ls s f handed seen).step = { E2 text lim ls s f handed seen with outcome := some .matched } := step_end (yes := true) rfl rfl rfl
theorem b2_no1 : (B2' text lim ls s f pc pos handed seen (some false) 11).step = B2' text lim ls s f 19 s s seen none 18 := by
  refine (step_pop (yes := false) rfl rfl rfl).trans ?_
  exact step_alt (m := { code := c2, text, lim, start := s, lastStart := ls, pc := 11, pos := s, handed, outermost := f, marks := #[], weight := 1, seen, frames := [{ wait := .nextStart, pc := 10, pos := s, outermost := f }] }) 18 {} (c := 5) rfl (by decide) (of_decide_eq_true rfl)
theorem b2_no2 : (B2' text lim ls s f pc pos handed seen (some false) 18).step = B2' text lim ls s f 24 s s seen none 23 := by
  refine (step_pop (yes := false) rfl rfl rfl).trans ?_
  exact step_alt (m := { code := c2, text, lim, start := s, lastStart := ls, pc := 18, pos := s, handed, outermost := f, marks := #[], weight := 1, seen, frames := [{ wait := .nextStart, pc := 10, pos := s, outermost := f }] }) 23 {} (c := 11) rfl (by decide) (of_decide_eq_true rfl)
theorem b2_lf : (B2' text lim ls s f 19 pos handed seen none 18).step = if pos < lim ∧ text.getD pos 0 = 10 then B2' text lim ls s f 21 (pos + 1) handed (seen.add 16) none 18 else B2' text lim ls s f 19 pos handed (seen.add 16) (some false) 18 :=
  step_lit rfl rfl (of_decide_eq_true rfl) rfl rfl
theorem b2_cr : (B2' text lim ls s f 24 pos handed seen none 23).step = if pos < lim ∧ text.getD pos 0 = 13 then B2' text lim ls s f 26 (pos + 1) handed (seen.add 16) none 23 else B2' text lim ls s f 24 pos handed (seen.add 16) (some false) 23 :=
  step_lit rfl rfl (of_decide_eq_true rfl) rfl rfl
theorem b2_not : (B2' text lim ls s f 26 (s + 1) handed seen none 23).step = N2 text lim ls s f 29 (s + 1) (s + 1) (seen.add 5) none :=
  step_not (c := 0) rfl rfl (of_decide_eq_true rfl) rfl rfl rfl (of_decide_eq_true rfl)
theorem n2_lit : (N2 text lim ls s f 29 pos handed seen none).step = if pos < lim ∧ text.getD pos 0 = 10 then N2 text lim ls s f 31 (pos + 1) handed (seen.add 16) none else N2 text lim ls s f 29 pos handed (seen.add 16) (some false) :=
  step_lit rfl rfl (of_decide_eq_true rfl) rfl rfl
theorem n2_no : (N2 text lim ls s f pc pos handed seen (some false)).step = B2' text lim ls s f 32 (s + 1) handed seen none 23 := by
  refine (step_pop (yes := false) rfl rfl rfl).trans ?_
  rfl

/-- where the match at s ends -/
noncomputable def end2 (text : Array Nat) (lim s : Nat) : Nat := if text.getD s 0 = 13 ∧ s + 1 < lim ∧ text.getD (s + 1) 0 = 10 then s + 2 else s + 1
theorem run2 (hs : s < lim) (he : isEol (text.getD s 0) = true) : ∃ m', Ends 20 (A2 text lim ls s f seen) m' ∧ Good m' (some (s, end2 text lim s)) := by
  have fin : ∀ (pos handed : Nat) (seen : Sre.Seen) (alt : Nat), pos = end2 text lim s → ∃ m', Ends 4 (B2' text lim ls s f 35 pos handed seen none alt) m' ∧ Good m' (some (s, end2 text lim s)) := by
    rintro pos handed seen alt rfl
    refine ⟨{ E2 text lim ls s f (end2 text lim s) (seen.add 1) with outcome := some .matched }, Ends.step (n := 3) ?_, rfl, rfl, rfl⟩
    rw [b2_success]
    refine Ends.step ?_
    rw [b2_yes]
    refine Ends.step ?_
    rw [a2_yes]
    refine Ends.step ?_
    rw [e2_end]
    exact Ends.here rfl
  by_cases h13 : text.getD s 0 = 13
  · by_cases h10 : s + 1 < lim ∧ text.getD (s + 1) 0 = 10
    · obtain ⟨m', h1, h2⟩ := fin (s + 1 + 1) s (((((seen.add 7).add 16).add 16)).add 15) 11 (by unfold end2; rw [if_pos ⟨h13, h10⟩])
      refine ⟨m', (Ends.step (n := 7) ?_).mono (by decide), h2⟩
      rw [a2_branch]
      refine Ends.step ?_
      rw [b2_lit13, if_pos ⟨hs, h13⟩]
      refine Ends.step ?_
      rw [b2_lit10, if_pos h10]
      refine Ends.step ?_
      rw [b2_jump1]
      exact h1
    · have hn : text.getD s 0 ≠ 10 := by rw [h13]; decide
      obtain ⟨m', h1, h2⟩ := fin (s + 1) (s + 1) _ 23 (by unfold end2; rw [if_neg (fun h => h10 h.2)])
      refine ⟨m', (Ends.step (n := 15) ?_).mono (by decide), h2⟩
      rw [a2_branch]
      refine Ends.step ?_
      rw [b2_lit13, if_pos ⟨hs, h13⟩]
      refine Ends.step ?_
      rw [b2_lit10, if_neg h10]
      refine Ends.step ?_
      rw [b2_no1]
      refine Ends.step ?_
      rw [b2_lf, if_neg (fun h => hn h.2)]
      refine Ends.step ?_
      rw [b2_no2]
      refine Ends.step ?_
      rw [b2_cr, if_pos ⟨hs, h13⟩]
      refine Ends.step ?_
      rw [b2_not]
      refine Ends.step ?_
      rw [n2_lit, if_neg h10]
      refine Ends.step ?_
      rw [n2_no]
      refine Ends.step (n := 5) ?_
      rw [b2_jump3]
      exact h1.mono (by decide)
  · have h10 : text.getD s 0 = 10 := by
      unfold isEol at he
      rcases Bool.or_eq_true_iff.mp he with h | h
      · exact eq_of_beq h
      · exact absurd (eq_of_beq h) h13
    obtain ⟨m', h1, h2⟩ := fin (s + 1) s _ 18 (by unfold end2; rw [if_neg (fun h => h13 h.1)])
    refine ⟨m', (Ends.step (n := 8) ?_).mono (by decide), h2⟩
    rw [a2_branch]
    refine Ends.step ?_
    rw [b2_lit13, if_neg (fun h => h13 h.2)]
    refine Ends.step ?_
    rw [b2_no1]
    refine Ends.step ?_
    rw [b2_lf, if_pos ⟨hs, h10⟩]
    refine Ends.step ?_
    rw [b2_jump2]
    exact h1

noncomputable def find2 (text : Array Nat) (lim : Nat) : Nat → Nat → Option (Nat × Nat)
  | 0, s => none
  | n + 1, s => if isEol (text.getD s 0) then some (s, end2 text lim s) else find2 text lim n (s + 1)
theorem inset2 (c : Nat) (seen : Sre.Seen) : ∃ sn, inSet c2 c c2.size 5 true seen = .ok (isEol c, sn) := by
  unfold isEol
  by_cases h : c = 10
  · subst h; exact ⟨_, rfl⟩
  · by_cases h' : c = 13
    · subst h'; exact ⟨_, rfl⟩
    · rw [beq_eq_false_iff_ne.mpr h, beq_eq_false_iff_ne.mpr h']
      refine ⟨(((seen.add 16).add 16).add 0), ?_⟩
      show inSet c2 c (35 + 1) 5 true seen = _
      have e1 : inSet c2 c (35 + 1) 5 true seen = if c == 10 then .ok (true, seen.add 16) else inSet c2 c 35 7 true (seen.add 16) := rfl
      have e2 : inSet c2 c 35 7 true (seen.add 16) = if c == 13 then .ok (true, (seen.add 16).add 16) else inSet c2 c 34 9 true ((seen.add 16).add 16) := rfl
      rw [e1, beq_eq_false_iff_ne.mpr h, if_neg (by decide), e2, beq_eq_false_iff_ne.mpr h', if_neg (by decide)]
      rfl
theorem admitted2 (m : M) (hc : m.code = c2) (ht : m.text = text) (hl : m.lim = lim) : ∀ (n s : Nat) (seen : Sre.Seen), s + n = lim → ∃ sn, M.admitted m (n + 1) s seen = .ok ((find2 text lim n s).map (·.1), sn)
  | 0, s, seen, h => by
    refine ⟨seen, ?_⟩
    unfold M.admitted
    rw [hl, if_pos (by omega)]
    rfl
  | n + 1, s, seen, h => by
    unfold M.admitted
    rw [hl, if_neg (by omega), hc, ht]
    obtain ⟨sn, e⟩ := inset2 (text.getD s 0) seen
    rw [e]
    unfold find2
    cases hi : isEol (text.getD s 0) with
    | true => exact ⟨sn, rfl⟩
    | false => exact admitted2 m hc ht hl n (s + 1) sn (by omega)
theorem find2_spec : ∀ (n s : Nat) {q e : Nat}, s + n = lim → find2 text lim n s = some (q, e) → s ≤ q ∧ q < lim ∧ isEol (text.getD q 0) = true ∧ e = end2 text lim q
  | 0, s, q, e, h, h' => by cases h'
  | n + 1, s, q, e, h, h' => by
    unfold find2 at h'
    split at h'
    · rename_i hi
      cases h'
      exact ⟨Nat.le_refl _, by omega, hi, rfl⟩
    · obtain ⟨a, b⟩ := find2_spec n (s + 1) (by omega) h'
      exact ⟨by omega, b⟩
theorem search2 (hs : s ≤ lim) : ∃ m', Ends 20 (forSearch c2 text 0 s lim false) m' ∧ Good m' (find2 text lim (lim - s) s) := by
  by_cases h : s < lim
  · have e1 : forSearch c2 text 0 s lim false = M.attemptFrom { code := c2, text, lim, start := s, lastStart := lim, pc := 10, pos := s, handed := s, marks := #[], seen := ({} : Sre.Seen).add 14 } s true := by
      show (if (decide (s > lim) || decide (lim - s < 1)) = true then _ else _) = _
      rw [if_neg (by simp; omega)]
      rfl
    rw [e1]
    obtain ⟨sn, e2⟩ := admitted2 (text := text) (lim := lim) { code := c2, text, lim, start := s, lastStart := lim, pc := 10, pos := s, handed := s, marks := #[], seen := ({} : Sre.Seen).add 14 } rfl rfl rfl (lim - s) s (({} : Sre.Seen).add 14) (by omega)
    have e3 : lim + 1 - s = lim - s + 1 := by omega
    rw [← e3] at e2
    have e4 : M.attemptFrom { code := c2, text, lim, start := s, lastStart := lim, pc := 10, pos := s, handed := s, marks := #[], seen := ({} : Sre.Seen).add 14 } s true =
        (match M.admitted { code := c2, text, lim, start := s, lastStart := lim, pc := 10, pos := s, handed := s, marks := #[], seen := ({} : Sre.Seen).add 14 } (lim + 1 - s) s (({} : Sre.Seen).add 14) with
        | .ok (some q, sn) => A2 text lim lim q true sn
        | .ok (none, sn) => { code := c2, text, lim, start := s, lastStart := lim, pc := 10, pos := s, handed := s, marks := #[], seen := sn, answer := some false }
        | .error why => M.stick { code := c2, text, lim, start := s, lastStart := lim, pc := 10, pos := s, handed := s, marks := #[], seen := ({} : Sre.Seen).add 14 } why) := rfl
    rw [e4, e2]
    cases hf : find2 text lim (lim - s) s with
    | none =>
      refine ⟨{ code := c2, text, lim, start := s, lastStart := lim, pc := 10, pos := s, handed := s, marks := #[], seen := sn, answer := some false, outcome := some .failed }, (Ends.step (n := 0) ?_).mono (by decide), rfl⟩
      show Ends 0 (M.step { code := c2, text, lim, start := s, lastStart := lim, pc := 10, pos := s, handed := s, marks := #[], seen := sn, answer := some false }) _
      rw [step_end (yes := false) rfl rfl rfl]
      exact Ends.here rfl
    | some p =>
      obtain ⟨q, e⟩ := p
      obtain ⟨a, b, c, rfl⟩ := find2_spec (lim - s) s (by omega) hf
      exact run2 (s := q) (f := true) (ls := lim) (seen := sn) b c
  · have e : s = lim := by omega
    subst e
    rw [Nat.sub_self]
    have : forSearch c2 text 0 s s false = { code := c2, text, lim := s, start := s, pc := 10, pos := s, handed := s, marks := #[], seen := ({} : Sre.Seen).add 14, answer := some false } := by
      show (if (decide (s > s) || decide (s - s < 1)) = true then _ else _) = _
      rw [if_pos (by simp)]
      rfl
    rw [this]
    refine ⟨{ code := c2, text, lim := s, start := s, pc := 10, pos := s, handed := s, marks := #[], seen := ({} : Sre.Seen).add 14, answer := some false, outcome := some .failed }, (Ends.step (n := 0) ?_).mono (by omega), rfl⟩
    rw [step_end (yes := false) rfl rfl rfl]
    exact Ends.here rfl
end
end Mine
end -- R2
section -- R3
set_option maxRecDepth 100000
namespace Mine
theorem plainAttrs_pat : PlainAttrs "re.Pattern" :=
  ⟨⟨"object.__getattribute__", by rw [typeLookup_type, builtinLookup_eq_fast]; kernel_rfl, by decide +kernel⟩, by rw [typeLookup_type, builtinLookup_eq_fast]; kernel_rfl⟩
theorem owner_pat : Manifest.owners.lookup (String.ofList ['n', 'r', 'e', 't', 't', 'a', 'P', '.', 'e', 'r'].reverse) = some Manifest.sig_re_Pattern := by kernel_rfl
theorem slot_pat_sub : Slot "re.Pattern" "sub" "re.Pattern.sub" :=
  .of (owner := "re.Pattern") (n := "sub") (by rw [typeLookup_type, builtinLookup_eq_fast]; kernel_rfl) (by decide +kernel) (by decide +kernel) (by decide +kernel)
    (by first | exact .inl (by decide +kernel) | exact .inr (by decide +kernel)) (by rw [isSubtype_type]; kernel_rfl)
theorem type_pat_sub : typeOf (.builtin "re.Pattern.sub") = pure (.type "method_descriptor") := by show builtinType _ = _; rw [builtinType_eq_fast]; kernel_rfl
theorem entry_pat_sub : entryFor table "re.Pattern.sub" = some Builtin.«re.Pattern.sub» := entryFor_of_tree (by kernel_rfl)
theorem entry_pat_loop : entryFor table "re.Pattern.sub.loop" = some Builtin.«re.Pattern.sub.loop» := entryFor_of_tree (by kernel_rfl)
theorem quiet_pat_loop (args : Args) : (Code.builtin "re.Pattern.sub.loop" args).quiet = true := Code.quiet_builtin args (by decide +kernel)
end Mine
namespace Mine
theorem args_pat_sub (a b c : Value) : argsOk "re.Pattern.sub" ⟨[a, b, c], []⟩ := by
  unfold argsOk
  rw [signature?_of (id := "re.Pattern.sub") (n := ['b', 'u', 's']) (o := ['n', 'r', 'e', 't', 't', 'a', 'P', '.', 'e', 'r']) (by kernel_rfl) owner_pat]
  kernel_rfl
open PySem.Sre

/-- machine runs in the model -/
theorem drive_ {M' : Model} {A : Around} {E : Value → Shared → Prop} {s : Shared} {Q : Sre.M → Shared → Prop} {m' : Sre.M} (h : Q m' s) : ∀ (turns n : Nat) (m : Sre.M), Ends n m m' → n < 4 * turns → wpAny M' A (Builtin.Re.reDrive turns m) Q E s
  | 0, n, m, e, hn => by omega
  | turns + 1, n, m, e, hn => by
    unfold Builtin.Re.reDrive
    obtain ⟨k, hk, he, ho⟩ := e
    by_cases h4 : k ≤ 4
    · have : M.runFor Builtin.Re.reTurnSteps m = m' := by
        have e4 : Builtin.Re.reTurnSteps = k + (4 - k) := by show 4 = _; omega
        rw [e4, runFor_add, he, runFor_done ho]
      rw [this, if_pos ho]
      exact wpAny_pure h
    · have e4 : k = 4 + (k - 4) := by omega
      dsimp only
      split
      · rename_i hs
        have hs' : (M.runFor 4 m).outcome.isSome = true := hs
        have : M.runFor 4 m = m' := by rw [e4, runFor_add, runFor_done hs'] at he; exact he
        show wpAny _ _ (pure (M.runFor 4 m)) _ _ _
        rw [this]
        exact wpAny_pure h
      · refine wpAny_bind (wpAny_rule ?_)
        refine drive_ h turns (n - 4) _ ⟨k - 4, by omega, ?_, ho⟩ (by omega)
        show M.runFor (k - 4) (M.runFor 4 m) = m'
        rw [← runFor_add, ← e4, he]
theorem rules_ {M' : Model} {A : Around} {E : Value → Shared → Prop} {s : Shared} {Q : PUnit → Shared → Prop} {seen : Sre.Seen} (h : Q ⟨⟩ s) : ∀ l : List Nat,
    wpAny M' A (forIn l PUnit.unit fun i _ => do
      if seen.has i = true then do
        rule (Sre.names.getD i "")
        pure (ForInStep.yield PUnit.unit)
      else pure (ForInStep.yield PUnit.unit)) Q E s
  | [] => by rw [List.forIn_nil]; exact wpAny_pure h
  | i :: r => by
    rw [List.forIn_cons]
    refine wpAny_bind ?_
    split
    · exact wpAny_bind (wpAny_rule (wpAny_pure (rules_ h r)))
    · exact wpAny_pure (rules_ h r)
theorem runEnd {M' : Model} {A : Around} {E : Value → Shared → Prop} {s : Shared} {Q : Option Sre.M → Shared → Prop} {m m' : Sre.M} {n : Nat} {r : Option (Nat × Nat)} (he : Ends n m m') (hn : n < 4 * 2 ^ 64) (hg : Good m' r)
    (h : Q (if r.isSome then some m' else none) s) : wpAny M' A (Builtin.Re.reRunToEnd m) Q E s := by
  unfold Builtin.Re.reRunToEnd
  refine wpAny_bind (drive_ (m' := m') ?_ _ _ _ he hn)
  refine wpAny_bind (rules_ ?_ _)
  cases r with
  | none =>
    have : m'.outcome = some .failed := hg
    rw [this]
    exact wpAny_pure h
  | some p =>
    have : m'.outcome = some .matched := hg.1
    rw [this]
    exact wpAny_pure h
end Mine
end -- R3
section -- R4
set_option maxRecDepth 100000
namespace Mine
open PySem.Sre

/-- what a pattern's search finds, and how long it runs -/
structure Pat (code : Array Nat) (find : Array Nat → Nat → Nat → Nat → Option (Nat × Nat)) : Prop where
  search : ∀ text s, s ≤ text.size → ∃ n m', n ≤ 3 * text.size + 20 ∧ Ends n (forSearch code text 0 s text.size false) m' ∧ Good m' (find text text.size (text.size - s) s)
  ok : ∀ text s q e, s ≤ text.size → find text text.size (text.size - s) s = some (q, e) → s ≤ q ∧ q < e ∧ e ≤ text.size
theorem find1_ok {text : Array Nat} {lim : Nat} : ∀ (n s q e : Nat), s + n = lim → find1 text lim n s = some (q, e) → s ≤ q ∧ q < e ∧ e ≤ lim
  | 0, s, q, e, h, h' => by cases h'
  | n + 1, s, q, e, h, h' => by
    unfold find1 at h'
    split at h'
    · cases h'; exact ⟨Nat.le_refl _, by omega, by omega⟩
    · obtain ⟨a, b⟩ := find1_ok n (s + 1) q e (by omega) h'
      exact ⟨by omega, b⟩
theorem pat1 : Pat c1 find1 where
  search := fun text s h => by
    obtain ⟨m', h1, h2⟩ := search1 (text := text) h
    exact ⟨_, m', by omega, h1, h2⟩
  ok := fun text s q e h h' => find1_ok _ s q e (by omega) h'
theorem pat2 : Pat c2 find2 where
  search := fun text s h => by
    obtain ⟨m', h1, h2⟩ := search2 (text := text) h
    exact ⟨_, m', by omega, h1, h2⟩
  ok := fun text s q e h h' => by
    obtain ⟨a, b, c, rfl⟩ := find2_spec _ s (by omega) h'
    have h1 : end2 text text.size q ≤ text.size ∧ q < end2 text text.size q := by
      unfold end2
      by_cases hc : text.getD q 0 = 13 ∧ q + 1 < text.size ∧ text.getD (q + 1) 0 = 10
      · rw [if_pos hc]; omega
      · rw [if_neg hc]; omega
    exact ⟨a, h1.2, h1.1⟩

/-- what is put in the text's place from start on -/
noncomputable def subst (find : Array Nat → Nat → Nat → Nat → Option (Nat × Nat)) (text : Array Nat) (repl : List Nat) : Nat → Nat → List Nat
  | 0, s => (text.extract s text.size).toList
  | n + 1, s => match find text text.size (text.size - s) s with
    | none => (text.extract s text.size).toList
    | some (q, e) => (text.extract s q).toList ++ repl ++ subst find text repl n e

section
variable {prog : Program} {w : World} {A : Around} {E : Value → Shared → Prop}
theorem asStr_ {M' : Model} {s : Shared} {x : Str} {t : Tok} {Q : Option Str → Shared → Prop} (h : Q (some x) s) : wpAny M' A (asStr? (.str x t)) Q E s := wpAny_pure h
theorem fields_ {M' : Model} {s : Shared} {a : Addr} {o : Obj} {vs : Array Value} {Q : Array Value → Shared → Prop} (ho : s.heap.get? a = some o) (hd : o.data = .fields vs) (h : Q vs s) : wpAny M' A (fieldsOf (.ref a)) Q E s := by
  unfold fieldsOf
  refine wpAny_bind (wpAny_load ho ?_)
  rw [hd]
  exact wpAny_pure h

/-- the pattern's object in the heap -/
structure PatAt (h : Heap) (p c : Addr) (code : Array Nat) : Prop where
  at_ : ∃ o vs, h.get? p = some o ∧ o.cls = .type "re.Pattern" ∧ o.dict = none ∧ o.data = .fields vs ∧ vs[2]? = some (.int 0 0) ∧ vs[5]? = some (.ref c) ∧ vs[6]? = some (.int 0 0)
  items : ∃ oc items n, h.get? c = some oc ∧ oc.data = .seq items n ∧ (items.map Builtin.Re.reRawOf).map (·.toNat) = code
theorem PatAt.keeps {h h' : Heap} {p c code} (P : PatAt h p c code) (k : ∀ b o, h.get? b = some o → h'.get? b = some o) : PatAt h' p c code :=
  let ⟨⟨o, vs, e, r⟩, ⟨oc, it, n, e', r'⟩⟩ := P; ⟨⟨o, vs, k _ _ e, r⟩, ⟨oc, it, n, k _ _ e', r'⟩⟩

theorem whole_ {M' : Model} {s : Shared} {p c : Addr} {code : Array Nat} {x : Str} {t : Tok} {Q : Builtin.Re.ReTarget → Shared → Prop} (P : PatAt s.heap p c code)
    (h : Q { pattern := .ref p, string := .str x t, code, text := x.cps, kind := 0, groups := 0, pos := 0, lim := x.cps.size } s) : wpAny M' A (Builtin.Re.reWholeTarget (.ref p) (.str x t)) Q E s := by
  obtain ⟨⟨o, vs, e, hc, hdict, hd, h2, h5, h6⟩, ⟨oc, items, n, e', hd', hcode⟩⟩ := P
  unfold Builtin.Re.reWholeTarget
  refine wpAny_bind (fields_ e hd ?_)
  unfold Builtin.Re.reTextOf
  refine wpAny_bind (wpAny_bind (asStr_ (wpAny_pure ?_)))
  have g2 : vs.getD 2 .none = .int 0 0 := by rw [Array.getD_eq_getD_getElem?, h2]; rfl
  have g5 : vs.getD 5 .none = .ref c := by rw [Array.getD_eq_getD_getElem?, h5]; rfl
  have g6 : vs.getD 6 .none = .int 0 0 := by rw [Array.getD_eq_getD_getElem?, h6]; rfl
  dsimp only
  rw [g2, g5, g6]
  show wpAny _ A (do
    pure { pattern := .ref p, string := .str x t, code := (← Builtin.Re.reRawItems (.ref c)).map (·.toNat), text := x.cps, kind := 0, groups := 0, pos := 0, lim := x.cps.size }) Q E s
  unfold Builtin.Re.reRawItems
  refine wpAny_bind (wpAny_bind (wpAny_seqItems e' hd' (wpAny_pure ?_)))
  refine wpAny_pure ?_
  dsimp only [Option.getD]
  rw [hcode]
  exact h
end

noncomputable def cat (ys : List Str) : List Nat := ys.flatMap (·.cps.toList)
theorem join_cat (ys : List Str) : (Txt.join ⟨#[]⟩ ys).cps.toList = cat ys := by
  show (List.foldl (fun (acc : Array Nat) (p : Str) => acc ++ #[] ++ p.cps) (ys.headD Str.empty).cps (List.drop 1 ys)).toList = _
  have go : ∀ (l : List Str) (acc : Array Nat), (List.foldl (fun (acc : Array Nat) (p : Str) => acc ++ #[] ++ p.cps) acc l).toList = acc.toList ++ cat l := fun l => by
    induction l with
    | nil => intro acc; simp [cat]
    | cons x r ih => intro acc; rw [List.foldl_cons, ih]; simp [cat, List.flatMap_cons]
  cases ys with
  | nil => rfl
  | cons x r => rw [go]; simp [cat]
theorem strsAre_append : ∀ {vs ws : List Value} {ys zs : List Str}, StrsAre vs ys → StrsAre ws zs → StrsAre (vs ++ ws) (ys ++ zs)
  | _, _, _, _, .nil, h => h
  | _, _, _, _, .cons y t r, h => .cons y t (strsAre_append r h)
theorem strsAre_length : ∀ {vs : List Value} {ys : List Str}, StrsAre vs ys → vs.length = ys.length
  | _, _, .nil => rfl
  | _, _, .cons y t r => by simp [strsAre_length r]
theorem slice_ {M' : Model} {A : Around} {E : Value → Shared → Prop} {s : Shared} {text : Array Nat} {b e : Nat} {Q : Value → Shared → Prop} (hz : text.size ≤ sizeLine) (h : Q (.str ⟨text.extract b e⟩ s.toks) { s with toks := s.toks + 1 }) : wpAny M' A (Builtin.Re.reSlice text 0 b e) Q E s := by
  show wpAny M' A (mkStr ⟨text.extract b e⟩) Q E s
  exact wpAny_mkStr h (by show (text.extract b e).size ≤ _; rw [Array.size_extract]; omega)

section
variable {prog : Program} {w : World} {A : Around}
theorem push_ {M' : Model} {A : Around} {E : Value → Shared → Prop} {s : Shared} {D : Addr} {items : Array Value} {n : Nat} {v : Value} {Q : Unit → Shared → Prop} (hD : s.heap.get? D = some { cls := .type "list", data := .seq items n }) (hz : items.size ≤ sizeLine)
    (h : ∀ h', (∃ n', h'.get? D = some { cls := .type "list", data := .seq (items.push v) n' }) → (∀ b o, b ≠ D → s.heap.get? b = some o → h'.get? b = some o) → Q () { s with heap := h' }) : wpAny M' A (updateSeq D (·.push v)) Q E s := by
  refine wpAny_updateSeq hD rfl (h _ ?_ ?_) hz (by rw [Array.size_push]; omega)
  · exact ⟨_, Heap.get?_update_self _ hD rfl⟩
  · exact fun b o hb e => (Heap.SameBut.update ..).extBut b o hb e
end
end Mine
end -- R4
section -- R5
set_option maxRecDepth 100000
namespace Mine
open PySem.Sre
section
variable {prog : Program} {w : World} {A : Around} {code : Array Nat} {find : Array Nat → Nat → Nat → Nat → Option (Nat × Nat)} {p c D : Addr} {x repl : Str} {tx tr : Tok}

noncomputable def len2 (ys : List Str) : Nat := (ys.map (·.length)).sum
theorem len2_append (a b : List Str) : len2 (a ++ b) = len2 a + len2 b := by simp [len2]
theorem cat_append (a b : List Str) : cat (a ++ b) = cat a ++ cat b := by simp [cat]

theorem find_ (F : Pat code find) {A' : Around} {E : Value → Shared → Prop} {s : Shared} {start : Nat} {Q : Option Sre.M → Shared → Prop} (hz : x.cps.size ≤ 100000) (hs : start ≤ x.cps.size)
    (h : ∀ m', Good m' (find x.cps x.cps.size (x.cps.size - start) start) → Q (if (find x.cps x.cps.size (x.cps.size - start) start).isSome then some m' else none) s) :
    wpAny (model prog w) A' (Builtin.Re.reNextFound { pattern := .ref p, string := .str x tx, code, text := x.cps, kind := 0, groups := 0, pos := 0, lim := x.cps.size } start false) Q E s := by
  obtain ⟨n, m', hn, he, hg⟩ := F.search x.cps start hs
  exact runEnd he (by have : (2:Nat) ^ 64 = 18446744073709551616 := by decide
                      omega) hg (h m' hg)

theorem loop_ (F : Pat code find) (hz : x.cps.size ≤ 100000) (hr : repl.length ≤ 10) {R : Result → Shared → Prop} : ∀ (fuel start : Nat) (n : Int) (s : Shared) (items : Array Value) (ys : List Str), x.cps.size - start ≤ fuel → start ≤ x.cps.size →
    PatAt s.heap p c code → D ≠ p → D ≠ c → (∃ k, s.heap.get? D = some { cls := .type "list", data := .seq items k }) → StrsAre items.toList ys → len2 ys ≤ 11 * start → ys.length ≤ 2 * start →
    (∀ h' tk t', (∀ b o, b ≠ D → s.heap.get? b = some o → h'.get? b = some o) → R (.ok (.ret (.str ⟨(cat ys ++ subst find x.cps repl.cps.toList fuel start).toArray⟩ t'))) { s with heap := h', toks := tk }) →
    codeAny (model prog w) A (.builtin "re.Pattern.sub.loop" ⟨[.ref p, .str x tx, .str repl tr, rawInt 0, rawInt 0, rawInt n, rawInt start, rawInt start, .bool false, .ref D, .bool false], []⟩) R s := by
    intro fuel
    induction fuel using Nat.strongRecOn with
    | _ fuel ih =>
    intro start n s items ys hf hs P hDp hDc hDk hy hl2 hl1 hR
    obtain ⟨k, hD⟩ := hDk
    refine codeAny_builtin entry_pat_loop ?_
    have ez : (2:Nat) ^ 24 = 16777216 := by decide
    have hsz : items.size ≤ sizeLine := by
      have := strsAre_length hy
      rw [Array.length_toList] at this
      unfold sizeLine; omega
    have hxz : x.cps.size ≤ sizeLine := by unfold sizeLine; omega
    show wpAny _ _ (do
      let t ← Builtin.Re.reWholeTarget (.ref p) (.str x tx)
      if ((0 : Int) == 0) = true then Builtin.Re.reLiteralCannotBeTurned (.str repl tr)
      match ← (if (((0 : Int) != 0) && decide (n ≥ 0)) = true then (pure none : Sem (Option Sre.M)) else Builtin.Re.reNextFound t (start : Int).toNat false) with
      | some m =>
        if (start : Int).toNat < m.start then updateSeq D (·.push (← Builtin.Re.reSlice t.text t.kind (start : Int).toNat m.start))
        let item ← if ((0 : Int) == 0) = true then pure (.str repl tr) else do
            let found ← Builtin.Re.reNewMatch (.ref p) (.str x tx) t.groups 0 t.lim m
            holding [found] (if ((0 : Int) == 1) = true then call (.str repl tr) [found] else do Builtin.Re.reExpand (.str repl tr) (← Builtin.Re.reFound found))
        if (item != .none) = true then updateSeq D (·.push item)
        again (.builtin "re.Pattern.sub.loop" ⟨[.ref p, .str x tx, .str repl tr, rawInt 0, rawInt 0, rawInt (n + 1), rawInt m.handed, rawInt m.handed, .bool (m.handed == m.start), .ref D, .bool false], []⟩)
      | none =>
        if (start : Int).toNat < t.lim then updateSeq D (·.push (← Builtin.Re.reSlice t.text t.kind (start : Int).toNat t.lim))
        let joiner ← Builtin.Re.reSlice t.text t.kind 0 0
        let text ← if ((← seqItems? (.ref D)).getD #[]).isEmpty then pure joiner
          else call (.builtin (if (t.kind == 0) = true then "str.join" else "bytes.join")) [joiner, .ref D]
        if false = true then ret (← holding [text] do newTuple [text, ← mkInt n]) else ret text) _ _ s
    refine wpAny_bind (whole_ P ?_)
    rw [if_pos (by decide)]
    refine wpAny_bind (wpAny_bind (asStr_ (wpAny_pure ?_)))
    rw [if_neg (show ¬ (((0 : Int) != 0) && decide (n ≥ 0)) = true by simp), Int.toNat_natCast]
    refine wpAny_bind (find_ F hz hs fun m' hg => ?_)
    cases hfd : find x.cps x.cps.size (x.cps.size - start) start with
    | none =>
      dsimp only [Option.isSome]
      rw [if_neg (by decide)]
      dsimp only
      have sub0 : subst find x.cps repl.cps.toList fuel start = (x.cps.extract start x.cps.size).toList := by
        cases fuel with
        | zero => rfl
        | succ k => unfold subst; rw [hfd]
      have fin : ∀ (s' : Shared) (items' : Array Value) (zs : List Str), (∃ h' tk, s' = { s with heap := h', toks := tk } ∧ ∀ b o, b ≠ D → s.heap.get? b = some o → h'.get? b = some o) →
          (∃ k, s'.heap.get? D = some { cls := .type "list", data := .seq items' k }) → StrsAre items'.toList zs → len2 zs ≤ 16777216 → cat zs = cat ys ++ subst find x.cps repl.cps.toList fuel start →
          wpAny (model prog w) (A.under (.builtin "re.Pattern.sub.loop" ⟨[.ref p, .str x tx, .str repl tr, rawInt 0, rawInt 0, rawInt n, rawInt start, rawInt start, .bool false, .ref D, .bool false], []⟩)) (do
            let joiner ← Builtin.Re.reSlice x.cps 0 0 0
            let text ← if ((← seqItems? (.ref D)).getD #[]).isEmpty then pure joiner
              else call (.builtin (if ((0 : Nat) == 0) = true then "str.join" else "bytes.join")) [joiner, .ref D]
            if false = true then ret (← holding [text] do newTuple [text, ← mkInt n]) else ret text)
            (fun fin s' => match fin with | .done f => R (.ok f) s' | .again c' => c'.quiet = true ∧ codeAny (model prog w) A c' R s') (fun e s' => R (.error e) s') s' := by
        rintro s' items' zs ⟨h', tk, rfl, hk⟩ ⟨k', hD'⟩ hy' hz' hcat
        refine wpAny_bind (slice_ hxz ?_)
        refine wpAny_bind (wpAny_seqItems hD' rfl ?_)
        have e0 : x.cps.extract 0 0 = #[] := by simp
        rw [e0]
        dsimp only [Option.getD]
        by_cases hem : items'.isEmpty = true
        · rw [if_pos hem]
          refine wpAny_bind (wpAny_pure ?_)
          rw [if_neg (by decide)]
          refine wpAny_pure ?_
          have : zs = [] := by
            have := strsAre_length hy'
            rw [Array.length_toList] at this
            rw [Array.isEmpty_iff_size_eq_zero] at hem
            exact List.eq_nil_of_length_eq_zero (by omega)
          subst this
          have := hR h' (tk + 1) tk hk
          rw [← hcat] at this
          exact this
        · rw [if_neg hem, if_pos (by decide)]
          refine wpAny_bind (join_list (ys := zs) ⟨_, hD', rfl, k', rfl⟩ hy' (by show len2 zs + zs.length * 0 ≤ _; omega) fun t' k => ?_)
          rw [if_neg (by decide)]
          refine wpAny_pure ?_
          have := hR h' k t' hk
          rw [← hcat, ← join_cat] at this
          exact this
      by_cases hlt : start < x.cps.size
      · rw [if_pos hlt]
        refine wpAny_bind (slice_ hxz (wpAny_bind (push_ hD hsz fun h' hD' hk => ?_)))
        refine fin _ (items.push (.str ⟨x.cps.extract start x.cps.size⟩ s.toks)) (ys ++ [⟨x.cps.extract start x.cps.size⟩]) ⟨h', _, rfl, hk⟩ hD' ?_ ?_ ?_
        · rw [Array.toList_push]; exact strsAre_append hy (.cons _ _ .nil)
        · rw [len2_append]
          have : len2 [⟨x.cps.extract start x.cps.size⟩] ≤ x.cps.size := by
            show (x.cps.extract start x.cps.size).size + 0 ≤ _
            rw [Array.size_extract]; omega
          omega
        · rw [cat_append, sub0]; simp [cat]
      · rw [if_neg hlt]
        refine fin s items ys ⟨s.heap, s.toks, rfl, fun _ _ _ e => e⟩ ⟨k, hD⟩ hy (by omega) ?_
        rw [sub0]
        have : start = x.cps.size := by omega
        rw [this]; simp
    | some pr =>
      obtain ⟨q, e⟩ := pr
      rw [hfd] at hg
      obtain ⟨_, hq, he⟩ := hg
      obtain ⟨h1, h2, h3⟩ := F.ok x.cps start q e hs hfd
      dsimp only [Option.isSome]
      rw [if_pos (by decide)]
      dsimp only
      rw [hq, he]
      have hmust : (e == q) = false := beq_eq_false_iff_ne.mpr (by omega)
      rw [hmust]
      obtain ⟨fuel, rfl⟩ : ∃ f, fuel = f + 1 := ⟨fuel - 1, by omega⟩
      have sub1 : subst find x.cps repl.cps.toList (fuel + 1) start = (x.cps.extract start q).toList ++ repl.cps.toList ++ subst find x.cps repl.cps.toList fuel e := by
        rw [subst, hfd]
      have fin : ∀ (s' : Shared) (items' : Array Value) (zs : List Str), (∃ h' tk, s' = { s with heap := h', toks := tk } ∧ ∀ b o, b ≠ D → s.heap.get? b = some o → h'.get? b = some o) →
          (∃ k, s'.heap.get? D = some { cls := .type "list", data := .seq items' k }) → StrsAre items'.toList zs → len2 zs ≤ 11 * start + (q - start) → zs.length ≤ 2 * start + 1 → items'.size ≤ sizeLine → cat zs = cat ys ++ (x.cps.extract start q).toList →
          wpAny (model prog w) (A.under (.builtin "re.Pattern.sub.loop" ⟨[.ref p, .str x tx, .str repl tr, rawInt 0, rawInt 0, rawInt n, rawInt start, rawInt start, .bool false, .ref D, .bool false], []⟩)) (do
            let item ← if ((0 : Int) == 0) = true then pure (.str repl tr) else do
                let found ← Builtin.Re.reNewMatch (.ref p) (.str x tx) 0 0 x.cps.size m'
                holding [found] (if ((0 : Int) == 1) = true then call (.str repl tr) [found] else do Builtin.Re.reExpand (.str repl tr) (← Builtin.Re.reFound found))
            if (item != .none) = true then updateSeq D (·.push item)
            again (.builtin "re.Pattern.sub.loop" ⟨[.ref p, .str x tx, .str repl tr, rawInt 0, rawInt 0, rawInt (n + 1), rawInt e, rawInt e, .bool false, .ref D, .bool false], []⟩))
            (fun fin s' => match fin with | .done f => R (.ok f) s' | .again c' => c'.quiet = true ∧ codeAny (model prog w) A c' R s') (fun e s' => R (.error e) s') s' := by
        rintro s' items' zs ⟨h', tk, rfl, hk⟩ ⟨k', hD'⟩ hy' hz1 hz2 hz3 hcat
        rw [if_pos (by decide)]
        refine wpAny_bind (wpAny_pure ?_)
        dsimp only
        rw [if_pos (show (Value.str repl tr != Value.none) = true from rfl)]
        refine wpAny_bind (push_ hD' hz3 fun h2' hD2 hk2 => ?_)
        refine wpAny_pure ⟨quiet_pat_loop _, ?_⟩
        refine ih fuel (Nat.lt_succ_self _) e (n + 1) _ (items'.push (.str repl tr)) (zs ++ [repl]) (by omega) h3 ?_ hDp hDc hD2 ?_ ?_ ?_ fun h4 tk4 t4 hk4 => ?_
        · obtain ⟨⟨o, vs, e1, r⟩, ⟨oc, it, m, e2, r'⟩⟩ := P
          exact ⟨⟨o, vs, hk2 _ _ hDp.symm (hk _ _ hDp.symm e1), r⟩, ⟨oc, it, m, hk2 _ _ hDc.symm (hk _ _ hDc.symm e2), r'⟩⟩
        · rw [Array.toList_push]; exact strsAre_append hy' (.cons _ _ .nil)
        · rw [len2_append]
          have : len2 [repl] = repl.length := by simp [len2]
          omega
        · rw [List.length_append]; simp only [List.length_cons, List.length_nil]; omega
        · have := hR h4 tk4 t4 (fun b o hb eb => hk4 b o hb (hk2 b o hb (hk b o hb eb)))
          rw [sub1] at this
          rw [cat_append, hcat]
          have hc : cat [repl] = repl.cps.toList := by simp [cat]
          rw [hc]
          simpa only [List.append_assoc] using this
      by_cases hlt : start < q
      · rw [if_pos hlt]
        refine wpAny_bind (slice_ hxz (wpAny_bind (push_ hD hsz fun h' hD' hk => ?_)))
        refine fin _ (items.push (.str ⟨x.cps.extract start q⟩ s.toks)) (ys ++ [⟨x.cps.extract start q⟩]) ⟨h', _, rfl, hk⟩ hD' ?_ ?_ ?_ ?_ ?_
        · rw [Array.toList_push]; exact strsAre_append hy (.cons _ _ .nil)
        · rw [len2_append]
          have : len2 [⟨x.cps.extract start q⟩] ≤ q - start := by
            show (x.cps.extract start q).size + 0 ≤ _
            rw [Array.size_extract]; omega
          omega
        · rw [List.length_append]; simp only [List.length_cons, List.length_nil]; omega
        · rw [Array.size_push]
          have := strsAre_length hy
          rw [Array.length_toList] at this
          unfold sizeLine; omega
        · rw [cat_append]; simp [cat]
      · rw [if_neg hlt]
        refine fin s items ys ⟨s.heap, s.toks, rfl, fun _ _ _ e => e⟩ ⟨k, hD⟩ hy (by omega) (by omega) hsz ?_
        have : start = q := by omega
        rw [this]; simp
end
end Mine
end -- R5
section -- R6
set_option maxRecDepth 100000
namespace Mine
theorem str_no_call : typeLookup (.type "str") "__call__" = pure none := by rw [typeLookup_type, builtinLookup_eq_fast]; kernel_rfl
theorem sub_named (a b : Value) : Builtin.Re.reNamed "re.Pattern.sub" "sub" ["repl", "string", "count"] 2 [a, b] [] = pure [some a, some b, none] := by
  rfl
section
variable {prog : Program} {w : World} {C : Heap → Prop} {k : Nat} {code : Array Nat} {find : Array Nat → Nat → Nat → Nat → Option (Nat × Nat)} {p c : Addr} {x repl : Str}
theorem c_sub (F : Pat code find) (hP : ∀ h, C h → PatAt h p c code) (hz : x.cps.size ≤ 100000) (hr : repl.length ≤ 10) (hb : repl.cps.contains 92 = false) :
    CS prog w C k (.builtin "re.Pattern.sub") [.val (.ref p), .str repl, .str x] (.str ⟨(subst find x.cps repl.cps.toList x.cps.size 0).toArray⟩) := fun A hs s vs E R hC hl hv => by
  have P := hP _ hC
  cases hv with | cons r1 hv => ?_
  cases hv with | cons r2 hv => ?_
  cases hv with | cons r3 hv => ?_
  cases hv
  cases r1
  cases r2
  rename_i tr
  cases r3
  rename_i tx
  obtain ⟨⟨o, fs, e, hc, hdict, hd, f2, f5, f6⟩, _⟩ := id P
  have hT : s.TypeIs (.ref p) "re.Pattern" := ⟨o, e, hc⟩
  refine wpAny_call (codeAny_tk (codeAny_call_builtin slot_pat_sub.plain entry_pat_sub (slot_pat_sub.check _ _ _ _ _ _ _ _ hT (args_pat_sub _ _ _) ?_)))
  show wpAny _ _ (Builtin.Re.reSubstitute "re.Pattern.sub" "sub" false ⟨[.ref p, .str repl tr, .str x tx], []⟩) _ _ s
  unfold Builtin.Re.reSubstitute
  dsimp only
  rw [sub_named]
  refine wpAny_bind (wpAny_pure ?_)
  dsimp only
  refine wpAny_bind (wpAny_pure ?_)
  refine wpAny_bind (wpAny_specialOf (typeIs_str _ _ _) str_no_call ?_)
  rw [if_neg (by decide)]
  refine wpAny_bind (asStr_ ?_)
  dsimp only
  refine wpAny_bind (wpAny_pure ?_)
  rw [if_neg (by decide), if_pos (by rw [hb]; rfl)]
  refine wpAny_bind (wpAny_pure ?_)
  refine wpAny_bind (wpAny_holding (whole_ P ?_))
  rw [if_neg (show ¬ ((0 : Int) == 1) = true by decide)]
  refine wpAny_bind (wpAny_newObj_type ?_ (Nat.zero_le _))
  refine wpAny_pure ⟨quiet_pat_loop _, ?_⟩
  have hl' := hl
  have n1 : s.heap.objs.size ≠ p := fun q => by rw [← q, size_none] at e; cases e
  have n2 : s.heap.objs.size ≠ c := fun q => by obtain ⟨_, ⟨oc, it, n, e', _⟩⟩ := id P; rw [← q, size_none] at e'; cases e'
  refine loop_ F hz hr x.cps.size 0 0 _ #[] [] (by omega) (Nat.zero_le _) (P.keeps fun b o e => Heap.get?_push_of_some _ e) n1 n2 ⟨0, Heap.get?_push_size _ rfl⟩ .nil (Nat.le_refl _) (Nat.le_refl _) fun h' tk t' hk htk => ?_
  refine ⟨⟨fun b o eb => hk b o (fun q => by rw [q, size_none] at eb; cases eb) (Heap.get?_push_of_some _ eb), ⟨h', tk, rfl⟩, htk⟩, ?_⟩
  exact .str
end
end Mine
end -- R6
section -- R7
set_option maxRecDepth 100000
namespace Mine
noncomputable def crlfB : Bool → List Nat → List Nat
  | _, [] => []
  | p, c :: r => if c = 13 then 13 :: 10 :: crlfB true r else if c = 10 then (if p = true then crlfB false r else 13 :: 10 :: crlfB false r) else c :: crlfB false r
noncomputable def crlf (l : List Nat) : List Nat := crlfB false l
noncomputable def dotq : Bool → List Nat → List Nat
  | _, [] => []
  | b, c :: r => if c = 46 ∧ b = true then 46 :: 46 :: dotq false r else c :: dotq (c == 10) r

theorem drop_get {text : Array Nat} {s : Nat} (h : s < text.size) : text.toList.drop s = text.getD s 0 :: text.toList.drop (s + 1) := by
  rw [List.drop_eq_getElem_cons (by simpa using h)]
  simp [h]
theorem extract_cons {text : Array Nat} {s q : Nat} (h : s < q) (hq : q ≤ text.size) : (text.extract s q).toList = text.getD s 0 :: (text.extract (s + 1) q).toList := by
  have h1 : s < text.size := by omega
  simp only [Array.toList_extract, List.extract_eq_drop_take']
  rw [show text.getD s 0 = text.toList[s]'(by simpa using h1) by simp [h1]]
  rw [List.drop_take, List.drop_take, List.drop_eq_getElem_cons (by simpa using h1)]
  rw [show q - s = (q - (s + 1)) + 1 by omega, List.take_succ_cons]

theorem subst_skip {find : Array Nat → Nat → Nat → Nat → Option (Nat × Nat)} {text : Array Nat} {repl : List Nat} {s : Nat} (hs : s < text.size) (hf : find text text.size (text.size - s) s = find text text.size (text.size - (s + 1)) (s + 1))
    (ok : ∀ q e, find text text.size (text.size - (s + 1)) (s + 1) = some (q, e) → s + 1 ≤ q ∧ q ≤ text.size) (n : Nat) : subst find text repl n s = text.getD s 0 :: subst find text repl n (s + 1) := by
  cases n with
  | zero => exact extract_cons hs (Nat.le_refl _)
  | succ n =>
    unfold subst
    rw [hf]
    split
    · exact extract_cons hs (Nat.le_refl _)
    · rename_i q e hq
      obtain ⟨h1, h2⟩ := ok q e hq
      rw [extract_cons (by omega) h2]
      rfl

theorem subst1 (text : Array Nat) : ∀ (k s n : Nat), s + k = text.size → k ≤ n → subst find1 text [46, 46] n s = dotq (bol text s) (text.toList.drop s)
  | 0, s, n, hs, hn => by
    have : s = text.size := by omega
    subst this
    rw [List.drop_eq_nil_of_le (by simp)]
    cases n with
    | zero => simp [subst, dotq]
    | succ n =>
      unfold subst
      rw [Nat.sub_self]
      simp [find1, dotq]
  | k + 1, s, n, hs, hn => by
    have hlt : s < text.size := by omega
    have e1 : text.size - s = text.size - (s + 1) + 1 := by omega
    rw [drop_get hlt]
    have hb : bol text (s + 1) = (text.getD s 0 == 10) := by
      unfold bol
      simp
    by_cases hh : hit1 text text.size s = true
    · obtain ⟨n, rfl⟩ : ∃ m, n = m + 1 := ⟨n - 1, by omega⟩
      have hf : find1 text text.size (text.size - s) s = some (s, s + 1) := by rw [e1, find1, if_pos hh]
      have h46 : text.getD s 0 = 46 ∧ bol text s = true := by
        unfold hit1 at hh
        simp only [Bool.and_eq_true, beq_iff_eq] at hh
        exact ⟨hh.2.2, hh.1⟩
      rw [subst, hf]
      dsimp only
      rw [subst1 text k (s + 1) n (by omega) (by omega), hb, dotq, if_pos h46, h46.1]
      simp
    · have hn46 : ¬ (text.getD s 0 = 46 ∧ bol text s = true) := fun h => hh (by unfold hit1; rw [h.2, h.1]; simp [hlt])
      have hf : find1 text text.size (text.size - s) s = find1 text text.size (text.size - (s + 1)) (s + 1) := by rw [e1, find1, if_neg hh]
      rw [subst_skip hlt hf (fun q e hq => by have := pat1.ok text (s + 1) q e (by omega) hq; omega) n, subst1 text k (s + 1) n (by omega) (by omega), hb, dotq, if_neg hn46]

theorem crlfB_other {c : Nat} {r : List Nat} (h : c ≠ 10) : crlfB true (c :: r) = crlfB false (c :: r) := by
  unfold crlfB
  rw [if_neg h, if_neg h]
theorem subst2 (text : Array Nat) : ∀ (k s n : Nat), text.size - s ≤ k → s ≤ text.size → k ≤ n → subst find2 text [13, 10] n s = crlf (text.toList.drop s)
  | k, s, n, hk, hs, hn => by
    by_cases hlt : s < text.size
    · match k, hk, hn with
      | 0, hk, hn => omega
      | k + 1, hk, hn =>
      have e1 : text.size - s = text.size - (s + 1) + 1 := by omega
      rw [drop_get hlt]
      unfold crlf
      by_cases hh : isEol (text.getD s 0) = true
      · obtain ⟨n, rfl⟩ : ∃ m, n = m + 1 := ⟨n - 1, by omega⟩
        have hf : find2 text text.size (text.size - s) s = some (s, end2 text text.size s) := by rw [e1, find2, if_pos hh]
        rw [subst, hf]
        dsimp only
        by_cases h13 : text.getD s 0 = 13
        · rw [crlfB, if_pos h13]
          by_cases h10 : s + 1 < text.size ∧ text.getD (s + 1) 0 = 10
          · have ee : end2 text text.size s = s + 2 := by unfold end2; rw [if_pos ⟨h13, h10⟩]
            rw [ee, subst2 text k (s + 2) n (by omega) (by omega) (by omega), drop_get h10.1, crlfB, h10.2, if_neg (by decide), if_pos rfl, if_pos rfl]
            simp [crlf]
          · have ee : end2 text text.size s = s + 1 := by unfold end2; rw [if_neg (fun h => h10 h.2)]
            rw [ee, subst2 text k (s + 1) n (by omega) (by omega) (by omega)]
            by_cases hl : s + 1 < text.size
            · rw [drop_get hl, crlfB_other (fun h => h10 ⟨hl, h⟩)]
              simp [crlf]
            · rw [List.drop_eq_nil_of_le (by simp; omega)]
              simp [crlf, crlfB]
        · have h10 : text.getD s 0 = 10 := by
            unfold isEol at hh
            rcases Bool.or_eq_true_iff.mp hh with h | h
            · exact eq_of_beq h
            · exact absurd (eq_of_beq h) h13
          have ee : end2 text text.size s = s + 1 := by unfold end2; rw [if_neg (fun h => h13 h.1)]
          rw [crlfB, if_neg h13, if_pos h10, if_neg (by decide), ee, subst2 text k (s + 1) n (by omega) (by omega) (by omega)]
          simp [crlf]
      · have hn13 : text.getD s 0 ≠ 13 := fun h => hh (by unfold isEol; rw [h]; rfl)
        have hn10 : text.getD s 0 ≠ 10 := fun h => hh (by unfold isEol; rw [h]; rfl)
        have hf : find2 text text.size (text.size - s) s = find2 text text.size (text.size - (s + 1)) (s + 1) := by rw [e1, find2, if_neg hh]
        rw [crlfB, if_neg hn13, if_neg hn10, subst_skip hlt hf (fun q e hq => by have := pat2.ok text (s + 1) q e (by omega) hq; omega) n, subst2 text k (s + 1) n (by omega) (by omega) (by omega)]
        rfl
    · have : s = text.size := by omega
      subst this
      rw [List.drop_eq_nil_of_le (by simp)]
      cases n with
      | zero => simp [subst, crlf, crlfB]
      | succ n =>
        unfold subst
        rw [Nat.sub_self]
        simp [find2, crlf, crlfB]
end Mine
end -- R7
section -- P1
set_option maxRecDepth 10000
namespace Mine
noncomputable def txt (rows : List (Nat × List Nat)) : List Nat := rows.flatMap fun r => List.replicate r.1 46 ++ r.2
noncomputable def eols : List (List Nat) := [[10], [13], [13, 10]]
noncomputable def Good1 (rows : List (Nat × List Nat)) : Prop := ∀ r ∈ rows, 1 ≤ r.1 ∧ r.2 ∈ eols
noncomputable def ended (rows : List (Nat × List Nat)) (e : List Nat) : List (Nat × List Nat) := rows.map fun r => (r.1, e)
noncomputable def dotted (rows : List (Nat × List Nat)) (k : Nat) : List (Nat × List Nat) := rows.map fun r => (r.1 + k, r.2)
theorem txt_cons (r : Nat × List Nat) (rows) : txt (r :: rows) = List.replicate r.1 46 ++ (r.2 ++ txt rows) := by simp [txt]
theorem txt_append (a b : List (Nat × List Nat)) : txt (a ++ b) = txt a ++ txt b := by simp [txt]

theorem crlfB_dots : ∀ (n : Nat) (b : Bool) (l : List Nat), crlfB b (List.replicate (n + 1) 46 ++ l) = List.replicate (n + 1) 46 ++ crlfB false l
  | 0, b, l => by show crlfB b (46 :: l) = 46 :: crlfB false l; rw [crlfB, if_neg (by decide), if_neg (by decide)]
  | n + 1, b, l => by
    rw [List.replicate_succ, List.cons_append, crlfB, if_neg (by decide), if_neg (by decide), crlfB_dots n false l]
    rfl
theorem crlf_txt : ∀ (rows : List (Nat × List Nat)) (b : Bool), Good1 rows → crlfB b (txt rows) = txt (ended rows [13, 10])
  | [], b, _ => rfl
  | r :: rows, b, h => by
    obtain ⟨h1, h2⟩ := h r (List.mem_cons_self ..)
    have ih := fun b => crlf_txt rows b fun q hq => h q (List.mem_cons_of_mem _ hq)
    obtain ⟨n, hn⟩ : ∃ n, r.1 = n + 1 := ⟨r.1 - 1, by omega⟩
    rw [txt_cons, hn, crlfB_dots]
    have e : ended (r :: rows) [13, 10] = (r.1, [13, 10]) :: ended rows [13, 10] := rfl
    rw [e, txt_cons, hn]
    congr 1
    have h3 : r.2 = [10] ∨ r.2 = [13] ∨ r.2 = [13, 10] := by simpa [eols] using h2
    rcases h3 with h3 | h3 | h3 <;> rw [h3]
    · show crlfB false (10 :: txt rows) = 13 :: 10 :: _
      rw [crlfB, if_neg (by decide), if_pos rfl, if_neg (by decide), ih]; rfl
    · show crlfB false (13 :: txt rows) = 13 :: 10 :: _
      rw [crlfB, if_pos rfl, ih]; rfl
    · show crlfB false (13 :: 10 :: txt rows) = 13 :: 10 :: _
      rw [crlfB, if_pos rfl, crlfB, if_neg (by decide), if_pos rfl, if_pos rfl, ih]; rfl
theorem dotq_dots : ∀ (n : Nat) (l : List Nat), dotq false (List.replicate n 46 ++ l) = List.replicate n 46 ++ dotq false l
  | 0, l => rfl
  | n + 1, l => by
    rw [List.replicate_succ, List.cons_append, dotq, if_neg (by simp), show ((46 : Nat) == 10) = false from rfl, dotq_dots n l]
    rfl
theorem dotq_txt : ∀ (rows : List (Nat × List Nat)), (∀ r ∈ rows, 1 ≤ r.1) → dotq true (txt (ended rows [13, 10])) = txt (dotted (ended rows [13, 10]) 1)
  | [], _ => rfl
  | r :: rows, h => by
    have h1 := h r (List.mem_cons_self ..)
    obtain ⟨n, hn⟩ : ∃ n, r.1 = n + 1 := ⟨r.1 - 1, by omega⟩
    have e : ended (r :: rows) [13, 10] = (r.1, [13, 10]) :: ended rows [13, 10] := rfl
    have e2 : dotted ((r.1, [13, 10]) :: ended rows [13, 10]) 1 = (r.1 + 1, [13, 10]) :: dotted (ended rows [13, 10]) 1 := rfl
    rw [e, e2, txt_cons, txt_cons, hn, List.replicate_succ, List.cons_append, dotq, if_pos ⟨rfl, rfl⟩, dotq_dots]
    show 46 :: 46 :: (List.replicate n 46 ++ dotq false (13 :: 10 :: txt (ended rows [13, 10]))) = _
    rw [dotq, if_neg (by simp), show ((13 : Nat) == 10) = false from rfl, dotq, if_neg (by simp), show ((10 : Nat) == 10) = true from rfl, dotq_txt rows fun q hq => h q (List.mem_cons_of_mem _ hq)]
    rfl

open Builtin Builtin.Str StrLaws
theorem str_ext {a b : Str} (h : a.cps = b.cps) : a = b := by cases a; cases b; cases h; rfl
theorem cps_app (a b : Str) : (a ++ b).cps = a.cps ++ b.cps := rfl
noncomputable def mkS (l : List Nat) : Str := ⟨l.toArray⟩
theorem mkS_list (l : List Nat) : (mkS l).cps.toList = l := rfl
theorem at_iff {x y : Str} {i : Nat} : At x y x.length i ↔ i + y.length ≤ x.length ∧ (x.cps.toList.drop i).take y.length = y.cps.toList := by
  unfold At
  rw [subAt_eq, beq_iff_eq]
theorem parts_rows (x : Str) : ∀ (rows : List (Nat × List Nat)) (a : Nat) (cuts : List Nat) (f : Nat), (∀ r ∈ rows, r.2 = [13, 10]) → x.cps.toList.drop a = txt rows → a ≤ x.length →
    ChainG x (mkS [13, 10]) x.length a cuts f → (∀ k, f ≤ k → ¬ At x (mkS [13, 10]) x.length k) → partsFrom x 2 a cuts = rows.map (fun r => mkS (List.replicate r.1 46)) ++ [mkS []] ∧ cuts.length = rows.length
  | [], a, cuts, f, _, hd, ha, hc, hf => by
    have hlen : x.cps.toList.length = x.length := by simp [Str.length]
    have : x.cps.toList.length ≤ a := List.drop_eq_nil_iff.mp hd
    match cuts, hc with
    | [], _ =>
      refine ⟨?_, rfl⟩
      show [strSub x a x.length] = [mkS []]
      have e : strSub x a x.length = mkS [] := by
        apply str_ext
        rw [← Array.toList_inj, strSub_toList]
        rw [hd]; simp [txt, mkS]
      rw [e]
    | c :: r, hc =>
      exfalso
      have h1 := hc.1
      have h2 := hc.2.1.1
      have h3 : (mkS [13, 10]).length = 2 := rfl
      omega
  | r :: rows, a, cuts, f, hr, hd, ha, hc, hf => by
    have hlen : x.cps.toList.length = x.length := by simp [Str.length]
    have hre := hr r (List.mem_cons_self ..)
    rw [txt_cons, hre] at hd
    have h3 : (mkS [13, 10]).length = 2 := rfl
    have hl : x.length - a = r.1 + (2 + (txt rows).length) := by
      rw [← hlen, ← List.length_drop, hd]; simp
      omega
    have hatc : At x (mkS [13, 10]) x.length (a + r.1) := by
      refine at_iff.mpr ⟨by omega, ?_⟩
      rw [← List.drop_drop, hd, List.drop_append_of_le_length (by simp), h3]
      simp [mkS_list]
    have hno : ∀ k, a ≤ k → k < a + r.1 → ¬ At x (mkS [13, 10]) x.length k := fun k h1 h2 hA => by
      obtain ⟨_, hA⟩ := at_iff.mp hA
      obtain ⟨j, rfl⟩ : ∃ j, k = a + j := ⟨k - a, by omega⟩
      rw [← List.drop_drop, hd, List.drop_append_of_le_length (by simp; omega), List.drop_replicate] at hA
      obtain ⟨m, hm⟩ : ∃ m, r.1 - j = m + 1 := ⟨r.1 - j - 1, by omega⟩
      rw [hm, List.replicate_succ, List.cons_append, h3, List.take_succ_cons, mkS_list] at hA
      exact absurd (List.cons.inj hA).1 (by decide)
    match cuts, hc with
    | [], hc =>
      exfalso
      have hfa : f = a := hc
      exact hf _ (by omega) hatc
    | c :: cs, hc =>
      obtain ⟨h1, h2, h4, h5⟩ := hc
      have hce : c = a + r.1 := by
        rcases Nat.lt_trichotomy c (a + r.1) with h | h | h
        · exact absurd h2 (hno c h1 h)
        · exact h
        · exact absurd hatc (h4 _ (by omega) h)
      subst hce
      have hd2 : x.cps.toList.drop (a + r.1 + 2) = txt rows := by
        rw [Nat.add_assoc, ← List.drop_drop, hd, ← List.drop_drop, List.drop_append_of_le_length (by simp)]
        simp
      obtain ⟨i1, i2⟩ := parts_rows x rows (a + r.1 + 2) cs f (fun q hq => hr q (List.mem_cons_of_mem _ hq)) hd2 (by omega) h5 hf
      refine ⟨?_, by rw [List.length_cons, List.length_cons, i2]⟩
      show strSub x a (a + r.1) :: partsFrom x 2 (a + r.1 + 2) cs = _
      rw [i1]
      have e : strSub x a (a + r.1) = mkS (List.replicate r.1 46) := by
        apply str_ext
        rw [← Array.toList_inj, strSub_toList, hd]
        simp [mkS]
      rw [e]; rfl
theorem join_rows (z : List Nat) : ∀ (rows : List (Nat × List Nat)), (Str.join (mkS z) (rows.map (fun r => mkS (List.replicate r.1 46)) ++ [mkS []])).cps.toList = txt (ended rows z)
  | [] => rfl
  | [r] => by
    show ((mkS (List.replicate r.1 46) ++ mkS z ++ mkS []) : Str).cps.toList = _
    rw [cps_app, cps_app]
    simp [mkS, ended, txt]
  | r :: q :: rows => by
    have ih := join_rows z (q :: rows)
    show ((mkS (List.replicate r.1 46) ++ mkS z ++ Str.join (mkS z) ((q :: rows).map (fun r => mkS (List.replicate r.1 46)) ++ [mkS []])) : Str).cps.toList = _
    rw [cps_app, cps_app, Array.toList_append, Array.toList_append, ih]
    have e : ended (r :: q :: rows) z = (r.1, z) :: ended (q :: rows) z := rfl
    rw [e, txt_cons]
    simp [mkS]
/-- the text of rows that end in CR LF, cut there -/
theorem cuts_rows (rows : List (Nat × List Nat)) (h : ∀ r ∈ rows, r.2 = [13, 10]) : partsBetween (mkS (txt rows)) (occurrences (mkS (txt rows)) (mkS [13, 10]) 0 (mkS (txt rows)).length ((mkS (txt rows)).length + 1)) 2 = rows.map (fun r => mkS (List.replicate r.1 46)) ++ [mkS []] ∧
    (occurrences (mkS (txt rows)) (mkS [13, 10]) 0 (mkS (txt rows)).length ((mkS (txt rows)).length + 1)).length = rows.length := by
  obtain ⟨f, hc, hf⟩ := occ_tight (mkS (txt rows)) (mkS [13, 10]) (by decide)
  rw [partsBetween_eq]
  exact parts_rows _ rows 0 _ f h rfl (Nat.zero_le _) hc hf
theorem replace_rows (rows : List (Nat × List Nat)) (h : ∀ r ∈ rows, r.2 = [13, 10]) (z : List Nat) : Txt.replace (mkS (txt rows)) (mkS [13, 10]) (mkS z) = mkS (txt (ended rows z)) := by
  obtain ⟨h1, h2⟩ := cuts_rows rows h
  unfold Txt.replace
  cases rows with
  | nil =>
    have : (occurrences (mkS (txt [])) (mkS [13, 10]) 0 (mkS (txt [])).length ((mkS (txt [])).length + 1)).isEmpty = true := by
      rw [List.isEmpty_iff]; exact List.eq_nil_of_length_eq_zero h2
    rw [this, Bool.true_or, if_pos rfl]
    rfl
  | cons r rows =>
    have hne : (occurrences (mkS (txt (r :: rows))) (mkS [13, 10]) 0 (mkS (txt (r :: rows))).length ((mkS (txt (r :: rows))).length + 1)).isEmpty = false := by
      rw [List.isEmpty_eq_false_iff]
      intro q
      rw [q] at h2
      simp at h2
    rw [hne, Bool.false_or, if_neg (by show ¬ ((2 : Nat) == 0 && _) = true; simp)]
    have e2 : (mkS [13, 10]).length = 2 := rfl
    rw [e2, h1, glued_eq_join]
    apply str_ext
    rw [← Array.toList_inj, join_rows]
    rfl
theorem map_join (c d : Nat) : ∀ parts : List Str, (∀ p ∈ parts, c ∉ p.cps.toList) → (Str.join ⟨#[c]⟩ parts).cps.toList.map (fun q => if q = c then d else q) = (Str.join ⟨#[d]⟩ parts).cps.toList
  | [], _ => rfl
  | [x], h => by
    have := h x (List.mem_singleton.mpr rfl)
    show x.cps.toList.map _ = x.cps.toList
    conv => rhs; rw [← List.map_id x.cps.toList]
    exact List.map_congr_left fun q hq => if_neg fun (e : q = c) => this (by rw [← e]; exact hq)
  | x :: y :: r, h => by
    have hx := h x (List.mem_cons_self ..)
    have ih := map_join c d (y :: r) fun p hp => h p (List.mem_cons_of_mem _ hp)
    show ((x ++ ⟨#[c]⟩ ++ Str.join ⟨#[c]⟩ (y :: r)) : Str).cps.toList.map _ = ((x ++ ⟨#[d]⟩ ++ Str.join ⟨#[d]⟩ (y :: r)) : Str).cps.toList
    rw [cps_app, cps_app, cps_app, cps_app, Array.toList_append, Array.toList_append, Array.toList_append, Array.toList_append, List.map_append, List.map_append, ih]
    have e : x.cps.toList.map (fun q => if q = c then d else q) = x.cps.toList := by
      conv => rhs; rw [← List.map_id x.cps.toList]
      exact List.map_congr_left fun q hq => if_neg fun (e : q = c) => hx (by rw [← e]; exact hq)
    rw [e]
    simp
theorem replace_char (x : Str) (c d : Nat) : (Txt.replace x ⟨#[c]⟩ ⟨#[d]⟩).cps.toList = x.cps.toList.map fun q => if q = c then d else q := by
  rw [replace_one, ← map_join c d _ (split_free x c), join_split]
end Mine
end -- P1
section -- K0
set_option maxRecDepth 100000
set_option maxHeartbeats 0
namespace Mine
noncomputable abbrev KK (P : Params) : Frag := Mine.hd.heap_39 P
structure Cx (P : Params) (mg mb : Str → Option Value) (h : Heap) : Prop where
  k : (KK P).In h
  g : h.Ns mainGlobals mg
  b : h.Ns builtinsNs mb
  lim : h.NoLimit
  dig : ∃ mc, h.Ns cStatics mc ∧ mc "sys.int_max_str_digits" = none
  bs : ∀ x : Str, x ≠ "__name__" → mb x = bootBuiltins x
section
variable {P : Params} {mg mb : Str → Option Value}
theorem Cx.mono {h h' : Heap} (c : Cx P mg mb h) (k : ∀ b o, h.get? b = some o → h'.get? b = some o) : Cx P mg mb h' :=
  ⟨c.k.keeps k, c.g.keeps k, c.b.keeps k, c.lim.keeps k, let ⟨mc, h1, h2⟩ := c.dig; ⟨mc, h1.keeps k, h2⟩, c.bs⟩
theorem GL.g {x v} (e : nsIn (KK P) mainGlobals x = some (some v)) : GL (Cx P mg mb) x v := fun h c => .inl ⟨mg, c.g, mg_of c.k c.g e⟩
theorem GL.b {x v} (e : nsIn (KK P) mainGlobals x = some none) (hv : bootBuiltins x = some v) (hn : x ≠ "__name__" := by decide) : GL (Cx P mg mb) x v :=
  fun h c => .inr ⟨mg, mb, c.g, mg_none_of c.k c.g e, c.b, (c.bs x hn).trans hv⟩
theorem fnok {fa : Addr} {fd : FuncData} {xs : List Str} (ho : (KK P).lookup fa = some ⟨.type "function", none, .func fd, #[]⟩) (hc : codeIn (KK P) fd.code fd.qualname = true)
    (bind : ∀ vs : List Value, vs.length = xs.length → bindArgs fd ⟨vs, []⟩ = pure (xs.zip vs)) (nodup : xs.Nodup) (kinds : ∀ x ∈ xs, fd.scope.names.lookup x = some .local ∨ fd.scope.names.lookup x = some .cell)
    (cnd : ∀ L, ((cellsFrom L fd.scope.names []).map (·.1)).Nodup) (clo : fd.closure = []) (glob : fd.globals = mainGlobals) (bns : fd.builtins = builtinsNs) (kind : fd.scope.kind = .function)
    (co : fd.scope.isCoroutine = false) (gen : fd.scope.isGenerator = false) (nodbg : fd.scope.names.lookup (Str.ofString "__debug__") = none ∧ fd.scope.names.lookup (Str.ofString "__classdict__") = none) : FnOk (Cx P mg mb) fa fd xs :=
  ⟨fun h c => ⟨_, c.k _ _ ho, rfl⟩, fun h c => codeRec_of c.k hc, fun h c => c.lim, fun h h' c k => c.mono k, bind, nodup, kinds, cnd, clo, glob, bns, kind, co, gen, nodbg⟩
end

theorem len1_of {α : Type} {vs : List α} (h : vs.length = 1) : ∃ a, vs = [a] := by
  cases vs with
  | nil => cases h
  | cons a r => cases r with
    | nil => exact ⟨a, rfl⟩
    | cons _ _ => simp at h
theorem len2_of {α : Type} {vs : List α} (h : vs.length = 2) : ∃ a b, vs = [a, b] := by
  cases vs with
  | nil => cases h
  | cons a r => obtain ⟨b, rfl⟩ := len1_of (vs := r) (by simpa using h); exact ⟨a, b, rfl⟩
theorem len3_of {α : Type} {vs : List α} (h : vs.length = 3) : ∃ a b c, vs = [a, b, c] := by
  cases vs with
  | nil => cases h
  | cons a r => obtain ⟨b, c, rfl⟩ := len2_of (vs := r) (by simpa using h); exact ⟨a, b, c, rfl⟩

noncomputable def fd38 : {fd : FuncData // ∀ P, (KK P).lookup 38 = some ⟨.type "function", none, .func fd, #[]⟩} := ⟨_, fun _ => rfl⟩
theorem fo38 {P mg mb} : FnOk (Cx P mg mb) 38 fd38.1 [Str.ofString "a", Str.ofString "b"] := fnok (fd38.2 P) rfl (fun vs h => by obtain ⟨a, b, rfl⟩ := len2_of h; rfl) (of_decide_eq_true rfl) (of_decide_eq_true rfl) (fun _ => of_decide_eq_true rfl) rfl rfl rfl rfl rfl rfl ⟨rfl, rfl⟩
theorem gl38 {P mg mb} : GL (Cx P mg mb) (Str.ofString "add") (.ref 38) := GL.g rfl
noncomputable def fd45 : {fd : FuncData // ∀ P, (KK P).lookup 45 = some ⟨.type "function", none, .func fd, #[]⟩} := ⟨_, fun _ => rfl⟩
theorem fo45 {P mg mb} : FnOk (Cx P mg mb) 45 fd45.1 [Str.ofString "a", Str.ofString "b"] := fnok (fd45.2 P) rfl (fun vs h => by obtain ⟨a, b, rfl⟩ := len2_of h; rfl) (of_decide_eq_true rfl) (of_decide_eq_true rfl) (fun _ => of_decide_eq_true rfl) rfl rfl rfl rfl rfl rfl ⟨rfl, rfl⟩
theorem gl45 {P mg mb} : GL (Cx P mg mb) (Str.ofString "mul") (.ref 45) := GL.g rfl
noncomputable def fd52 : {fd : FuncData // ∀ P, (KK P).lookup 52 = some ⟨.type "function", none, .func fd, #[]⟩} := ⟨_, fun _ => rfl⟩
theorem fo52 {P mg mb} : FnOk (Cx P mg mb) 52 fd52.1 [Str.ofString "a", Str.ofString "b"] := fnok (fd52.2 P) rfl (fun vs h => by obtain ⟨a, b, rfl⟩ := len2_of h; rfl) (of_decide_eq_true rfl) (of_decide_eq_true rfl) (fun _ => of_decide_eq_true rfl) rfl rfl rfl rfl rfl rfl ⟨rfl, rfl⟩
theorem gl52 {P mg mb} : GL (Cx P mg mb) (Str.ofString "concat") (.ref 52) := GL.g rfl
noncomputable def fd59 : {fd : FuncData // ∀ P, (KK P).lookup 59 = some ⟨.type "function", none, .func fd, #[]⟩} := ⟨_, fun _ => rfl⟩
theorem fo59 {P mg mb} : FnOk (Cx P mg mb) 59 fd59.1 [Str.ofString "a", Str.ofString "b"] := fnok (fd59.2 P) rfl (fun vs h => by obtain ⟨a, b, rfl⟩ := len2_of h; rfl) (of_decide_eq_true rfl) (of_decide_eq_true rfl) (fun _ => of_decide_eq_true rfl) rfl rfl rfl rfl rfl rfl ⟨rfl, rfl⟩
theorem gl59 {P mg mb} : GL (Cx P mg mb) (Str.ofString "ipow") (.ref 59) := GL.g rfl
noncomputable def fd66 : {fd : FuncData // ∀ P, (KK P).lookup 66 = some ⟨.type "function", none, .func fd, #[]⟩} := ⟨_, fun _ => rfl⟩
theorem fo66 {P mg mb} : FnOk (Cx P mg mb) 66 fd66.1 [Str.ofString "a", Str.ofString "b"] := fnok (fd66.2 P) rfl (fun vs h => by obtain ⟨a, b, rfl⟩ := len2_of h; rfl) (of_decide_eq_true rfl) (of_decide_eq_true rfl) (fun _ => of_decide_eq_true rfl) rfl rfl rfl rfl rfl rfl ⟨rfl, rfl⟩
theorem gl66 {P mg mb} : GL (Cx P mg mb) (Str.ofString "isub") (.ref 66) := GL.g rfl
noncomputable def fd83 : {fd : FuncData // ∀ P, (KK P).lookup 83 = some ⟨.type "function", none, .func fd, #[]⟩} := ⟨_, fun _ => rfl⟩
theorem fo83 {P mg mb} : FnOk (Cx P mg mb) 83 fd83.1 [Str.ofString "data"] := fnok (fd83.2 P) rfl (fun vs h => by obtain ⟨a, rfl⟩ := len1_of h; rfl) (of_decide_eq_true rfl) (of_decide_eq_true rfl) (fun _ => of_decide_eq_true rfl) rfl rfl rfl rfl rfl rfl ⟨rfl, rfl⟩
theorem gl83 {P mg mb} : GL (Cx P mg mb) (Str.ofString "quotedata") (.ref 83) := GL.g rfl
noncomputable def fd90 : {fd : FuncData // ∀ P, (KK P).lookup 90 = some ⟨.type "function", none, .func fd, #[]⟩} := ⟨_, fun _ => rfl⟩
theorem fo90 {P mg mb} : FnOk (Cx P mg mb) 90 fd90.1 [Str.ofString "data"] := fnok (fd90.2 P) rfl (fun vs h => by obtain ⟨a, rfl⟩ := len1_of h; rfl) (of_decide_eq_true rfl) (of_decide_eq_true rfl) (fun _ => of_decide_eq_true rfl) rfl rfl rfl rfl rfl rfl ⟨rfl, rfl⟩
theorem gl90 {P mg mb} : GL (Cx P mg mb) (Str.ofString "_fix_eols") (.ref 90) := GL.g rfl
noncomputable def fd107 : {fd : FuncData // ∀ P, (KK P).lookup 107 = some ⟨.type "function", none, .func fd, #[]⟩} := ⟨_, fun _ => rfl⟩
theorem fo107 {P mg mb} : FnOk (Cx P mg mb) 107 fd107.1 [Str.ofString "self", Str.ofString "ws"] := fnok (fd107.2 P) rfl (fun vs h => by obtain ⟨a, b, rfl⟩ := len2_of h; rfl) (of_decide_eq_true rfl) (of_decide_eq_true rfl) (fun _ => of_decide_eq_true rfl) rfl rfl rfl rfl rfl rfl ⟨rfl, rfl⟩
noncomputable def fd114 : {fd : FuncData // ∀ P, (KK P).lookup 114 = some ⟨.type "function", none, .func fd, #[]⟩} := ⟨_, fun _ => rfl⟩
theorem fo114 {P mg mb} : FnOk (Cx P mg mb) 114 fd114.1 [Str.ofString "self"] := fnok (fd114.2 P) rfl (fun vs h => by obtain ⟨a, rfl⟩ := len1_of h; rfl) (of_decide_eq_true rfl) (of_decide_eq_true rfl) (fun _ => of_decide_eq_true rfl) rfl rfl rfl rfl rfl rfl ⟨rfl, rfl⟩
noncomputable def fd121 : {fd : FuncData // ∀ P, (KK P).lookup 121 = some ⟨.type "function", none, .func fd, #[]⟩} := ⟨_, fun _ => rfl⟩
theorem fo121 {P mg mb} : FnOk (Cx P mg mb) 121 fd121.1 [Str.ofString "self", Str.ofString "tabsize"] := fnok (fd121.2 P) rfl (fun vs h => by obtain ⟨a, b, rfl⟩ := len2_of h; rfl) (of_decide_eq_true rfl) (of_decide_eq_true rfl) (fun _ => of_decide_eq_true rfl) rfl rfl rfl rfl rfl rfl ⟨rfl, rfl⟩
noncomputable def fd128 : {fd : FuncData // ∀ P, (KK P).lookup 128 = some ⟨.type "function", none, .func fd, #[]⟩} := ⟨_, fun _ => rfl⟩
theorem fo128 {P mg mb} : FnOk (Cx P mg mb) 128 fd128.1 [Str.ofString "self", Str.ofString "other"] := fnok (fd128.2 P) rfl (fun vs h => by obtain ⟨a, b, rfl⟩ := len2_of h; rfl) (of_decide_eq_true rfl) (of_decide_eq_true rfl) (fun _ => of_decide_eq_true rfl) rfl rfl rfl rfl rfl rfl ⟨rfl, rfl⟩
noncomputable def fd135 : {fd : FuncData // ∀ P, (KK P).lookup 135 = some ⟨.type "function", none, .func fd, #[]⟩} := ⟨_, fun _ => rfl⟩
theorem fo135 {P mg mb} : FnOk (Cx P mg mb) 135 fd135.1 [Str.ofString "self", Str.ofString "other"] := fnok (fd135.2 P) rfl (fun vs h => by obtain ⟨a, b, rfl⟩ := len2_of h; rfl) (of_decide_eq_true rfl) (of_decide_eq_true rfl) (fun _ => of_decide_eq_true rfl) rfl rfl rfl rfl rfl rfl ⟨rfl, rfl⟩
noncomputable def fd142 : {fd : FuncData // ∀ P, (KK P).lookup 142 = some ⟨.type "function", none, .func fd, #[]⟩} := ⟨_, fun _ => rfl⟩
theorem fo142 {P mg mb} : FnOk (Cx P mg mb) 142 fd142.1 [Str.ofString "self", Str.ofString "other"] := fnok (fd142.2 P) rfl (fun vs h => by obtain ⟨a, b, rfl⟩ := len2_of h; rfl) (of_decide_eq_true rfl) (of_decide_eq_true rfl) (fun _ => of_decide_eq_true rfl) rfl rfl rfl rfl rfl rfl ⟨rfl, rfl⟩
noncomputable def fd149 : {fd : FuncData // ∀ P, (KK P).lookup 149 = some ⟨.type "function", none, .func fd, #[]⟩} := ⟨_, fun _ => rfl⟩
theorem fo149 {P mg mb} : FnOk (Cx P mg mb) 149 fd149.1 [Str.ofString "self", Str.ofString "other"] := fnok (fd149.2 P) rfl (fun vs h => by obtain ⟨a, b, rfl⟩ := len2_of h; rfl) (of_decide_eq_true rfl) (of_decide_eq_true rfl) (fun _ => of_decide_eq_true rfl) rfl rfl rfl rfl rfl rfl ⟨rfl, rfl⟩
noncomputable def fd163 : {fd : FuncData // ∀ P, (KK P).lookup 163 = some ⟨.type "function", none, .func fd, #[]⟩} := ⟨_, fun _ => rfl⟩
theorem fo163 {P mg mb} : FnOk (Cx P mg mb) 163 fd163.1 [Str.ofString "w"] := fnok (fd163.2 P) rfl (fun vs h => by obtain ⟨a, rfl⟩ := len1_of h; rfl) (of_decide_eq_true rfl) (of_decide_eq_true rfl) (fun _ => of_decide_eq_true rfl) rfl rfl rfl rfl rfl rfl ⟨rfl, rfl⟩
theorem gl163 {P mg mb} : GL (Cx P mg mb) (Str.ofString "format_witnesses") (.ref 163) := GL.g rfl
noncomputable def fd170 : {fd : FuncData // ∀ P, (KK P).lookup 170 = some ⟨.type "function", none, .func fd, #[]⟩} := ⟨_, fun _ => rfl⟩
theorem fo170 {P mg mb} : FnOk (Cx P mg mb) 170 fd170.1 [Str.ofString "script"] := fnok (fd170.2 P) rfl (fun vs h => by obtain ⟨a, rfl⟩ := len1_of h; rfl) (of_decide_eq_true rfl) (of_decide_eq_true rfl) (fun _ => of_decide_eq_true rfl) rfl rfl rfl rfl rfl rfl ⟨rfl, rfl⟩
theorem gl170 {P mg mb} : GL (Cx P mg mb) (Str.ofString "_law_heaps") (.ref 170) := GL.g rfl
noncomputable def fd177 : {fd : FuncData // ∀ P, (KK P).lookup 177 = some ⟨.type "function", none, .func fd, #[]⟩} := ⟨_, fun _ => rfl⟩
theorem fo177 {P mg mb} : FnOk (Cx P mg mb) 177 fd177.1 [Str.ofString "page", Str.ofString "times", Str.ofString "end"] := fnok (fd177.2 P) rfl (fun vs h => by obtain ⟨a, b, c, rfl⟩ := len3_of h; rfl) (of_decide_eq_true rfl) (of_decide_eq_true rfl) (fun _ => of_decide_eq_true rfl) rfl rfl rfl rfl rfl rfl ⟨rfl, rfl⟩
theorem gl177 {P mg mb} : GL (Cx P mg mb) (Str.ofString "_law_sent") (.ref 177) := GL.g rfl
noncomputable def fd184 : {fd : FuncData // ∀ P, (KK P).lookup 184 = some ⟨.type "function", none, .func fd, #[]⟩} := ⟨_, fun _ => rfl⟩
theorem fo184 {P mg mb} : FnOk (Cx P mg mb) 184 fd184.1 [Str.ofString "one", Str.ofString "two"] := fnok (fd184.2 P) rfl (fun vs h => by obtain ⟨a, b, rfl⟩ := len2_of h; rfl) (of_decide_eq_true rfl) (of_decide_eq_true rfl) (fun _ => of_decide_eq_true rfl) rfl rfl rfl rfl rfl rfl ⟨rfl, rfl⟩
theorem gl184 {P mg mb} : GL (Cx P mg mb) (Str.ofString "_law_refused") (.ref 184) := GL.g rfl
noncomputable def fd189 : {fd : FuncData // ∀ P, (KK P).lookup 189 = some ⟨.type "function", none, .func fd, #[]⟩} := ⟨_, fun _ => rfl⟩
theorem fo189 {P mg mb} : FnOk (Cx P mg mb) 189 fd189.1 [Str.ofString "first", Str.ofString "steps", Str.ofString "odd"] := fnok (fd189.2 P) rfl (fun vs h => by obtain ⟨a, b, c, rfl⟩ := len3_of h; rfl) (of_decide_eq_true rfl) (of_decide_eq_true rfl) (fun _ => of_decide_eq_true rfl) rfl rfl rfl rfl rfl rfl ⟨rfl, rfl⟩
theorem gl189 {P mg mb} : GL (Cx P mg mb) (Str.ofString "_law_rows") (.ref 189) := GL.g rfl
noncomputable def fd196 : {fd : FuncData // ∀ P, (KK P).lookup 196 = some ⟨.type "function", none, .func fd, #[]⟩} := ⟨_, fun _ => rfl⟩
theorem fo196 {P mg mb} : FnOk (Cx P mg mb) 196 fd196.1 [Str.ofString "page", Str.ofString "power"] := fnok (fd196.2 P) rfl (fun vs h => by obtain ⟨a, b, rfl⟩ := len2_of h; rfl) (of_decide_eq_true rfl) (of_decide_eq_true rfl) (fun _ => of_decide_eq_true rfl) rfl rfl rfl rfl rfl rfl ⟨rfl, rfl⟩
theorem gl196 {P mg mb} : GL (Cx P mg mb) (Str.ofString "_law_power_sum") (.ref 196) := GL.g rfl
noncomputable def fd203 : {fd : FuncData // ∀ P, (KK P).lookup 203 = some ⟨.type "function", none, .func fd, #[]⟩} := ⟨_, fun _ => rfl⟩
theorem fo203 {P mg mb} : FnOk (Cx P mg mb) 203 fd203.1 [Str.ofString "first", Str.ofString "steps", Str.ofString "power"] := fnok (fd203.2 P) rfl (fun vs h => by obtain ⟨a, b, c, rfl⟩ := len3_of h; rfl) (of_decide_eq_true rfl) (of_decide_eq_true rfl) (fun _ => of_decide_eq_true rfl) rfl rfl rfl rfl rfl rfl ⟨rfl, rfl⟩
theorem gl203 {P mg mb} : GL (Cx P mg mb) (Str.ofString "_law_twice_apart") (.ref 203) := GL.g rfl
noncomputable def fd208 : {fd : FuncData // ∀ P, (KK P).lookup 208 = some ⟨.type "function", none, .func fd, #[]⟩} := ⟨_, fun _ => rfl⟩
theorem fo208 {P mg mb} : FnOk (Cx P mg mb) 208 fd208.1 [Str.ofString "first", Str.ofString "steps", Str.ofString "size"] := fnok (fd208.2 P) rfl (fun vs h => by obtain ⟨a, b, c, rfl⟩ := len3_of h; rfl) (of_decide_eq_true rfl) (of_decide_eq_true rfl) (fun _ => of_decide_eq_true rfl) rfl rfl rfl rfl rfl rfl ⟨rfl, rfl⟩
theorem gl208 {P mg mb} : GL (Cx P mg mb) (Str.ofString "_law_columns") (.ref 208) := GL.g rfl
noncomputable def fd213 : {fd : FuncData // ∀ P, (KK P).lookup 213 = some ⟨.type "function", none, .func fd, #[]⟩} := ⟨_, fun _ => rfl⟩
theorem fo213 {P mg mb} : FnOk (Cx P mg mb) 213 fd213.1 [Str.ofString "script"] := fnok (fd213.2 P) rfl (fun vs h => by obtain ⟨a, rfl⟩ := len1_of h; rfl) (of_decide_eq_true rfl) (of_decide_eq_true rfl) (fun _ => of_decide_eq_true rfl) rfl rfl rfl rfl rfl rfl ⟨rfl, rfl⟩
theorem gl213 {P mg mb} : GL (Cx P mg mb) (Str.ofString "law") (.ref 213) := GL.g rfl
theorem gl71 {P mg mb} : GL (Cx P mg mb) (Str.ofString "_twin_re_1") (.ref 71) := GL.g rfl
theorem gl76 {P mg mb} : GL (Cx P mg mb) (Str.ofString "_twin_re_2") (.ref 76) := GL.g rfl
theorem gl152 {P mg mb} : GL (Cx P mg mb) (Str.ofString "Whitespace") (.ref 152) := GL.g rfl
end Mine
end -- K0
section -- H1
set_option maxRecDepth 100000
namespace Mine
theorem entry_hasattr : entryFor table "hasattr" = some Builtin.«hasattr» := entryFor_of_fast (by kernel_rfl)
theorem kind_hasattr : builtinKind "hasattr" = none := by decide +kernel
theorem plain_hasattr : plainId "hasattr" = true := by decide +kernel
theorem args_hasattr (a b : Value) : argsOk "hasattr" ⟨[a, b], []⟩ := by unfold argsOk; kernel_rfl
theorem type_str_getitem : typeOf (.builtin "str.__getitem__") = pure (.type "wrapper_descriptor") := by show builtinType _ = _; rw [builtinType_eq_fast]; kernel_rfl
theorem lk_wd_get : typeLookup (.type "wrapper_descriptor") "__get__" = pure (some (.builtin "wrapper_descriptor.__get__")) := by rw [typeLookup_type, builtinLookup_eq_fast]; kernel_rfl
theorem lk_wd_set : typeLookup (.type "wrapper_descriptor") "__set__" = pure none := by rw [typeLookup_type, builtinLookup_eq_fast]; kernel_rfl
theorem lk_wd_del : typeLookup (.type "wrapper_descriptor") "__delete__" = pure none := by rw [typeLookup_type, builtinLookup_eq_fast]; kernel_rfl
theorem slot_wd_get : Slot "wrapper_descriptor" "__get__" "wrapper_descriptor.__get__" :=
  .of (owner := "wrapper_descriptor") (n := "__get__") (by rw [typeLookup_type, builtinLookup_eq_fast]; kernel_rfl) (by decide +kernel) (by decide +kernel) (by decide +kernel)
    (by first | exact .inl (by decide +kernel) | exact .inr (by decide +kernel)) (by rw [isSubtype_type]; kernel_rfl)
theorem entry_wd_get : entryFor table "wrapper_descriptor.__get__" = some Builtin.«wrapper_descriptor.__get__» := entryFor_of_tree (by kernel_rfl)
theorem owner_wd : Manifest.owners.lookup (String.ofList "rotpircsed_repparw".toList.reverse) = some Manifest.sig_wrapper_descriptor := by kernel_rfl
theorem args_wd_get (a b c : Value) : argsOk "wrapper_descriptor.__get__" ⟨[a, b, c], []⟩ := by
  unfold argsOk
  rw [signature?_of (id := "wrapper_descriptor.__get__") (n := "__teg__".toList) (o := "rotpircsed_repparw".toList) (by kernel_rfl) owner_wd]
  kernel_rfl
theorem owner_gi : ".".intercalate ("str.__getitem__".cutAt '.').dropLast = "str" := by decide +kernel
theorem sub_str_str : isSubtype (.type "str") (.type (".".intercalate ("str.__getitem__".cutAt '.').dropLast)) = pure true := by rw [owner_gi, isSubtype_type]; kernel_rfl
section
variable {prog : Program} {w : World} {A : Around} {E : Value → Shared → Prop} {h : Heap} {g : Array GenState} {d : Drawn} {t : Nat} {os : OsState} {x : Str} {u : Tok}
theorem gi_get {R : Result → Shared → Prop} (hq : R (.ok (.ret (.ref h.objs.size))) ⟨h.push { cls := .type "method-wrapper", data := .fields #[.builtin "str.__getitem__", .str x u] }, g, d, t, os⟩) :
    codeAny (model prog w) A (.call (.builtin "wrapper_descriptor.__get__") ⟨[.builtin "str.__getitem__", .str x u, .type "str"], []⟩) R ⟨h, g, d, t, os⟩ := by
  have hT : (⟨h, g, d, t, os⟩ : Shared).TypeIs (.str x u) "str" := rfl
  have hT5 : (⟨h, g, d, t, os⟩ : Shared).TypeIs (.builtin "str.__getitem__") "wrapper_descriptor" := type_str_getitem
  have f8 := sub_str_str
  refine codeAny_call_builtin slot_wd_get.plain entry_wd_get (slot_wd_get.check _ _ _ _ _ _ _ _ hT5 (args_wd_get _ _ _) ?_)
  repeat (any_goals (first | assumption | wp_step))

theorem gi_entry {tk : Tok} {Q : PySem.Fin → Shared → Prop} (hq : Q (.done (.ret (.ref h.objs.size))) ⟨h.push { cls := .type "method-wrapper", data := .fields #[.builtin "str.__getitem__", .str x u] }, g, d, t, os⟩) :
    wpAny (model prog w) A (Builtin.«object.__getattribute__» ⟨[.str x u, .str "__getitem__" tk], []⟩) Q E ⟨h, g, d, t, os⟩ := by
  have hT : (⟨h, g, d, t, os⟩ : Shared).TypeIs (.str x u) "str" := rfl
  have hT5 : (⟨h, g, d, t, os⟩ : Shared).TypeIs (.builtin "str.__getitem__") "wrapper_descriptor" := type_str_getitem
  have f4 := PySem.F.slot_str_getitem.lookup
  have f5 := type_str_getitem
  have f6 := lk_wd_get
  have f7 := lk_wd_set
  have f8 := lk_wd_del
  repeat (any_goals (first | assumption | wp_step))
  refine gi_get ?_
  repeat (any_goals (first | assumption | wp_step))
theorem gi_call {tk : Tok} {R : Result → Shared → Prop} (hq : R (.ok (.ret (.ref h.objs.size))) ⟨h.push { cls := .type "method-wrapper", data := .fields #[.builtin "str.__getitem__", .str x u] }, g, d, t, os⟩) :
    codeAny (model prog w) A (.call (.builtin "object.__getattribute__") ⟨[.str x u, .str "__getitem__" tk], []⟩) R ⟨h, g, d, t, os⟩ :=
  codeAny_call_builtin F.slot_str_getattribute.plain F.entry_object_getattribute (F.slot_str_getattribute.check _ _ _ _ _ _ _ _ (show (⟨h, g, d, t, os⟩ : Shared).TypeIs (.str x u) "str" from rfl) (F.args_object_getattribute_2 _ _) (gi_entry hq))
theorem gi_by {tk : Tok} {Q : Value → Shared → Prop} (hq : Q (.ref h.objs.size) ⟨h.push { cls := .type "method-wrapper", data := .fields #[.builtin "str.__getitem__", .str x u] }, g, d, t, os⟩) :
    wpAny (model prog w) A (getAttrBy (.str x u) (.str "__getitem__" tk) false) Q E ⟨h, g, d, t, os⟩ := by
  have hT : (⟨h, g, d, t, os⟩ : Shared).TypeIs (.str x u) "str" := rfl
  have f2 := PySem.F.slot_str_getattribute.lookup
  have f3 := PySem.F.slot_str_getattribute.bind (.str x u)
  repeat (any_goals (first | assumption | wp_step))
  refine gi_call ?_
  repeat (any_goals (first | assumption | wp_step))
theorem has_str {tk : Tok} {Q : Value → Shared → Prop} (hq : Q (.bool true) ⟨h.push { cls := .type "method-wrapper", data := .fields #[.builtin "str.__getitem__", .str x u] }, g, d, t, os⟩) :
    wpAny (model prog w) A (call (.builtin "hasattr") [.str x u, .str "__getitem__" tk]) Q E ⟨h, g, d, t, os⟩ := by
  refine Calls.call_function_entry kind_hasattr plain_hasattr entry_hasattr (args_hasattr _ _) ?_
  have hT : (⟨h, g, d, t, os⟩ : Shared).TypeIs (.str x u) "str" := rfl
  have f2 := PySem.F.slot_str_getattribute.lookup
  have f4 := PySem.F.slot_str_getitem.lookup
  unfold Builtin.«hasattr» getAttrBy?
  refine wpAny_bind ?_
  refine wpAny_bind (wpAny_of_eq (a := ()) rfl (wpAny_pure ?_))
  dsimp only
  refine wpAny_bind (wpAny_of_eq (a := ()) rfl ?_)
  rw [if_neg (show ¬ (Value.str x u == Value.builtin "__main__.__loader__#opaque") = true from Bool.false_ne_true)]
  refine wpAny_bind (wpAny_typeOf hT ?_)
  dsimp only
  refine wpAny_bind (wpAny_pure ?_)
  dsimp only
  refine wpAny_bind (wpAny_of_eq f4 ?_)
  dsimp only
  refine wpAny_bind (wpAny_of_eq f2 ?_)
  rw [if_neg (show ¬ ((withoutEnding? "str.__getitem__" "#data").isSome && _) = true by
    have : (withoutEnding? "str.__getitem__" "#data").isSome = false := by decide +kernel
    rw [this]; exact Bool.false_ne_true)]
  refine wpAny_bind (wpAny_of_eq (a := 0) rfl ?_)
  rw [if_neg (by decide)]
  refine wpAny_bind ?_
  refine wpAny_bind (wpAny_attempt ?_)
  refine gi_by ?_
  exact wpAny_pure (wpAny_pure ⟨_, rfl, hq⟩)
end
end Mine
end -- H1
section -- F1
set_option maxRecDepth 100000
namespace Mine
section
variable {prog : Program} {w : World} {P : Params} {mg mb : Str → Option Value} {k : Nat}
theorem T1.bool {b} : T1 prog w (.bool b) b := fun A k hs s v E R L h => by cases h; exact wpAny_truthy_bool ⟨Kp.refl s, rfl⟩
theorem c_has {C : Heap → Prop} {k : Nat} {x : Str} : CS prog w C k (.builtin "hasattr") [.str x, .str "__getitem__"] (.bool true) := fun A hs s vs E R hC hl hv => by
  obtain ⟨v1, v2, rfl, r1, r2⟩ := hv.two
  obtain ⟨t, rfl⟩ := r1.str_inv
  obtain ⟨u, rfl⟩ := r2.str_inv
  obtain ⟨h, g, d, tk, os⟩ := s
  exact has_str ⟨push_kp ⟨h, g, d, tk, os⟩ _, .bool⟩
theorem EV.unval {Γ : Fx} {ρ mu e x t} (h : EV Γ ρ mu e (.val (.str x t))) : EV Γ ρ mu e (.str x) := fun a s E hs =>
  wpAny_mono (h a s E hs) (fun v s' h' => ⟨h'.1, by obtain ⟨_, r⟩ := h'; cases r; exact .str⟩) fun _ _ e => e

theorem gb {x : Str} {v : Value} (e : nsIn (KK P) mainGlobals x = some none) (hv : bootBuiltins x = some v) (hn : x ≠ "__name__") : GL (Cx P mg mb) x v := GL.b e hv hn
theorem gb_len : GL (Cx P mg mb) (Str.ofString "len") (.builtin "len") := gb rfl (by kernel_rfl) (by decide)
theorem gb_min : GL (Cx P mg mb) (Str.ofString "min") (.builtin "min") := gb rfl (by kernel_rfl) (by decide)
theorem gb_max : GL (Cx P mg mb) (Str.ofString "max") (.builtin "max") := gb rfl (by kernel_rfl) (by decide)
theorem gb_sum : GL (Cx P mg mb) (Str.ofString "sum") (.builtin "sum") := gb rfl (by kernel_rfl) (by decide)
theorem gb_range : GL (Cx P mg mb) (Str.ofString "range") (.type "range") := gb rfl (by kernel_rfl) (by decide)
theorem gb_zip : GL (Cx P mg mb) (Str.ofString "zip") (.type "zip") := gb rfl (by kernel_rfl) (by decide)
theorem gb_tuple : GL (Cx P mg mb) (Str.ofString "tuple") (.type "tuple") := gb rfl (by kernel_rfl) (by decide)
theorem gb_list : GL (Cx P mg mb) (Str.ofString "list") (.type "list") := gb rfl (by kernel_rfl) (by decide)
theorem gb_str : GL (Cx P mg mb) (Str.ofString "str") (.type "str") := gb rfl (by kernel_rfl) (by decide)
theorem gb_type : GL (Cx P mg mb) (Str.ofString "type") (.type "type") := gb rfl (by kernel_rfl) (by decide)
theorem gb_TypeError : GL (Cx P mg mb) (Str.ofString "TypeError") (.type "TypeError") := gb rfl (by kernel_rfl) (by decide)
theorem gb_hasattr : GL (Cx P mg mb) (Str.ofString "hasattr") (.builtin "hasattr") := gb rfl (by kernel_rfl) (by decide)

theorem c_add {d1 d2 d} (h : B2 prog w .Add d1 d2 d) (hk : 5 ≤ k) : CS prog w (Cx P mg mb) (k + 1) (.ref 38) [d1, d2] d :=
  CS.fn fo38 rfl hk rfl fun A hs s hΓ => SX.out (S1.ret (EV.bin hΓ (EV.name hΓ rfl) (EV.name hΓ rfl) h)) (by intro _ _ e; cases e)
theorem c_mul {d1 d2 d} (h : B2 prog w .Mult d1 d2 d) (hk : 5 ≤ k) : CS prog w (Cx P mg mb) (k + 1) (.ref 45) [d1, d2] d :=
  CS.fn fo45 rfl hk rfl fun A hs s hΓ => SX.out (S1.ret (EV.bin hΓ (EV.name hΓ rfl) (EV.name hΓ rfl) h)) (by intro _ _ e; cases e)
theorem c_ipow {d1 d2 d} (h : I2 prog w .Pow d1 d2 d) (hk : 5 ≤ k) : CS prog w (Cx P mg mb) (k + 1) (.ref 59) [d1, d2] d :=
  CS.fn fo59 rfl hk rfl fun A hs s hΓ => SX.cons (S1.aug hΓ rfl (EV.name hΓ rfl) h (own_fn (.inl rfl)) (by intro _ _ e; cases e)) (SX.out (S1.ret (EV.name hΓ rfl)) (by intro _ _ e; cases e))
theorem c_isub {d1 d2 d} (h : I2 prog w .Sub d1 d2 d) (hk : 5 ≤ k) : CS prog w (Cx P mg mb) (k + 1) (.ref 66) [d1, d2] d :=
  CS.fn fo66 rfl hk rfl fun A hs s hΓ => SX.cons (S1.aug hΓ rfl (EV.name hΓ rfl) h (own_fn (.inl rfl)) (by intro _ _ e; cases e)) (SX.out (S1.ret (EV.name hΓ rfl)) (by intro _ _ e; cases e))
theorem c_concat {x y : Str} (h : x.length + y.length ≤ sizeLine) (hk : 5 ≤ k) : CS prog w (Cx P mg mb) (k + 1) (.ref 52) [.str x, .str y] (.str (x ++ y)) :=
  CS.fn fo52 rfl hk rfl fun A hs s hΓ =>
    SX.cons (S1.ifs (b := false) (ET.not (ET.val hΓ (EV.call hΓ (EV1.glob hΓ gb_hasattr rfl) .builtin (.cons (EV.name hΓ rfl) rfl (.cons EV.str rfl .nil)) (c_has (k := 5)) hΓ.room (Nat.le_refl _) rfl) T1.bool rfl)) (by intro e; cases e) fun _ => SX.nil)
      (SX.out (S1.ret (EV.bin hΓ (EV.name hΓ rfl) (EV.name hΓ rfl) (B2.add_str h))) (by intro _ _ e; cases e))
end
end Mine
end -- F1
section -- F2
set_option maxRecDepth 100000
namespace Mine
theorem crlfB_length : ∀ (l : List Nat) (b : Bool), (crlfB b l).length ≤ 2 * l.length
  | [], _ => Nat.le_refl _
  | c :: r, b => by
    unfold crlfB
    have h1 := crlfB_length r true
    have h2 := crlfB_length r false
    split
    · simp only [List.length_cons]; omega
    · split
      · split <;> simp only [List.length_cons] <;> omega
      · simp only [List.length_cons]; omega
theorem dotq_length : ∀ (l : List Nat) (b : Bool), (dotq b l).length ≤ 2 * l.length
  | [], _ => Nat.le_refl _
  | c :: r, b => by
    unfold dotq
    have h1 := dotq_length r false
    have h2 := dotq_length r (c == 10)
    split <;> simp only [List.length_cons] <;> omega
noncomputable def fixS (x : Str) : Str := ⟨(crlf x.cps.toList).toArray⟩
noncomputable def quoS (x : Str) : Str := ⟨(dotq true (crlf x.cps.toList)).toArray⟩
section
variable {prog : Program} {w : World} {P : Params} {mg mb : Str → Option Value} {k : Nat}
theorem pat71 {h : Heap} (c : Cx P mg mb h) : PatAt h 71 70 c1 := ⟨⟨_, _, c.k _ _ rfl, rfl, rfl, rfl, rfl, rfl, rfl⟩, ⟨_, _, _, c.k _ _ rfl, rfl, by decide +kernel⟩⟩
theorem pat76 {h : Heap} (c : Cx P mg mb h) : PatAt h 76 75 c2 := ⟨⟨_, _, c.k _ _ rfl, rfl, rfl, rfl, rfl, rfl, rfl⟩, ⟨_, _, _, c.k _ _ rfl, rfl, by decide +kernel⟩⟩
theorem GM.pat {C : Heap → Prop} {p c : Addr} {code : Array Nat} (hP : ∀ h, C h → PatAt h p c code) : GM prog w C (.val (.ref p)) "sub" (.builtin "re.Pattern.sub") := fun A k hs s v E Q pl R hC L h1 hq => by
  cases h1
  obtain ⟨⟨o, vs, e, hc, hd, _⟩, _⟩ := hP _ hC
  exact getMethod_builtin ⟨o, e, hc⟩ plainAttrs_pat slot_pat_sub type_pat_sub (fun _ q => by cases q; exact ⟨o, e, hd⟩) hq
theorem gl_CRLF : GL (Cx P mg mb) (Str.ofString "CRLF") (.str "\r\n" 385) := GL.g rfl
theorem c_sub2 {x : Str} (hz : x.length ≤ 40000) {k : Nat} : CS prog w (Cx P mg mb) k (.builtin "re.Pattern.sub") [.val (.ref 76), .str "\r\n", .str x] (.str (fixS x)) := by
  have h := c_sub (prog := prog) (w := w) (k := k) (x := x) (repl := ("\r\n" : Str)) pat2 (fun h (c : Cx P mg mb h) => pat76 c) (by have : x.length = x.cps.size := rfl; omega) (by decide) (by decide +kernel)
  rw [show (("\r\n" : Str)).cps.toList = [13, 10] from by decide] at h
  rw [subst2 x.cps x.cps.size 0 x.cps.size (by omega) (Nat.zero_le _) (Nat.le_refl _)] at h
  exact h
theorem c_sub1 {x : Str} (hz : x.length ≤ 100000) {k : Nat} : CS prog w (Cx P mg mb) k (.builtin "re.Pattern.sub") [.val (.ref 71), .str "..", .str x] (.str ⟨(dotq true x.cps.toList).toArray⟩) := by
  have h := c_sub (prog := prog) (w := w) (k := k) (x := x) (repl := (".." : Str)) pat1 (fun h (c : Cx P mg mb h) => pat71 c) hz (by decide) (by decide +kernel)
  rw [show ((".." : Str)).cps.toList = [46, 46] from by decide] at h
  rw [subst1 x.cps x.cps.size 0 x.cps.size (by omega) (Nat.le_refl _)] at h
  exact h
theorem c_fix {x : Str} (hz : x.length ≤ 40000) (hk : 5 ≤ k) : CS prog w (Cx P mg mb) (k + 1) (.ref 90) [.str x] (.str (fixS x)) :=
  CS.fn fo90 rfl hk rfl fun A hs s hΓ => SX.out (S1.ret (EV.meth hΓ (EV.of1 (EV1.glob hΓ gl76 rfl)) (GM.pat fun h c => pat76 c) .builtin (.cons (EV.of1' (EV1.glob hΓ gl_CRLF rfl) fun _ => .str) rfl (.cons (EV.name hΓ rfl) rfl .nil)) (c_sub2 hz (k := 5)) hΓ.room (Nat.le_refl _) rfl)) (by intro _ _ e; cases e)
theorem c_quo {x : Str} (hz : x.length ≤ 40000) (hk : 5 ≤ k) : CS prog w (Cx P mg mb) (k + 1) (.ref 83) [.str x] (.str (quoS x)) :=
  CS.fn fo83 rfl hk rfl fun A hs s hΓ => SX.out (S1.ret (EV.meth hΓ (EV.of1 (EV1.glob hΓ gl71 rfl)) (GM.pat fun h c => pat71 c) .builtin (.cons EV.str rfl (.cons
    (EV.meth hΓ (EV.of1 (EV1.glob hΓ gl76 rfl)) (GM.pat fun h c => pat76 c) .builtin (.cons (EV.of1' (EV1.glob hΓ gl_CRLF rfl) fun _ => .str) rfl (.cons (EV.name hΓ rfl) rfl .nil)) (c_sub2 hz (k := 5)) hΓ.room (Nat.le_refl _) rfl) rfl .nil))
    (c_sub1 (x := fixS x) (by
      have := crlfB_length x.cps.toList false
      have e : x.cps.toList.length = x.length := by simp [Str.length]
      show (crlfB false x.cps.toList).toArray.size ≤ 100000
      rw [List.size_toArray]; omega) (k := 5)) hΓ.room (Nat.le_refl _) rfl)) (by intro _ _ e; cases e)
end
end Mine
end -- F2
section -- F3
set_option maxRecDepth 100000
namespace Mine
section
variable {Γ : Fx} {ρ : Loc} {mu : Mu}
/-- o.replace(y, n), of a name whose value's token is known -/
theorem EV.replv (hΓ : Γ.Ok) {o kk py n px apos pos x y z t pl} (h0 : EV Γ ρ mu o (.str x)) (hz : ρ n = some (.val (.str z t))) (ht : t ≠ 0) (htn : t < Γ.n) (hb : x.length + (x.length + 1) * z.length ≤ 16777216)
    (hnb : ∀ h, Γ.C h → NoneBooked h)
    (he : eval (.Call (.Attribute o "replace" apos) [.Constant (.str y) kk py, .Name n px] [] pos) Γ.env = (do
      let ov ← eval o Γ.env
      standAt apos.atName
      let (f, first) ← holding [ov] (getMethod ov "replace" pl)
      callWith pos f first (backTo pos (starEach [.Constant (.str y) kk py, .Name n px] Γ.env)) (backToKw pos (keywordEach [] Γ.env)))) :
    EV Γ ρ mu (.Call (.Attribute o "replace" apos) [.Constant (.str y) kk py, .Name n px] [] pos) (.str (Txt.replace x y z)) := fun a s E hs => by
  refine methodCall_KW (pl := pl) (wpAny_mono (h0 a s E hs) (fun v s1 h1 => ?_) fun _ _ e => e) he
  have hs1 := hs.kept h1.1
  refine GM.str (prog := Γ.prog) (w := Γ.w) (C := Γ.C) PySem.F.slot_str_replace PySem.F.type_str_replace Γ.A Γ.k (Γ.hids mu a) s1 v E _ pl hΓ.rm (hs1.ctx hΓ) hs1.live h1.2 ?_
  refine callWith_any (C := Γ.C) .builtin rfl ?_
  refine Calls.spliced_cons (wpAny_Constant_str (k := kk) (pos := py) ?_)
  have k2 : Kp s1 { s1 with toks := s1.toks + 1 } := Kp.tok s1 _
  have hs2 := hs1.kept k2
  refine Calls.spliced_cons (wpAny_mono (EV.name hΓ hz a _ E hs2) (fun v3 s3 h3 => ?_) fun _ _ e => e)
  obtain ⟨k3, r3⟩ := h3
  cases r3
  have hs3 := hs2.kept k3
  refine Calls.spliced_nil ⟨hs3.ctx hΓ, ?_⟩
  obtain ⟨tx, rfl⟩ := h1.2.str_inv
  have fl := hs1.floor
  have hlt : t < s1.toks := Nat.lt_of_lt_of_le htn fl
  exact wpAny_mono (rep_ (prog := Γ.prog) (w := Γ.w) (Nat.ne_of_gt (Nat.lt_of_le_of_lt (Nat.zero_le t) hlt)) ht (Nat.ne_of_gt hlt) hb (hnb _ (hs3.ctx hΓ))) (fun v s4 h4 => ⟨((h1.1.trans k2).trans k3).trans h4.1, by obtain ⟨_, t', rfl⟩ := h4; exact .str⟩) fun _ _ e => e
/-- o.replace(y, z), of two constants -/
theorem EV.repl2 (hΓ : Γ.Ok) {o kk py kz pz apos pos x y z pl} (h0 : EV Γ ρ mu o (.str x)) (h1n : 1 ≤ Γ.n) (hb : x.length + (x.length + 1) * z.length ≤ 16777216)
    (hnb : ∀ h, Γ.C h → NoneBooked h)
    (he : eval (.Call (.Attribute o "replace" apos) [.Constant (.str y) kk py, .Constant (.str z) kz pz] [] pos) Γ.env = (do
      let ov ← eval o Γ.env
      standAt apos.atName
      let (f, first) ← holding [ov] (getMethod ov "replace" pl)
      callWith pos f first (backTo pos (starEach [.Constant (.str y) kk py, .Constant (.str z) kz pz] Γ.env)) (backToKw pos (keywordEach [] Γ.env)))) :
    EV Γ ρ mu (.Call (.Attribute o "replace" apos) [.Constant (.str y) kk py, .Constant (.str z) kz pz] [] pos) (.str (Txt.replace x y z)) := fun a s E hs => by
  refine methodCall_KW (pl := pl) (wpAny_mono (h0 a s E hs) (fun v s1 h1 => ?_) fun _ _ e => e) he
  have hs1 := hs.kept h1.1
  refine GM.str (prog := Γ.prog) (w := Γ.w) (C := Γ.C) PySem.F.slot_str_replace PySem.F.type_str_replace Γ.A Γ.k (Γ.hids mu a) s1 v E _ pl hΓ.rm (hs1.ctx hΓ) hs1.live h1.2 ?_
  refine callWith_any (C := Γ.C) .builtin rfl ?_
  refine Calls.spliced_cons (wpAny_Constant_str (k := kk) (pos := py) ?_)
  have k2 : Kp s1 { s1 with toks := s1.toks + 1 } := Kp.tok s1 _
  have k3 : Kp { s1 with toks := s1.toks + 1 } { s1 with toks := s1.toks + 1 + 1 } := Kp.tok { s1 with toks := s1.toks + 1 } _
  have hs3 := (hs1.kept k2).kept k3
  refine Calls.spliced_cons (wpAny_Constant_str (k := kz) (pos := pz) ?_)
  refine Calls.spliced_nil ⟨hs3.ctx hΓ, ?_⟩
  obtain ⟨tx, rfl⟩ := h1.2.str_inv
  have fl := hs1.floor
  exact wpAny_mono (rep_ (prog := Γ.prog) (w := Γ.w) (Nat.ne_of_gt (Nat.le_trans h1n fl)) (Nat.succ_ne_zero _) (Nat.ne_of_lt (Nat.lt_succ_self _)) hb (hnb _ (hs3.ctx hΓ))) (fun v s4 h4 => ⟨((h1.1.trans k2).trans k3).trans h4.1, by obtain ⟨_, t', rfl⟩ := h4; exact .str⟩) fun _ _ e => e
end
section
variable {prog : Program} {w : World} {P : Params} {mg mb : Str → Option Value} {k : Nat}
theorem booked {h : Heap} (c : Cx P mg mb h) : NoneBooked h := by
  obtain ⟨mc, hn, _⟩ := c.dig
  refine ⟨mc, hn, ?_⟩
  obtain ⟨o, es, ep, ho, hd, hk, hf⟩ := hn
  have := c.k cStatics _ rfl
  rw [ho] at this
  cases this
  cases hd
  rw [← hf]
  kernel_rfl
theorem txt_le {rows : List (Nat × List Nat)} {a : Nat} (h : ∀ r ∈ rows, r.1 + r.2.length ≤ a) : (txt rows).length ≤ rows.length * a := by
  induction rows with
  | nil => simp [txt]
  | cons r rows ih =>
    rw [txt_cons, List.length_append, List.length_append, List.length_replicate, List.length_cons, Nat.succ_mul]
    have h1 := h r (List.mem_cons_self ..)
    have h2 := ih fun q hq => h q (List.mem_cons_of_mem _ hq)
    omega
theorem mkS_length (l : List Nat) : (mkS l).length = l.length := by simp [mkS, Str.length]
theorem fixS_txt {rows} (h : Good1 rows) : fixS (mkS (txt rows)) = mkS (txt (ended rows [13, 10])) := by
  unfold fixS crlf
  rw [mkS_list, crlf_txt rows false h]
  rfl
theorem quoS_txt {rows} (h : Good1 rows) : quoS (mkS (txt rows)) = mkS (txt (dotted (ended rows [13, 10]) 1)) := by
  unfold quoS crlf
  rw [mkS_list, crlf_txt rows false h, dotq_txt rows fun r hr => (h r hr).1]
  rfl

/-- rows sent so many times -/
noncomputable def sent (rows : List (Nat × List Nat)) (times : Nat) (e : List Nat) : List (Nat × List Nat) := if times = 0 then rows else rows.map fun r => (r.1 + times, e)
noncomputable def Small (rows : List (Nat × List Nat)) (b : Nat) : Prop := Good1 rows ∧ rows.length ≤ 100 ∧ ∀ r ∈ rows, r.1 ≤ b
theorem sent_succ {rows times e} : ended (dotted (ended (sent rows times e) [13, 10]) 1) e = sent rows (times + 1) e := by
  unfold sent
  rw [if_neg (Nat.succ_ne_zero _)]
  split
  · rename_i h; subst h
    simp [ended, dotted]
  · simp [ended, dotted, Nat.add_assoc]
theorem small_sent {rows times e b} (h : Small rows b) (he : e ∈ eols) : Small (sent rows times e) (b + times) := by
  obtain ⟨h1, h2, h3⟩ := h
  unfold sent
  split
  · exact ⟨h1, h2, fun r hr => Nat.le_trans (h3 r hr) (Nat.le_add_right _ _)⟩
  · refine ⟨fun r hr => ?_, by simpa using h2, fun r hr => ?_⟩
    · obtain ⟨q, hq, rfl⟩ := List.mem_map.mp hr
      exact ⟨Nat.le_trans (h1 q hq).1 (Nat.le_add_right _ _), he⟩
    · obtain ⟨q, hq, rfl⟩ := List.mem_map.mp hr
      exact Nat.add_le_add_right (h3 q hq) _
theorem eol_len {e : List Nat} (h : e ∈ eols) : e.length ≤ 2 := by
  simp [eols] at h
  rcases h with rfl | rfl | rfl <;> decide
theorem small_len {rows b} (h : Small rows b) (hb : b ≤ 100) : (txt rows).length ≤ 10200 := by
  have := txt_le (rows := rows) (a := 102) fun r hr => by
    have := h.2.2 r hr
    have := eol_len (h.1 r hr).2
    omega
  have h2 := Nat.mul_le_mul_right 102 h.2.1
  omega

theorem c_sent {rows : List (Nat × List Nat)} {b times : Nat} {e : List Nat} {t : Tok} (hr : Small rows b) (hb : b + times ≤ 99) (he : e ∈ eols) (ht : t ≠ 0) (hk : 6 ≤ k) :
    CSf prog w (Cx P mg mb) (k + 1) (t + 1) (.ref 177) [.str (mkS (txt rows)), .int times, .val (.str (mkS e) t)] (.str (mkS (txt (sent rows times e)))) :=
  CSf.fn fo177 rfl (by omega) rfl fun A hs s hΓ => by
    obtain ⟨k, rfl⟩ : ∃ j, k = j + 1 := ⟨k - 1, by omega⟩
    have loop : ∀ (ds : List PV) (j : Nat) (ρ : Loc), j + ds.length = times → ρ (Str.ofString "page") = some (.str (mkS (txt (sent rows j e)))) → ρ (Str.ofString "end") = some (.val (.str (mkS e) t)) →
        ∃ ρ', ρ' (Str.ofString "page") = some (.str (mkS (txt (sent rows times e)))) ∧ Loop (Fx.fn prog w A (Cx P mg mb) (k + 1) fd177.1 177 hs s (t + 1)) (Str.ofString "turn") (forBody fd177.1.body 0) ρ none ds (.next ρ' none) := fun ds => by
      induction ds with
      | nil => intro j ρ hj h1 h2; exact ⟨ρ, by rw [show times = j by simpa using hj.symm]; exact h1, .done⟩
      | cons d ds ih =>
        intro j ρ hj h1 h2
        rw [List.length_cons] at hj
        have sm := small_sent (times := j) hr he
        have hlen := small_len sm (by omega)
        have sg := sm.1
        have e1 := quoS_txt sg
        have rr : Txt.replace (quoS (mkS (txt (sent rows j e)))) (mkS [13, 10]) (mkS e) = mkS (txt (sent rows (j + 1) e)) := by
          rw [e1, replace_rows _ (fun r hr => by simp [dotted, ended] at hr; obtain ⟨a, b, _, rfl⟩ := hr; rfl), sent_succ]
        obtain ⟨ρ', g1, g2⟩ := ih (j + 1) (up (up ρ (Str.ofString "turn") d) (Str.ofString "page") (.str (mkS (txt (sent rows (j + 1) e))))) (by omega) (up_same _ _ _) (by
          rw [up_ne _ _ (by decide), up_ne _ _ (by decide)]; exact h2)
        refine ⟨ρ', g1, .step (by intro _ _ q; cases q) (SX.one (S1.asg hΓ ?_ (own_fn (.inl rfl)) (by intro _ _ q; cases q) rfl)) g2⟩
        have hq : (quoS (mkS (txt (sent rows j e)))).length ≤ 10200 := by
          rw [e1, mkS_length]
          have sm2 := small_sent (times := j + 1) hr (e := [13, 10]) (by decide)
          have e3 : dotted (ended (sent rows j e) [13, 10]) 1 = sent rows (j + 1) [13, 10] := by
            rw [← sent_succ (times := j)]
            unfold sent
            split <;> simp [ended, dotted]
          rw [e3]
          exact small_len sm2 (by omega)
        refine EV.cast (EV.replv hΓ (y := mkS [13, 10]) (z := mkS e) (t := t) (EV.call hΓ (EV1.glob hΓ gl83 rfl) (.fn fun h c => ⟨_, _, c.k _ _ (fd83.2 P), rfl⟩) (.cons (EV.name hΓ (by rw [up_ne _ _ (by decide)]; exact h1)) rfl .nil)
          (c_quo (k := k) (by rw [mkS_length]; omega) (by omega)) (Nat.le_refl _) (by omega) rfl) (by rw [up_ne _ _ (by decide)]; exact h2) ht (Nat.lt_succ_self _) ?_ (fun h c => booked c) rfl) (congrArg PV.str rr)
        rw [mkS_length]
        have := eol_len he
        have h5 : ((quoS (mkS (txt (sent rows j e)))).length + 1) * e.length ≤ 10201 * 2 := Nat.mul_le_mul (by omega) this
        omega
    obtain ⟨ρ', g1, g2⟩ := loop (rng 0 (times : Int).toNat) 0 (fun y => ([Str.ofString "page", Str.ofString "times", Str.ofString "end"].zip [PV.str (mkS (txt rows)), .int times, .val (.str (mkS e) t)]).lookup y) (by simp [rng]) rfl rfl
    refine SX.cons (S1.for_ hΓ (IT.range1 hΓ gb_range rfl (EV.name hΓ rfl) rfl (by omega) (by omega)) (own_fn (.inl rfl)) g2 fun _ => rfl) (SX.out (S1.ret (EV.name hΓ g1)) (by intro _ _ q; cases q))
end
end Mine
end -- F3
section -- F4
set_option maxRecDepth 100000
namespace Mine
section
variable {prog : Program} {w : World} {P : Params} {mg mb : Str → Option Value} {k : Nat}
noncomputable def iints (l : List Nat) : List PV := l.map fun (n : Nat) => .int (n : Int)
theorem rng0 (n : Nat) : rng 0 ((n : Int)).toNat = (List.range n).map fun (i : Nat) => .int (i : Int) := by
  unfold rng; simp
/-- the places whose bit is set -/
noncomputable def ones (len number : Nat) : List Nat := (List.range len).filter fun place => number / 2 ^ place % 2 == 1
/-- a row's dots -/
noncomputable def rowAt (first : Nat) (sts : List Nat) (number : Nat) : Nat := first + ((ones sts.length number).map fun p => sts.getD p 0).sum
noncomputable def rowsOf (first : Nat) (sts : List Nat) (odd : Nat) : List Nat := ((List.range (2 ^ sts.length)).filter fun number => (ones sts.length number).length % 2 == odd).map (rowAt first sts)

theorem c_rows {first : Nat} {sts : List Nat} {odd : Nat} (hl : sts.length ≤ 10) (hk : 5 ≤ k) :
    CS prog w (Cx P mg mb) (k + 1) (.ref 189) [.int first, .list (iints sts), .int odd] (.list (iints (rowsOf first sts odd))) :=
  CS.fn fo189 rfl hk rfl fun A hs s hΓ => by
    refine SX.cons (S1.asg_mu hΓ (EF.list hΓ .nil (by decide)) rfl rfl) ?_
    have loop : ∀ (l : List Nat) (ρ : Loc) (acc : List PV), acc.length + l.length ≤ 1024 → (∀ n ∈ l, n < 2 ^ 10) → ρ (Str.ofString "first") = some (.int first) → ρ (Str.ofString "steps") = some (.list (iints sts)) → ρ (Str.ofString "odd") = some (.int odd) →
        ∃ ρ', Loop (Fx.fn prog w A (Cx P mg mb) k fd189.1 189 hs s) (Str.ofString "number") (forBody fd189.1.body 1) ρ (some (Str.ofString "rows", acc)) (l.map fun (i : Nat) => .int (i : Int))
          (.next ρ' (some (Str.ofString "rows", acc ++ iints ((l.filter fun number => (ones sts.length number).length % 2 == odd).map (rowAt first sts))))) := fun l => by
      induction l with
      | nil => intro ρ acc _ _ h1 h2 h3; exact ⟨ρ, by simpa [iints] using Loop.done⟩
      | cons n l ih =>
        intro ρ acc hal hn h1 h2 h3
        rw [List.length_cons] at hal
        have hnn := hn n (List.mem_cons_self ..)
        have hsteps : (up (up ρ (Str.ofString "number") (.int n)) (Str.ofString "ones") (.list (iints (ones sts.length n)))) (Str.ofString "steps") = some (.list (iints sts)) := by
          rw [up_ne _ _ (by decide), up_ne _ _ (by decide)]; exact h2
        have hfirst : (up (up ρ (Str.ofString "number") (.int n)) (Str.ofString "ones") (.list (iints (ones sts.length n)))) (Str.ofString "first") = some (.int first) := by
          rw [up_ne _ _ (by decide), up_ne _ _ (by decide)]; exact h1
        have hodd : (up (up ρ (Str.ofString "number") (.int n)) (Str.ofString "ones") (.list (iints (ones sts.length n)))) (Str.ofString "odd") = some (.int odd) := by
          rw [up_ne _ _ (by decide), up_ne _ _ (by decide)]; exact h3
        obtain ⟨ρ', g⟩ := ih (up (up ρ (Str.ofString "number") (.int n)) (Str.ofString "ones") (.list (iints (ones sts.length n))))
          (if (ones sts.length n).length % 2 == odd then acc ++ [.int (rowAt first sts n)] else acc) (by split <;> (try simp only [List.length_append, List.length_cons, List.length_nil]) <;> omega) (fun m hm => hn m (List.mem_cons_of_mem _ hm)) hfirst hsteps hodd
        have eacc : (if ((ones sts.length n).length % 2 == odd) = true then acc ++ [PV.int (rowAt first sts n)] else acc) ++ iints ((l.filter fun number => (ones sts.length number).length % 2 == odd).map (rowAt first sts)) =
            acc ++ iints (((n :: l).filter fun number => (ones sts.length number).length % 2 == odd).map (rowAt first sts)) := by
          rw [List.filter_cons]
          split <;> simp [iints]
        rw [eacc] at g
        refine ⟨ρ', .step (mu_ne rfl) (SX.cons (S1.asgc hΓ (compok rfl rfl rfl ⟨rfl, rfl⟩ rfl ⟨⟨rfl, rfl, rfl, rfl⟩, trivial⟩)
          (IT.range1 (n := ((sts.length : Nat) : Int)) hΓ gb_range rfl (EV.cast (EV.call hΓ (EV1.glob hΓ gb_len rfl) .builtin (.cons (EV.name hΓ (by rw [up_ne _ _ (by decide)]; exact h2)) rfl .nil) (c_len_list (k := 5) (by simp [iints]; omega)) hΓ.room (Nat.le_refl _) rfl)
            (by simp [iints])) rfl (by omega) (by omega)) (rs := iints (ones sts.length n)) ?_ (fun _ => rfl) ?_ (own_fn (.inl rfl)) (mu_ne rfl) rfl) (SX.one ?_)) g⟩
        · rw [rng0]
          refine CL.mk (List.range sts.length) _ (fun place => n / 2 ^ place % 2 == 1) _ (fun place hp => .inr ⟨_, rfl, fun C bs s' hΓ' => ?_⟩) (fun place hp _ C bs s' hΓ' => EV.name hΓ' rfl)
          have hp' := List.mem_range.mp hp
          have hpow : 2 ^ place ≤ 2 ^ 10 := Nat.pow_le_pow_right (by decide) (by omega)
          have hpos : 0 < 2 ^ place := Nat.pow_pos (by decide)
          have e2 : (2 : Int) ^ ((place : Int)).toNat = ((2 ^ place : Nat) : Int) := by simp
          have e3 : (((n : Int).fdiv ((2 ^ place : Nat) : Int)).fmod 2 == 1) = (n / 2 ^ place % 2 == 1) := by
            rw [fdiv_nat, show (2 : Int) = ((2 : Nat) : Int) from rfl, fmod_nat]
            have : ∀ a : Nat, (((a : Nat) : Int) == 1) = (a == 1) := fun a => by
              by_cases h : a = 1
              · subst h; rfl
              · rw [beq_eq_false_iff_ne.mpr h, beq_eq_false_iff_ne.mpr (fun q => h (by omega))]
            exact this _
          refine ET.cast (ET.cmp hΓ' (EV.bin hΓ' (EV.bin hΓ' (EV.name hΓ' rfl) (EV.cast (EV.bin hΓ' EV.int (EV.name hΓ' rfl) (B2.pow_int (by omega) (by omega) (by decide))) (congrArg PV.int e2)) (B2.floordiv_int (fun q => by omega) (by
            rw [Int.natAbs_natCast]; omega))) EV.int (B2.mod_int (by decide))) EV.int C2.eq_int rfl) e3
        · simp [iints]
          have := List.length_filter_le (fun place => n / 2 ^ place % 2 == 1) (List.range sts.length)
          rw [List.length_range] at this
          unfold ones sizeLine
          omega
        · have hol : (ones sts.length n).length ≤ sts.length := by
            have := List.length_filter_le (fun place => n / 2 ^ place % 2 == 1) (List.range sts.length)
            rw [List.length_range] at this
            exact this
          have e4 : ((((ones sts.length n).length : Nat) : Int).fmod 2 == (odd : Int)) = ((ones sts.length n).length % 2 == odd) := by
            rw [show (2 : Int) = ((2 : Nat) : Int) from rfl, fmod_nat]
            generalize (ones sts.length n).length % 2 = m
            by_cases h : m = odd
            · subst h; simp
            · rw [beq_eq_false_iff_ne.mpr h, beq_eq_false_iff_ne.mpr (fun q => h (by omega))]
          refine S1.ifs (b := (ones sts.length n).length % 2 == odd) (ET.cast (ET.cmp hΓ (EV.bin hΓ (EV.cast (EV.call hΓ (EV1.glob hΓ gb_len rfl) .builtin (.cons (EV.name hΓ rfl) rfl .nil) (c_len_list (k := 5) (by simp [iints]; omega)) hΓ.room (Nat.le_refl _) rfl)
            (show PV.int _ = PV.int (((ones sts.length n).length : Nat) : Int) by simp [iints])) EV.int (B2.mod_int (by decide))) (EV.name hΓ hodd) C2.eq_int rfl) e4) (fun hb => ?_) (fun hb => ?_)
          · rw [hb, if_pos rfl]
            refine SX.one (S1.append hΓ (EV.cast (EV.bin hΓ (EV.name hΓ hfirst) (EV.call hΓ (EV1.glob hΓ gb_sum rfl) .builtin (.cons (EV.comp hΓ (compok rfl rfl rfl ⟨rfl, rfl⟩ rfl ⟨⟨rfl, rfl, rfl, rfl⟩, trivial⟩) (IT.list hΓ (EV.name hΓ rfl))
              (rs := ((ones sts.length n).map fun p => ((sts.getD p 0 : Nat) : Int)).map .int) ?_ (fun _ => rfl) ?_) rfl .nil) (c_sum (k := 5)) hΓ.room (Nat.le_refl _) rfl) B2.add_int) ?_) rfl ?_ rfl rfl rfl)
            · rw [List.map_map]
              refine CL.map (ones sts.length n) _ _ fun p hp C bs s' hΓ' => ?_
              have hp' : p < sts.length := List.mem_range.mp (List.mem_filter.mp hp).1
              refine EV.sub hΓ' (EV.name hΓ' (by rw [compρ_free (by decide) rfl]; exact hsteps)) (EV.name hΓ' rfl) (GI.list (by omega) (by omega) ?_) (fun _ _ => rfl)
              simp [iints, hp']
            · simp; unfold sizeLine; omega
            · have e5 : ∀ l : List Nat, (l.map fun p => ((sts.getD p 0 : Nat) : Int)).sum = (((l.map fun p => sts.getD p 0).sum : Nat) : Int) := fun l => by
                induction l with
                | nil => rfl
                | cons a l ih => rw [List.map_cons, List.map_cons, List.sum_cons, List.sum_cons, ih]; rfl
              unfold rowAt
              rw [e5]; rfl
            · unfold sizeLine; omega
          · rw [hb, if_neg (by decide)]
            exact SX.nil
    obtain ⟨ρ', g⟩ := loop (List.range (2 ^ sts.length)) (del (fun y => ([Str.ofString "first", Str.ofString "steps", Str.ofString "odd"].zip [PV.int first, .list (iints sts), .int odd]).lookup y) (Str.ofString "rows")) [] (by
      have := Nat.pow_le_pow_right (show 0 < 2 by decide) hl
      simp only [List.length_nil, List.length_range]; omega) (fun n hn => by
      have := List.mem_range.mp hn
      exact Nat.lt_of_lt_of_le this (Nat.pow_le_pow_right (by decide) hl)) rfl rfl rfl
    rw [List.nil_append] at g
    refine SX.cons (S1.for_ hΓ (ds := (List.range (2 ^ sts.length)).map fun (i : Nat) => .int (i : Int)) ?_ (own_fn (.inr rfl)) g fun _ => rfl) (SX.freeze (SX.out (S1.ret (EV.name hΓ (up_same _ _ _))) ret_ne))
    rw [← rng0]
    have h10 : 2 ^ sts.length ≤ 2 ^ 10 := Nat.pow_le_pow_right (by decide) hl
    have e : (2 : Int) ^ ((iints sts).length : Int).toNat = ((2 ^ sts.length : Nat) : Int) := by simp [iints]
    exact IT.range1 (n := ((2 ^ sts.length : Nat) : Int)) hΓ gb_range rfl (EV.frozen (EV.cast (EV.bin hΓ EV.int (EV.call hΓ (EV1.glob hΓ gb_len rfl) .builtin (.cons (EV.name hΓ rfl) rfl .nil) (c_len_list (k := 5) (by simp [iints]; omega)) hΓ.room (Nat.le_refl _) rfl)
      (B2.pow_int (by omega) (by simp [iints]; omega) (by decide))) (congrArg PV.int e)) rfl) rfl (Int.le_trans (by decide) (Int.natCast_nonneg _)) (Int.ofNat_lt.mpr (Nat.lt_of_le_of_lt h10 (by decide)))
end
end Mine
end -- F4
section -- F5
set_option maxRecDepth 100000
namespace Mine
section
variable {prog : Program} {w : World} {P : Params} {mg mb : Str → Option Value} {k : Nat}
noncomputable def powSum (rows : List (Nat × List Nat)) (power : Nat) : Int := (rows.map fun r => ((r.1 : Int) ^ power)).sum
theorem strKind_pos (x : Str) : 1 ≤ Builtin.Str.strKind x := by
  unfold Builtin.Str.strKind
  split
  · decide
  · split <;> decide
theorem c_power {rows : List (Nat × List Nat)} {power : Nat} (hr : ∀ r ∈ rows, r.2 = [13, 10]) (hs : ∀ r ∈ rows, r.1 ≤ 100) (hl : rows.length ≤ 100) (h1 : 1 ≤ rows.length) (hp : power ≤ 100) (hk : 6 ≤ k) :
    CS prog w (Cx P mg mb) (k + 1) (.ref 196) [.str (mkS (txt rows)), .int power] (.int (powSum rows power)) :=
  CS.fn fo196 rfl (by omega) rfl fun A hs' s hΓ => by
    obtain ⟨k, rfl⟩ : ∃ j, k = j + 1 := ⟨k - 1, by omega⟩
    have hlen : (mkS (txt rows)).length ≤ 10200 := by
      rw [mkS_length]
      have := txt_le (rows := rows) (a := 102) fun r h => by
        have := hs r h
        rw [hr r h]; simp; omega
      have := Nat.mul_le_mul_right 102 hl
      omega
    have hlen2 : 2 ≤ (mkS (txt rows)).length := by
      rw [mkS_length]
      match rows, h1 with
      | r :: rs, _ => rw [txt_cons, hr r (List.mem_cons_self ..)]; simp; omega
    obtain ⟨hc1, hc2⟩ := cuts_rows rows hr
    have loop : ∀ (l : List (Nat × List Nat)) (ρ : Loc) (tot : Int), (∀ r ∈ l, r.1 ≤ 100) → ρ (Str.ofString "total") = some (.int tot) → ρ (Str.ofString "power") = some (.int power) →
        ∃ ρ', ρ' (Str.ofString "total") = some (.int (tot + powSum l power)) ∧ Loop (Fx.fn prog w A (Cx P mg mb) (k + 1) fd196.1 196 hs' s) (Str.ofString "row") (forBody fd196.1.body 1) ρ none (l.map fun r => .str (mkS (List.replicate r.1 46))) (.next ρ' none) := fun l => by
      induction l with
      | nil => intro ρ tot _ g1 g2; exact ⟨ρ, by simpa [powSum] using g1, .done⟩
      | cons r l ih =>
        intro ρ tot hl g1 g2
        have h100 := hl r (List.mem_cons_self ..)
        obtain ⟨ρ', q1, q2⟩ := ih (up (up ρ (Str.ofString "row") (.str (mkS (List.replicate r.1 46)))) (Str.ofString "total") (.int (tot + (r.1 : Int) ^ power))) (tot + (r.1 : Int) ^ power)
          (fun q hq => hl q (List.mem_cons_of_mem _ hq)) (up_same _ _ _) (by rw [up_ne _ _ (by decide), up_ne _ _ (by decide)]; exact g2)
        refine ⟨ρ', by rw [q1]; simp [powSum, Int.add_assoc], .step no_mu (SX.one (S1.asg hΓ (EV.call hΓ (EV1.glob hΓ gl38 rfl) (.fn fun h c => ⟨_, _, c.k _ _ (fd38.2 P), rfl⟩) (.cons (EV.name hΓ (by rw [up_ne _ _ (by decide)]; exact g1)) rfl (.cons
          (EV.call hΓ (EV1.glob hΓ gl59 rfl) (.fn fun h c => ⟨_, _, c.k _ _ (fd59.2 P), rfl⟩) (.cons (EV.cast (EV.call hΓ (EV1.glob hΓ gb_len rfl) .builtin (.cons (EV.name hΓ (up_same _ _ _)) rfl .nil) (c_len_str (k := 5) (by rw [mkS_length, List.length_replicate]; omega)) hΓ.room (Nat.le_refl _) rfl)
              (show PV.int _ = PV.int (r.1 : Int) by rw [mkS_length, List.length_replicate])) rfl (.cons (EV.name hΓ (by rw [up_ne _ _ (by decide)]; exact g2)) rfl .nil)) (c_ipow (k := k) (I2.pow_int (by omega) (by omega) (by omega)) (by omega)) (Nat.le_refl _) (by omega) rfl) rfl .nil))
          (c_add (k := k) (d := .int (tot + (r.1 : Int) ^ power)) (by rw [Int.toNat_natCast]; exact B2.add_int) (by omega)) (Nat.le_refl _) (by omega) rfl) (own_fn (.inl rfl)) no_mu rfl)) q2⟩
    obtain ⟨ρ', g1, g2⟩ := loop rows (up (fun y => ([Str.ofString "page", Str.ofString "power"].zip [PV.str (mkS (txt rows)), .int power]).lookup y) (Str.ofString "total") (.int 0)) 0 hs rfl rfl
    rw [Int.zero_add] at g1
    refine SX.cons (S1.asg hΓ EV.int (own_fn (.inl rfl)) no_mu rfl) (SX.cons (S1.for_ hΓ (IT.list hΓ (EV.slice hΓ (EV.meth hΓ (EV.name hΓ rfl) (GM.str PySem.F.slot_str_split PySem.F.type_str_split) .builtin (.cons EV.str rfl .nil)
      (c_split (k := 5) (x := mkS (txt rows)) (y := mkS [13, 10]) rfl ?_ ?_ (by unfold sizeLine; omega) ?_) hΓ.room (Nat.le_refl _) rfl) .no (.yes (EV.neg hΓ EV.int)) .no (by decide) (fun G items hq => pick_init items hq) ?_ (fun _ _ => rfl))) (own_fn (.inl rfl)) ?_ fun _ => rfl) (SX.out (S1.ret (EV.name hΓ g1)) ret_ne))
    · have e1 : (mkS [13, 10]).length = 2 := rfl
      have e2 : Builtin.Str.strKind (mkS [13, 10]) = 1 := by decide +kernel
      rw [e1, e2, decide_eq_false (by omega), decide_eq_false (by have := strKind_pos (mkS (txt rows)); omega)]
      rfl
    · rw [List.isEmpty_eq_false_iff]
      intro q
      rw [q] at hc2
      simp at hc2
      omega
    · rw [show (mkS [13, 10]).length = 2 from rfl, hc1]; simp; unfold sizeLine; omega
    · rw [show (mkS [13, 10]).length = 2 from rfl, hc1]; simp; unfold sizeLine; omega
    · have e : (List.map PV.str (Builtin.Str.partsBetween (mkS (txt rows)) (Builtin.Str.occurrences (mkS (txt rows)) (mkS [13, 10]) 0 (mkS (txt rows)).length ((mkS (txt rows)).length + 1)) (mkS [13, 10]).length)).take
          ((List.map PV.str (Builtin.Str.partsBetween (mkS (txt rows)) (Builtin.Str.occurrences (mkS (txt rows)) (mkS [13, 10]) 0 (mkS (txt rows)).length ((mkS (txt rows)).length + 1)) (mkS [13, 10]).length)).length - 1) =
          rows.map fun r => .str (mkS (List.replicate r.1 46)) := by
        rw [show (mkS [13, 10]).length = 2 from rfl, hc1]
        simp
      rw [e]
      exact g2
end
end Mine
end -- F5
section -- F6
set_option maxRecDepth 100000
namespace Mine
section
variable {prog : Program} {w : World} {P : Params} {mg mb : Str → Option Value} {k : Nat}
noncomputable def twice (first : Nat) (sts : List Nat) (power : Nat) : Int :=
  if power < sts.length then 0 else
  let t1 := sts.foldl (fun (t : Int) (s : Nat) => -t * (s : Int)) 2
  let t2 := (List.range (power + 1 - 2)).foldl (fun (t : Int) (i : Nat) => t * (2 + (i : Int))) t1
  if power > sts.length then (t2 * (2 * first + ((sts.map fun (n : Nat) => (n : Int)).sum))).fdiv 2 else t2
theorem bits_small {b : Int} (h : b.natAbs < 2 ^ 40) : Builtin.Int.intBits b ≤ 64 := by
  unfold Builtin.Int.intBits
  split
  · decide
  · rename_i h0
    have h0' : b.natAbs ≠ 0 := fun q => h0 (by simp at q ⊢; exact q)
    have := (Nat.log2_lt h0').mpr h
    omega
theorem iints_int (l : List Nat) : iints l = (l.map fun (n : Nat) => (n : Int)).map .int := by simp [iints]
theorem c_twice {first : Nat} {sts : List Nat} {power : Nat} (hl : sts.length ≤ 10) (hp : power ≤ 100) (hst : ∀ n ∈ sts, n ≤ 100) (hf : first ≤ 100) (hk : 5 ≤ k) :
    CS prog w (Cx P mg mb) (k + 1) (.ref 203) [.int first, .list (iints sts), .int power] (.int (twice first sts power)) :=
  CS.fn fo203 rfl hk rfl fun A hs s hΓ => by
    have hlen : ∀ (ρ : Loc) {p q r : Pos}, ρ (Str.ofString "steps") = some (.list (iints sts)) → EV (Fx.fn prog w A (Cx P mg mb) k fd203.1 203 hs s) ρ none (.Call (.Name (Str.ofString "len") p) [.Name (Str.ofString "steps") q] [] r) (.int sts.length) := fun ρ _ _ _ h1 =>
      EV.cast (EV.call hΓ (EV1.glob hΓ gb_len rfl) .builtin (.cons (EV.name hΓ h1) rfl .nil) (c_len_list (k := 5) (by simp [iints]; omega)) hΓ.room (Nat.le_refl _) rfl) (by simp [iints])
    by_cases hlt : power < sts.length
    · refine SX.out (S1.ifs (b := true) (ET.cast (ET.cmp hΓ (EV.name hΓ rfl) (hlen _ rfl) C2.lt_int rfl) (decide_eq_true (by omega))) (fun _ => SX.out (S1.ret (EV.cast EV.int (by unfold twice; rw [if_pos hlt]))) ret_ne) (by intro q; cases q)) ret_ne
    · refine SX.cons (S1.ifs (b := false) (ET.cast (ET.cmp hΓ (EV.name hΓ rfl) (hlen _ rfl) C2.lt_int rfl) (decide_eq_false (by omega))) (by intro q; cases q) fun _ => SX.nil) ?_
      refine SX.cons (S1.asg hΓ EV.int (own_fn (.inl rfl)) no_mu rfl) ?_
      have loop1 : ∀ (l : List Nat) (ρ : Loc) (told : Int), (∀ n ∈ l, n ≤ 100) → ρ (Str.ofString "told") = some (.int told) → ∃ ρ', ρ' (Str.ofString "told") = some (.int (l.foldl (fun (t : Int) (s : Nat) => -t * (s : Int)) told)) ∧ ρ' (Str.ofString "first") = ρ (Str.ofString "first") ∧ ρ' (Str.ofString "steps") = ρ (Str.ofString "steps") ∧ ρ' (Str.ofString "power") = ρ (Str.ofString "power") ∧
          Loop (Fx.fn prog w A (Cx P mg mb) k fd203.1 203 hs s) (Str.ofString "step") (forBody fd203.1.body 2) ρ none (iints l) (.next ρ' none) := fun l => by
        induction l with
        | nil => intro ρ told _ g; exact ⟨ρ, g, rfl, rfl, rfl, .done⟩
        | cons n l ih =>
          intro ρ told hn g
          have h100 := hn n (List.mem_cons_self ..)
          obtain ⟨ρ', q1, q2, q3, q4, q5⟩ := ih (up (up ρ (Str.ofString "step") (.int n)) (Str.ofString "told") (.int (-told * n))) (-told * n) (fun m hm => hn m (List.mem_cons_of_mem _ hm)) (up_same _ _ _)
          refine ⟨ρ', q1, q2.trans ?_, q3.trans ?_, q4.trans ?_, .step no_mu (SX.one (S1.asg hΓ (EV.bin hΓ (EV.neg hΓ (EV.name hΓ (by rw [up_ne _ _ (by decide)]; exact g))) (EV.name hΓ (up_same _ _ _)) (B2.mul_int (IntMulOk.of_right (bits_small (by omega))))) (own_fn (.inl rfl)) no_mu rfl)) q5⟩
          all_goals rw [up_ne _ _ (by decide), up_ne _ _ (by decide)]
      have loop2 : ∀ (l : List Nat) (ρ : Loc) (told : Int), (∀ n ∈ l, n ≤ 100) → ρ (Str.ofString "told") = some (.int told) → ∃ ρ', ρ' (Str.ofString "told") = some (.int (l.foldl (fun (t : Int) (i : Nat) => t * (2 + (i : Int))) told)) ∧ ρ' (Str.ofString "first") = ρ (Str.ofString "first") ∧ ρ' (Str.ofString "steps") = ρ (Str.ofString "steps") ∧ ρ' (Str.ofString "power") = ρ (Str.ofString "power") ∧
          Loop (Fx.fn prog w A (Cx P mg mb) k fd203.1 203 hs s) (Str.ofString "factor") (forBody fd203.1.body 3) ρ none (l.map fun (i : Nat) => .int (2 + (i : Int))) (.next ρ' none) := fun l => by
        induction l with
        | nil => intro ρ told _ g; exact ⟨ρ, g, rfl, rfl, rfl, .done⟩
        | cons n l ih =>
          intro ρ told hn g
          have h100 := hn n (List.mem_cons_self ..)
          obtain ⟨ρ', q1, q2, q3, q4, q5⟩ := ih (up (up ρ (Str.ofString "factor") (.int (2 + (n : Int)))) (Str.ofString "told") (.int (told * (2 + (n : Int))))) (told * (2 + (n : Int))) (fun m hm => hn m (List.mem_cons_of_mem _ hm)) (up_same _ _ _)
          refine ⟨ρ', q1, q2.trans ?_, q3.trans ?_, q4.trans ?_, .step no_mu (SX.one (S1.asg hΓ (EV.bin hΓ (EV.name hΓ (by rw [up_ne _ _ (by decide)]; exact g)) (EV.name hΓ (up_same _ _ _)) (B2.mul_int (IntMulOk.of_right (bits_small (by omega))))) (own_fn (.inl rfl)) no_mu rfl)) q5⟩
          all_goals rw [up_ne _ _ (by decide), up_ne _ _ (by decide)]
      obtain ⟨ρ1, a1, a2, a3, a4, a5⟩ := loop1 sts (up (fun y => ([Str.ofString "first", Str.ofString "steps", Str.ofString "power"].zip [PV.int first, .list (iints sts), .int power]).lookup y) (Str.ofString "told") (.int 2)) 2 hst rfl
      refine SX.cons (S1.for_ hΓ (IT.list hΓ (EV.name hΓ rfl)) (own_fn (.inl rfl)) a5 fun _ => rfl) ?_
      obtain ⟨ρ2, b1, b2, b3, b4, b5⟩ := loop2 (List.range (power + 1 - 2)) ρ1 _ (fun n hn => by have := List.mem_range.mp hn; omega) a1
      have f1 : ρ2 (Str.ofString "first") = some (.int first) := b2.trans a2
      have f2 : ρ2 (Str.ofString "steps") = some (.list (iints sts)) := b3.trans a3
      have f3 : ρ2 (Str.ofString "power") = some (.int power) := b4.trans a4
      refine SX.cons (S1.for_ hΓ (ds := (List.range (power + 1 - 2)).map fun (i : Nat) => .int (2 + (i : Int))) ?_ (own_fn (.inl rfl)) b5 fun _ => rfl) ?_
      · have e : (((power : Int) + 1) - 2).toNat = power + 1 - 2 := by omega
        exact IT.cast (IT.range2 (m := 2) (n := (power : Int) + 1) hΓ gb_range rfl EV.int rfl (EV.bin hΓ (EV.name hΓ a4) EV.int B2.add_int) rfl (by omega) (by omega) (by omega) (by omega)) (by unfold rng; rw [e])
      · by_cases hgt : power > sts.length
        · refine SX.cons (S1.ifs (b := true) (ET.cast (ET.cmp hΓ (EV.name hΓ f3) (hlen _ f2) C2.gt_int rfl) (decide_eq_true (by omega))) (fun _ => SX.one (S1.asg hΓ (EV.bin hΓ (EV.bin hΓ (EV.name hΓ b1) (EV.bin hΓ (EV.bin hΓ EV.int (EV.name hΓ f1) (B2.mul_int (IntMulOk.of_right (bits_small (by omega)))))
            (EV.call hΓ (EV1.glob hΓ gb_sum rfl) .builtin (.cons (EV.name hΓ (f2.trans (by rw [iints_int]))) rfl .nil) (c_sum (k := 5)) hΓ.room (Nat.le_refl _) rfl) B2.add_int) (B2.mul_int (IntMulOk.of_right (bits_small ?_)))) EV.int (B2.floordiv_int (by decide) (by decide))) (own_fn (.inl rfl)) no_mu rfl)) (by intro q; cases q)) (SX.out (S1.ret (EV.cast (EV.name hΓ (up_same _ _ _)) ?_)) ret_ne)
          · have hsum : ∀ l : List Nat, (∀ n ∈ l, n ≤ 100) → l.length ≤ 10 → 0 ≤ (l.map fun (n : Nat) => (n : Int)).sum ∧ (l.map fun (n : Nat) => (n : Int)).sum ≤ 100 * (l.length : Int) := fun l => by
              induction l with
              | nil => intro _ _; simp
              | cons n l ih =>
                intro h1 h2
                have := ih (fun m hm => h1 m (List.mem_cons_of_mem _ hm)) (by rw [List.length_cons] at h2; omega)
                have := h1 n (List.mem_cons_self ..)
                rw [List.map_cons, List.sum_cons, List.length_cons]
                omega
            have := hsum sts hst hl
            omega
          · unfold twice
            rw [if_neg hlt]
            dsimp only
            rw [if_pos hgt]
        · refine SX.cons (S1.ifs (b := false) (ET.cast (ET.cmp hΓ (EV.name hΓ f3) (hlen _ f2) C2.gt_int rfl) (decide_eq_false (by omega))) (by intro q; cases q) fun _ => SX.nil) (SX.out (S1.ret (EV.cast (EV.name hΓ b1) ?_)) ret_ne)
          unfold twice
          rw [if_neg hlt]
          dsimp only
          rw [if_neg hgt]
end
end Mine
end -- F6
section -- F7
set_option maxRecDepth 100000
namespace Mine
noncomputable def zints (l : List Int) : List PV := l.map .int
noncomputable def dif (a : List Int) (s : Nat) : List Int := (List.range (a.length - s)).map fun i => a.getD i 0 - a.getD (i + s) 0
noncomputable def tot (a : List Int) (s : Nat) : List Int := (List.range (a.length - s)).map fun i => a.getD i 0 + a.getD (i + s) 0
noncomputable def col0 (first : Nat) (sts : List Nat) (size : Nat) : List Int := (List.range (sts.sum + 1)).map fun i => (((first + i) / size : Nat) : Int)
noncomputable def columns (first : Nat) (sts : List Nat) (size : Nat) : Int × Int :=
  let apart := (sts.foldl dif (col0 first sts size)).getD 0 0
  let total := (sts.foldl tot (col0 first sts size)).getD 0 0 + (2 : Int) ^ sts.length
  (((size : Int) * (total + apart)).fdiv 2, ((size : Int) * (total - apart)).fdiv 2)
theorem dif_length (a : List Int) (s : Nat) : (dif a s).length = a.length - s := by simp [dif]
theorem tot_length (a : List Int) (s : Nat) : (tot a s).length = a.length - s := by simp [tot]
section
variable {prog : Program} {w : World} {P : Params} {mg mb : Str → Option Value} {k : Nat}
theorem sum_int (l : List Nat) : (l.map fun (n : Nat) => (n : Int)).sum = ((l.sum : Nat) : Int) := by
  induction l with
  | nil => rfl
  | cons n l ih => rw [List.map_cons, List.sum_cons, List.sum_cons, ih]; rfl
theorem sum_le (l : List Nat) (h : ∀ n ∈ l, n ≤ 100) : l.sum ≤ 100 * l.length := by
  induction l with
  | nil => simp
  | cons n l ih =>
    have := ih fun m hm => h m (List.mem_cons_of_mem _ hm)
    have := h n (List.mem_cons_self ..)
    rw [List.sum_cons, List.length_cons]; omega
theorem fold_pos (f : List Int → Nat → List Int) (hf : ∀ a s, (f a s).length = a.length - s) : ∀ (l : List Nat) (a : List Int), l.sum < a.length → 0 < (l.foldl f a).length
  | [], a, h => by simpa using h
  | n :: l, a, h => by
    rw [List.sum_cons] at h
    exact fold_pos f hf l (f a n) (by rw [hf]; omega)
theorem c_columns {first : Nat} {sts : List Nat} {size : Nat} (hl : sts.length ≤ 10) (hst : ∀ n ∈ sts, n ≤ 100) (hf : first ≤ 100) (h0 : 1 ≤ size) (hz : size ≤ 10000) (hk : 5 ≤ k) :
    CS prog w (Cx P mg mb) (k + 1) (.ref 208) [.int first, .list (iints sts), .int size] (.list [.int (columns first sts size).1, .int (columns first sts size).2]) :=
  CS.fn fo208 rfl hk rfl fun A hs s hΓ => by
    have hsum := sum_le sts hst
    have itr : ∀ (ρ : Loc) {p1 p2 p3 p4 p5 p6 p7 p8 p9 p10 : Pos} {kk : Nat}, ρ (Str.ofString "first") = some (.int first) → ρ (Str.ofString "steps") = some (.list (iints sts)) →
        IT (Fx.fn prog w A (Cx P mg mb) k fd208.1 208 hs s) ρ none (.Call (.Name (Str.ofString "range") p1) [.Name (Str.ofString "first") p2, .BinOp (.BinOp (.Name (Str.ofString "first") p3) .Add (.Call (.Name (Str.ofString "sum") p4) [.Name (Str.ofString "steps") p5] [] p6) p7) .Add (.Constant (.int 1) kk p8) p9] [] p10)
          ((List.range (sts.sum + 1)).map fun (i : Nat) => .int ((first : Int) + i)) := fun ρ _ _ _ _ _ _ _ _ _ _ _ h1 h2 => by
      have e : ((first : Int) + ((sts.sum : Nat) : Int) + 1 - (first : Int)).toNat = sts.sum + 1 := by omega
      exact IT.cast (IT.range2 (m := (first : Int)) (n := (first : Int) + ((sts.sum : Nat) : Int) + 1) hΓ gb_range rfl (EV.name hΓ h1) rfl (EV.bin hΓ (EV.bin hΓ (EV.name hΓ h1) (EV.cast (EV.call hΓ (EV1.glob hΓ gb_sum rfl) .builtin (.cons (EV.name hΓ (h2.trans (by rw [iints_int]))) rfl .nil) (c_sum (k := 5)) hΓ.room (Nat.le_refl _) rfl)
        (congrArg PV.int (sum_int sts))) B2.add_int) EV.int B2.add_int) rfl (by omega) (by omega) (by omega) (by omega)) (by unfold rng; rw [e])
    have hcol : (zints (col0 first sts size)) = (List.range (sts.sum + 1)).map fun i => PV.int ((((first + i) / size : Nat)) : Int) := by simp [zints, col0]
    have elt : ∀ i : Nat, ((first : Int) + (i : Int)).fdiv (size : Int) = (((first + i) / size : Nat) : Int) := fun i => by
      rw [← fdiv_nat]; congr 1
    refine SX.cons (S1.asg hΓ (EV.comp hΓ (compok rfl rfl rfl ⟨rfl, rfl⟩ rfl ⟨⟨rfl, rfl, rfl, rfl⟩, trivial⟩) (itr _ rfl rfl) (rs := zints (col0 first sts size)) (by
        rw [hcol]
        exact CL.map (List.range (sts.sum + 1)) _ _ fun i hi C bs s' hΓ' => EV.cast (EV.bin hΓ' (EV.name hΓ' rfl) (EV.name hΓ' rfl) (B2.floordiv_int (by omega) (by rw [Int.natAbs_natCast]; omega))) (congrArg PV.int (elt i))) (fun _ => rfl) (by rw [hcol]; simp; unfold sizeLine; omega)) (own_fn (.inr rfl)) no_mu rfl) ?_
    refine SX.cons (S1.asg hΓ (EV.comp hΓ (compok rfl rfl rfl ⟨rfl, rfl⟩ rfl ⟨⟨rfl, rfl, rfl, rfl⟩, trivial⟩) (itr _ rfl rfl) (rs := zints (col0 first sts size)) (by
        rw [hcol]
        exact CL.map (List.range (sts.sum + 1)) _ _ fun i hi C bs s' hΓ' => EV.cast (EV.bin hΓ' (EV.name hΓ' rfl) (EV.name hΓ' rfl) (B2.floordiv_int (by omega) (by rw [Int.natAbs_natCast]; omega))) (congrArg PV.int (elt i))) (fun _ => rfl) (by rw [hcol]; simp; unfold sizeLine; omega)) (own_fn (.inr rfl)) no_mu rfl) ?_
    have loop : ∀ (l : List Nat) (ρ : Loc) (a b : List Int), a.length = b.length → a.length ≤ 2000 → l.sum < a.length → ρ (Str.ofString "apart") = some (.list (zints a)) → ρ (Str.ofString "both") = some (.list (zints b)) →
        ∃ ρ', ρ' (Str.ofString "apart") = some (.list (zints (l.foldl dif a))) ∧ ρ' (Str.ofString "both") = some (.list (zints (l.foldl tot b))) ∧ ρ' (Str.ofString "first") = ρ (Str.ofString "first") ∧ ρ' (Str.ofString "steps") = ρ (Str.ofString "steps") ∧ ρ' (Str.ofString "size") = ρ (Str.ofString "size") ∧
        Loop (Fx.fn prog w A (Cx P mg mb) k fd208.1 208 hs s) (Str.ofString "step") (forBody fd208.1.body 2) ρ none (iints l) (.next ρ' none) := fun l => by
      induction l with
      | nil => intro ρ a b _ _ _ g1 g2; exact ⟨ρ, g1, g2, rfl, rfl, rfl, .done⟩
      | cons n l ih =>
        intro ρ a b hab ha hn g1 g2
        rw [List.sum_cons] at hn
        have hr : ∀ (ρ : Loc) (y : Str) (c : List Int) {p1 p2 p3 p4 p5 p6 p7 : Pos}, c.length = a.length → ρ y = some (.list (zints c)) → ρ (Str.ofString "step") = some (.int n) →
            IT (Fx.fn prog w A (Cx P mg mb) k fd208.1 208 hs s) ρ none (.Call (.Name (Str.ofString "range") p1) [.BinOp (.Call (.Name (Str.ofString "len") p2) [.Name y p3] [] p4) .Sub (.Name (Str.ofString "step") p5) p6] [] p7) ((List.range (c.length - n)).map fun (i : Nat) => .int (i : Int)) := fun ρ y c _ _ _ _ _ _ _ hc h1 h2 => by
          have e : ((c.length : Int) - (n : Int)).toNat = c.length - n := by omega
          refine IT.cast (IT.range1 (n := (c.length : Int) - (n : Int)) hΓ gb_range rfl (EV.bin hΓ (EV.cast (EV.call hΓ (EV1.glob hΓ gb_len rfl) .builtin (.cons (EV.name hΓ h1) rfl .nil) (c_len_list (k := 5) (by simp [zints]; omega)) hΓ.room (Nat.le_refl _) rfl)
            (show PV.int _ = PV.int (c.length : Int) by simp [zints])) (EV.name hΓ h2) B2.sub_int) rfl (by omega) (by omega)) ?_
          rw [e]; unfold rng; simp
        have hg : ∀ (c : List Int) (i : Nat), i < c.length → (zints c)[((i : Int)).toNat]? = some (.int (c.getD i 0)) := fun c i hi => by simp [zints, hi]
        have hg2 : ∀ (c : List Int) (i : Nat), i + n < c.length → (zints c)[((i : Int) + (n : Int)).toNat]? = some (.int (c.getD (i + n) 0)) := fun c i hi => by
          have e : ((i : Int) + (n : Int)).toNat = i + n := by omega
          rw [e]; simp [zints, hi]
        obtain ⟨ρ', q1, q2, q3, q4, q5, q6⟩ := ih (up (up (up ρ (Str.ofString "step") (.int n)) (Str.ofString "apart") (.list (zints (dif a n)))) (Str.ofString "both") (.list (zints (tot b n)))) (dif a n) (tot b n)
          (by rw [dif_length, tot_length, hab]) (by rw [dif_length]; omega) (by rw [dif_length]; omega) rfl rfl
        have hb1 : (up (up ρ (Str.ofString "step") (.int n)) (Str.ofString "apart") (.list (zints (dif a n)))) (Str.ofString "both") = some (.list (zints b)) := by
          rw [up_ne _ _ (by decide), up_ne _ _ (by decide)]; exact g2
        have ha1 : (up ρ (Str.ofString "step") (.int n)) (Str.ofString "apart") = some (.list (zints a)) := by
          rw [up_ne _ _ (by decide)]; exact g1
        refine ⟨ρ', q1, q2, q3.trans ?_, q4.trans ?_, q5.trans ?_, .step no_mu (SX.cons (S1.asg hΓ (EV.comp hΓ (compok rfl rfl rfl ⟨rfl, rfl⟩ rfl ⟨⟨rfl, rfl, rfl, rfl⟩, ⟨rfl, rfl, rfl, rfl⟩, trivial⟩) (hr _ _ a rfl ha1 rfl) (rs := zints (dif a n)) ?_ (fun _ => rfl) ?_) (own_fn (.inr rfl)) no_mu rfl)
          (SX.one (S1.asg hΓ (EV.comp hΓ (compok rfl rfl rfl ⟨rfl, rfl⟩ rfl ⟨⟨rfl, rfl, rfl, rfl⟩, ⟨rfl, rfl, rfl, rfl⟩, trivial⟩) (hr _ _ b hab.symm hb1 rfl) (rs := zints (tot b n)) ?_ (fun _ => rfl) ?_) (own_fn (.inr rfl)) no_mu rfl))) q6⟩
        · rw [up_ne _ _ (by decide), up_ne _ _ (by decide), up_ne _ _ (by decide)]
        · rw [up_ne _ _ (by decide), up_ne _ _ (by decide), up_ne _ _ (by decide)]
        · rw [up_ne _ _ (by decide), up_ne _ _ (by decide), up_ne _ _ (by decide)]
        · rw [show zints (dif a n) = (List.range (a.length - n)).map fun i => PV.int (a.getD i 0 - a.getD (i + n) 0) by simp [zints, dif]]
          refine CL.map (List.range (a.length - n)) _ _ fun i hi C bs s' hΓ' => ?_
          have hi' := List.mem_range.mp hi
          exact EV.bin hΓ' (EV.sub hΓ' (EV.name hΓ' (by rw [compρ_free (by decide) rfl]; exact ha1)) (EV.name hΓ' rfl) (GI.list (by omega) (by omega) (hg a i (by omega))) (fun _ _ => rfl))
            (EV.sub hΓ' (EV.name hΓ' (by rw [compρ_free (by decide) rfl]; exact ha1)) (EV.bin hΓ' (EV.name hΓ' rfl) (EV.name hΓ' rfl) B2.add_int) (GI.list (by omega) (by omega) (hg2 a i (by omega))) (fun _ _ => rfl)) B2.sub_int
        · simp [zints, dif_length]; unfold sizeLine; omega
        · rw [show zints (tot b n) = (List.range (b.length - n)).map fun i => PV.int (b.getD i 0 + b.getD (i + n) 0) by simp [zints, tot]]
          refine CL.map (List.range (b.length - n)) _ _ fun i hi C bs s' hΓ' => ?_
          have hi' := List.mem_range.mp hi
          exact EV.bin hΓ' (EV.sub hΓ' (EV.name hΓ' (by rw [compρ_free (by decide) rfl]; exact hb1)) (EV.name hΓ' rfl) (GI.list (by omega) (by omega) (hg b i (by omega))) (fun _ _ => rfl))
            (EV.sub hΓ' (EV.name hΓ' (by rw [compρ_free (by decide) rfl]; exact hb1)) (EV.bin hΓ' (EV.name hΓ' rfl) (EV.name hΓ' rfl) B2.add_int) (GI.list (by omega) (by omega) (hg2 b i (by omega))) (fun _ _ => rfl)) B2.add_int
        · simp [zints, tot_length]; unfold sizeLine; omega
    obtain ⟨ρ1, g1, g2, g3, g4, g5, g6⟩ := loop sts (up (up (fun y => ([Str.ofString "first", Str.ofString "steps", Str.ofString "size"].zip [PV.int first, .list (iints sts), .int size]).lookup y) (Str.ofString "apart") (.list (zints (col0 first sts size)))) (Str.ofString "both") (.list (zints (col0 first sts size))))
      (col0 first sts size) (col0 first sts size) rfl (by simp [col0]; omega) (by simp [col0]) rfl rfl
    refine SX.cons (S1.for_ hΓ (IT.list hΓ (EV.name hΓ rfl)) (own_fn (.inr rfl)) g6 fun _ => rfl) ?_
    have pos1 := fold_pos dif dif_length sts (col0 first sts size) (by simp [col0])
    have pos2 := fold_pos tot tot_length sts (col0 first sts size) (by simp [col0])
    have hg : ∀ (c : List Int), 0 < c.length → (zints c)[((0 : Int)).toNat]? = some (.int (c.getD 0 0)) := fun c hi => by simp [zints, hi]
    have f1 : ρ1 (Str.ofString "steps") = some (.list (iints sts)) := g4
    have f2 : ρ1 (Str.ofString "size") = some (.int size) := g5
    have e2 : (2 : Int) ^ (((iints sts).length : Nat) : Int).toNat = (2 : Int) ^ sts.length := by simp [iints]
    refine SX.cons (S1.asg hΓ (EV.bin hΓ (EV.sub hΓ (EV.name hΓ g2) EV.int (GI.list (by decide) (by decide) (hg _ pos2)) (fun _ _ => rfl)) (EV.cast (EV.bin hΓ EV.int (EV.call hΓ (EV1.glob hΓ gb_len rfl) .builtin (.cons (EV.name hΓ f1) rfl .nil) (c_len_list (k := 5) (by simp [iints]; omega)) hΓ.room (Nat.le_refl _) rfl)
      (B2.pow_int (by omega) (by simp [iints]; omega) (by decide))) (congrArg PV.int e2)) B2.add_int) (own_fn (.inl rfl)) no_mu rfl) ?_
    refine SX.out (S1.ret (EV.list hΓ (.cons (EV.bin hΓ (EV.bin hΓ (EV.name hΓ (by rw [up_ne _ _ (by decide)]; exact f2)) (EV.bin hΓ (EV.name hΓ (up_same _ _ _)) (EV.sub hΓ (EV.name hΓ (by rw [up_ne _ _ (by decide)]; exact g1)) EV.int (GI.list (by decide) (by decide) (hg _ pos1)) (fun _ _ => rfl)) B2.add_int) (B2.mul_int (IntMulOk.of_left (bits_small (by omega))))) EV.int (B2.floordiv_int (by decide) (by decide))) rfl
      (.cons (EV.bin hΓ (EV.bin hΓ (EV.name hΓ (by rw [up_ne _ _ (by decide)]; exact f2)) (EV.bin hΓ (EV.name hΓ (up_same _ _ _)) (EV.sub hΓ (EV.name hΓ (by rw [up_ne _ _ (by decide)]; exact g1)) EV.int (GI.list (by decide) (by decide) (hg _ pos1)) (fun _ _ => rfl)) B2.sub_int) (B2.mul_int (IntMulOk.of_left (bits_small (by omega))))) EV.int (B2.floordiv_int (by decide) (by decide))) rfl .nil)) (by unfold sizeLine; simp))) ret_ne
end
end Mine
end -- F7
section -- F8
set_option maxRecDepth 100000
namespace Mine
noncomputable def heap1 (ns : List Int) (h : List Int) (i : Nat) : List Int := h.set (i % 5) (h.getD (i % 5) 0 + (ns.getD i 0).fmod 1000000)
noncomputable def heapsOf (ns : List Int) : List Int := (List.range (min ns.length 20)).foldl (heap1 ns) [5, 3, 0, 4, 2]
noncomputable def HeapOk (h : List Int) (b : Int) : Prop := h.length = 5 ∧ ∀ x ∈ h, 0 ≤ x ∧ x ≤ b
theorem heap1_ok {ns h i b} (H : HeapOk h b) : HeapOk (heap1 ns h i) (b + 1000000) := by
  obtain ⟨h1, h2⟩ := H
  refine ⟨by simp [heap1, h1], fun x hx => ?_⟩
  have h3 : 0 ≤ (ns.getD i 0).fmod 1000000 := Int.fmod_nonneg_of_pos _ (by decide)
  have h4 : (ns.getD i 0).fmod 1000000 < 1000000 := Int.fmod_lt_of_pos _ (by decide)
  rcases List.mem_or_eq_of_mem_set hx with hx | rfl
  · have := h2 x hx; omega
  · have hlt : i % 5 < h.length := by rw [h1]; exact Nat.mod_lt _ (by decide)
    have := h2 (h.getD (i % 5) 0) (by rw [List.getD_eq_getElem?_getD, List.getElem?_eq_getElem hlt]; exact List.getElem_mem hlt)
    omega
theorem fold_ok (ns : List Int) : ∀ (l : List Nat) (h : List Int) (b : Int), HeapOk h b → HeapOk (l.foldl (heap1 ns) h) (b + 1000000 * l.length)
  | [], h, b, H => by simpa using H
  | i :: l, h, b, H => by
    have := fold_ok ns l (heap1 ns h i) _ (heap1_ok H)
    rw [List.length_cons]
    have e : b + 1000000 + 1000000 * (l.length : Int) = b + 1000000 * ((l.length + 1 : Nat) : Int) := by
      rw [Int.natCast_add]; omega
    rw [e] at this
    exact this
theorem heapsOf_ok (ns : List Int) : HeapOk (heapsOf ns) 20000005 := by
  have := fold_ok ns (List.range (min ns.length 20)) [5, 3, 0, 4, 2] 5 ⟨rfl, by intro x hx; simp at hx; omega⟩
  refine ⟨this.1, fun x hx => ?_⟩
  have h := this.2 x hx
  rw [List.length_range] at h
  have : ((min ns.length 20 : Nat) : Int) ≤ 20 := by omega
  omega
section
variable {prog : Program} {w : World} {P : Params} {mg mb : Str → Option Value} {k : Nat}
theorem c_heaps {ns : List Int} (hl : ns.length ≤ 1000) (hk : 5 ≤ k) : CS prog w (Cx P mg mb) (k + 1) (.ref 170) [.list (zints ns)] (.list (zints (heapsOf ns))) :=
  CS.fn fo170 rfl hk rfl fun A hs s hΓ => by
    refine SX.cons (S1.asg_mu hΓ (EF.list hΓ (.cons EV.int rfl (.cons EV.int rfl (.cons EV.int rfl (.cons EV.int rfl (.cons EV.int rfl .nil))))) (by decide)) rfl rfl) ?_
    have loop : ∀ (l : List Nat) (ρ : Loc) (h : List Int), (∀ i ∈ l, i < ns.length) → h.length = 5 → ρ (Str.ofString "script") = some (.list (zints ns)) →
        ∃ ρ', Loop (Fx.fn prog w A (Cx P mg mb) k fd170.1 170 hs s) (Str.ofString "i") (forBody fd170.1.body 1) ρ (some (Str.ofString "heaps", zints h)) (l.map fun (i : Nat) => .int (i : Int)) (.next ρ' (some (Str.ofString "heaps", zints (l.foldl (heap1 ns) h)))) := fun l => by
      induction l with
      | nil => intro ρ h _ _ _; exact ⟨ρ, .done⟩
      | cons i l ih =>
        intro ρ h hi h5 g
        have hin := hi i (List.mem_cons_self ..)
        have h5' : (heap1 ns h i).length = 5 := by simp [heap1, h5]
        obtain ⟨ρ', q⟩ := ih (up ρ (Str.ofString "i") (.int i)) (heap1 ns h i) (fun j hj => hi j (List.mem_cons_of_mem _ hj)) h5' (by rw [up_ne _ _ (by decide)]; exact g)
        have hm : ((i : Int)).fmod 5 = ((i % 5 : Nat) : Int) := fmod_nat i 5
        have hlt : i % 5 < 5 := Nat.mod_lt _ (by decide)
        have e : (zints h).set ((((i % 5 : Nat) : Int)).toNat) (.int (h.getD (i % 5) 0 + (ns.getD i 0).fmod 1000000)) = zints (heap1 ns h i) := by
          rw [Int.toNat_natCast]; unfold zints heap1; rw [List.map_set]
        refine ⟨ρ', .step (mu_ne rfl) (SX.one ?_) q⟩
        rw [← e]
        refine S1.setmu hΓ (EV.frozen (EV.bin hΓ (EV.sub hΓ (EV.name hΓ (up_same _ _ _)) (EV.cast (EV.bin hΓ (EV.name hΓ rfl) EV.int (B2.mod_int (by decide))) (congrArg PV.int hm)) (GI.list (by omega) (by omega) ?_) (fun _ _ => rfl))
          (EV.bin hΓ (EV.sub hΓ (EV.name hΓ (by rw [up_ne _ _ (by decide), up_ne _ _ (by decide)]; exact g)) (EV.name hΓ rfl) (GI.list (by omega) (by omega) ?_) (fun _ _ => rfl)) EV.int (B2.mod_int (by decide))) B2.add_int) rfl)
          (EV.cast (EV.bin hΓ (EV.name hΓ (up_same _ _ _)) EV.int (B2.mod_int (by decide))) (congrArg PV.int hm)) (by omega) (by rw [Int.toNat_natCast]; simp [zints]; omega) (by simp [zints]; omega) rfl
        · have : i % 5 < h.length := by omega
          rw [Int.toNat_natCast]; simp [zints, this]
        · simp [zints, hin]
    obtain ⟨ρ', g⟩ := loop (List.range (min ns.length 20)) (del (fun y => ([Str.ofString "script"].zip [PV.list (zints ns)]).lookup y) (Str.ofString "heaps")) [5, 3, 0, 4, 2] (fun i hi => by have := List.mem_range.mp hi; omega) rfl rfl
    have e : ∀ n : Nat, (if (20 : Int) < ((n : Nat) : Int) then (20 : Int) else ((n : Nat) : Int)) = ((min n 20 : Nat) : Int) := fun n => by
      split <;> omega
    refine SX.cons (S1.for_ hΓ (ds := (List.range (min ns.length 20)).map fun (i : Nat) => .int (i : Int)) (IT.cast (IT.range1 (n := ((min ns.length 20 : Nat) : Int)) hΓ gb_range rfl (EV.frozen (EV.cast (EV.call hΓ (EV1.glob hΓ gb_min rfl) .builtin (.cons (EV.cast (EV.call hΓ (EV1.glob hΓ gb_len rfl) .builtin (.cons (EV.name hΓ rfl) rfl .nil) (c_len_list (k := 5) (by simp [zints]; omega)) hΓ.room (Nat.le_refl _) rfl) (show PV.int _ = PV.int (ns.length : Int) by simp [zints])) rfl (.cons EV.int rfl .nil)) (c_min2 (k := 5)) hΓ.room (Nat.le_refl _) rfl) (congrArg PV.int (e _))) rfl) rfl
      (by omega) (by omega)) (rng0 _)) (own_fn (.inl rfl)) g fun _ => rfl) (SX.freeze (SX.out (S1.ret (EV.name hΓ (up_same _ _ _))) ret_ne))
end
end Mine
end -- F8
section -- W0
set_option maxRecDepth 10000
namespace Mine
theorem isStr_iff {name x : Str} {t : Tok} : (Value.str x t).isStr name = (x == name) := rfl
theorem ents_get {G : View} {name : Str} {d : PV} : ∀ {fs : List (Str × PV)} {es : List DictEntry}, Ents G fs es → fs.lookup name = some d → ∃ v, getL name es = some (some v) ∧ Rep G d v
  | _, _, .nil, h => by cases h
  | _, _, .cons (x := x) (d := d') (r := r) (es := es) (hh := hh) (t := t) (v := v) h1 h2, h => by
    unfold getL
    rw [List.find?_cons]
    rw [List.lookup_cons] at h
    cases e : x == name with
    | true =>
      have : (name == x) = true := by rw [eq_of_beq e]; simp
      rw [this] at h
      cases h
      have hk : (⟨hh, .str x t, v⟩ : DictEntry).key.isStr name = true := e
      rw [hk]
      exact ⟨v, rfl, h1⟩
    | false =>
      have hk : (⟨hh, .str x t, v⟩ : DictEntry).key.isStr name = false := e
      rw [hk]
      have : (name == x) = false := by
        cases q : name == x with
        | false => rfl
        | true => rw [eq_of_beq q] at e; simp at e
      rw [this] at h
      obtain ⟨v', q1, q2⟩ := ents_get h2 h
      unfold getL at q1
      refine ⟨v', ?_, q2⟩
      dsimp only
      cases hf : es.find? (·.key.isStr name) with
      | some en => rw [hf] at q1; exact q1
      | none =>
        rw [hf] at q1
        dsimp only at q1
        split at q1 <;> cases q1
theorem ents_ref {G : View} : ∀ {fs : List (Str × PV)} {es : List DictEntry}, Ents G fs es → es.any (·.refKey) = false
  | _, _, .nil => rfl
  | _, _, .cons h1 h2 => by rw [List.any_cons, ents_ref h2]; rfl
theorem ents_none {G : View} {name : Str} : ∀ {fs : List (Str × PV)} {es : List DictEntry}, Ents G fs es → fs.lookup name = none → getL name es = some none ∧ es.any (·.key.isStr name) = false
  | _, _, .nil, _ => ⟨rfl, rfl⟩
  | _, _, .cons (x := x) (d := d') (r := r) (es := es) (hh := hh) (t := t) (v := v) h1 h2, h => by
    rw [List.lookup_cons] at h
    have e : (x == name) = false := by
      cases q : x == name with
      | false => rfl
      | true => rw [eq_of_beq q] at h; simp at h
    have e' : (name == x) = false := by
      cases q : name == x with
      | false => rfl
      | true => rw [eq_of_beq q] at e; simp at e
    rw [e'] at h
    obtain ⟨q1, q2⟩ := ents_none h2 h
    have he : (⟨hh, .str x t, v⟩ : DictEntry).key.isStr name = false := e
    have hr : (⟨hh, .str x t, v⟩ : DictEntry).refKey = false := rfl
    refine ⟨?_, by rw [List.any_cons, he, q2]; rfl⟩
    unfold getL at q1 ⊢
    rw [List.find?_cons, he, List.any_cons, hr, Bool.false_or]
    exact q1
theorem handed_rep {G : View} {d : PV} {v : Value} (h : Rep G d v) (hd : ∀ u, d ≠ .val u) : handedIn v = true := by
  cases h <;> first | rfl | exact absurd rfl (hd _)

section
variable {prog : Program} {w : World} {C0 : Heap → Prop} {K : Frag}
/-- a class object's own attribute -/
theorem GA.inst {C : Addr} {fs : List (Str × PV)} {name : Str} {d : PV} {attr : Option Value} (hK : ∀ h, C0 h → K.In h) (hl : fs.lookup name = some d) (hd : ∀ u, d ≠ .val u) (hg : plainGet K C name = true) (hh : hasDictIn K C = true)
    (ha : findIn K (.ref C) name = some attr) (hn : noGet K attr = true) : GA prog w C0 (.inst C fs) name d := fun A k hs s v E R hC L h => by
  cases h with
  | @inst x C dx es n fs hx hdx hne he => ?_
  obtain ⟨v, q1, q2⟩ := ents_get he hl
  have I : InstAt s.heap x ⟨.ref C, some dx, .plain, #[]⟩ C (some (dictOf es n)) := ⟨(vw_some.mp hx).2.1, rfl, rfl, (vw_some.mp hdx).2.1⟩
  exact get_value (hK _ hC) I (plainGet_of hg).1 (findObj_own hh ha hn q1) (handed_rep q2 hd) ⟨Kp.tok s _, q2⟩
/-- a class object's method -/
theorem GM.inst {C f : Addr} {fs : List (Str × PV)} {name : Str} (hK : ∀ h, C0 h → K.In h) (hl : fs.lookup name = none) (hg : plainGet K C name = true)
    (hf : findIn K (.ref C) name = some (some (.ref f))) (ht : typeIn K (.ref f) = some (.type "function")) : GM prog w C0 (.inst C fs) name (.ref f) := fun A k hs s v E Q pl R hC L h hq => by
  cases h with
  | @inst x C dx es n fs hx hdx hne he => ?_
  obtain ⟨q1, _⟩ := ents_none he hl
  have I : InstAt s.heap x ⟨.ref C, some dx, .plain, #[]⟩ C (some (dictOf es n)) := ⟨(vw_some.mp hx).2.1, rfl, rfl, (vw_some.mp hdx).2.1⟩
  exact method_fn (hK _ hC) I (plainGet_of hg).1 (plainGet_of hg).2 hf ht (by show (lookIn name (dictOf es n)).map _ = _; rw [lookIn_dict, q1]; rfl) hq
/-- a class's own value -/
theorem GA.cls {C : Addr} {mc a : Value} {name : Str} {d : PV} (hK : ∀ h, C0 h → K.In h) (hr : readsIn K C mc = true) (e : findCls K (.ref C) mc name = some (.val a)) (hh : handedIn a = true) (hd : ∀ G, Rep G d a) :
    GA prog w C0 (.val (.ref C)) name d := fun A k hs s v E R hC L h => by
  cases h
  exact cls_value (hK _ hC) hr e hh ⟨Kp.tok s _, hd _⟩
end

section
variable {prog : Program} {w : World} {A : Around} {E : Value → Shared → Prop} {s : Shared} {K : Frag}
/-- an attribute laid in a class object's dict -/
theorem setAttr_raw {x dx C L : Addr} {es : List DictEntry} {n : Nat} {m : Str → Option Value} {name : Str} {v : Value} {Q : Unit → Shared → Prop} (X : K.In s.heap) (hx : s.heap.get? x = some (instObj C dx)) (hdx : s.heap.get? dx = some (dictOf es n))
    (hns : s.heap.Ns L m) (hL : dx ≠ L) (hs : findIn K (.ref C) "__setattr__" = some (some (.builtin "object.__setattr__"))) (hp : plainOver K C = true) (ht : takerIn K C name = some none) (hh : hasDictIn K C = true)
    (hl : (getL name es).isSome = true) (hz : (putL name (PyData.keyHash w.params name) (.str name (s.toks + 1)) v es).length ≤ 1000)
    (h : ∀ h', h'.Ns L m → h'.get? dx = some (dictOf (putL name (PyData.keyHash w.params name) (.str name (s.toks + 1)) v es) (putN name es n)) → (∀ b o, b ≠ dx → b ≠ L → s.heap.get? b = some o → h'.get? b = some o) → Q () { s with heap := h', toks := s.toks + 2 }) :
    wpAny (model prog w) A (setAttr (.ref x) name v) Q E s := by
  have I : InstAt s.heap x (instObj C dx) C (some (dictOf es n)) := ⟨hx, rfl, rfl, hdx⟩
  let post : List (Addr × Obj) := (List.range s.heap.objs.size).filterMap fun b => if b = dx ∨ b = L then none else (s.heap.get? b).map (b, ·)
  have hpost : ∀ p ∈ post, s.heap.get? p.1 = some p.2 ∧ p.1 ≠ dx ∧ p.1 ≠ L := fun p hp => by
    obtain ⟨b, _, hb⟩ := List.mem_filterMap.mp hp
    split at hb
    · cases hb
    · rename_i hne
      obtain ⟨o, ho, rfl⟩ := Option.map_eq_some_iff.mp hb
      exact ⟨ho, fun q => hne (.inl q), fun q => hne (.inr q)⟩
  have hin : ∀ b o, b ≠ dx → b ≠ L → s.heap.get? b = some o → (b, o) ∈ post := fun b o h1 h2 e => by
    refine List.mem_filterMap.mpr ⟨b, List.mem_range.mpr (Heap.lt_size e), ?_⟩
    rw [if_neg (fun q => q.elim h1 h2), e]
    rfl
  have e0 : ∀ b, ({ objs := #[] } : Heap).get? b = none := fun b => by
    cases q : ({ objs := #[] } : Heap).get? b with
    | none => rfl
    | some o => exact absurd (Heap.lt_size q) (Nat.not_lt_zero _)
  have F : Fr { objs := #[] } L s.heap m := ⟨hns, fun b o e => (by rw [e0] at e; cases e), Nat.zero_le _⟩
  have N : News { objs := #[] } L s.heap ([] ++ (dx, dictOf es n) :: post) := fun p hp => by
    rcases List.mem_cons.mp (show p ∈ (dx, dictOf es n) :: post from hp) with rfl | hp
    · exact ⟨hdx, hL, e0 _⟩
    · obtain ⟨a, b, c⟩ := hpost p hp
      exact ⟨a, c, e0 _⟩
  refine set_plain X I hs (osa_dict (s := { s with toks := s.toks + 1 }) F N X I rfl hp ht hh hl (by intro p hp; cases hp) (fun p hp => (hpost p hp).2.1) (by rw [putName_dict]) rfl hz fun h' F' N' => ?_)
  exact h h' F'.ns (N' _ (List.mem_cons_self ..)).1 fun b o h1 h2 e => (N' (b, o) (List.mem_cons_of_mem _ (hin b o h1 h2 e))).1
end
end Mine
end -- W0
section -- W1
set_option maxRecDepth 100000
namespace Mine
structure Wd where
  raw : Str
  n : Int
  nt : Int
  cnt : List Int
  b : Int
noncomputable def Wd.fs (d : Wd) : List (Str × PV) := [(Str.ofString "raw", .str d.raw), (Str.ofString "n", .int d.n), (Str.ofString "nt", .int d.nt), (Str.ofString "norm", .tup [.tup (zints d.cnt), .int d.b]), (Str.ofString "is_simple", .bool (decide (d.cnt.length ≤ 1)))]
noncomputable def Wd.pv (d : Wd) : PV := .inst 152 d.fs
noncomputable def Wd.longest (d : Wd) : Int := if d.b > (d.cnt.length : Int) - 1 then d.b else (d.cnt.length : Int) - 1
noncomputable def Wd.indent (d : Wd) (ts : Nat) : Int := d.b + (ts : Int) * (((List.range (d.cnt.length - ts)).map fun i => (((ts + i) / ts : Nat) : Int) * d.cnt.getD (ts + i) 0).sum + d.nt)
noncomputable def Wd.Ok (d : Wd) : Prop := d.cnt.length ≤ 1000 ∧ 0 ≤ d.b ∧ d.b ≤ 1000
section
variable {prog : Program} {w : World} {P : Params} {mg mb : Str → Option Value} {k : Nat}
theorem ga_norm {d : Wd} : GA prog w (Cx P mg mb) d.pv (Str.ofString "norm") (.tup [.tup (zints d.cnt), .int d.b]) := GA.inst (K := KK P) (fun h c => c.k) rfl (by intro u q; cases q) rfl rfl rfl rfl
theorem ga_nt {d : Wd} : GA prog w (Cx P mg mb) d.pv (Str.ofString "nt") (.int d.nt) := GA.inst (K := KK P) (fun h c => c.k) rfl (by intro u q; cases q) rfl rfl rfl rfl
theorem ga_n {d : Wd} : GA prog w (Cx P mg mb) d.pv (Str.ofString "n") (.int d.n) := GA.inst (K := KK P) (fun h c => c.k) rfl (by intro u q; cases q) rfl rfl rfl rfl
theorem ga_simple {d : Wd} : GA prog w (Cx P mg mb) d.pv (Str.ofString "is_simple") (.bool (decide (d.cnt.length ≤ 1))) := GA.inst (K := KK P) (fun h c => c.k) rfl (by intro u q; cases q) rfl rfl rfl rfl
theorem gm_longest {d : Wd} : GM prog w (Cx P mg mb) d.pv (Str.ofString "longest_run_of_spaces") (.ref 114) := GM.inst (K := KK P) (fun h c => c.k) rfl rfl rfl rfl
theorem gm_indent {d : Wd} : GM prog w (Cx P mg mb) d.pv (Str.ofString "indent_level") (.ref 121) := GM.inst (K := KK P) (fun h c => c.k) rfl rfl rfl rfl
theorem gm_equal {d : Wd} : GM prog w (Cx P mg mb) d.pv (Str.ofString "equal") (.ref 128) := GM.inst (K := KK P) (fun h c => c.k) rfl rfl rfl rfl
theorem gm_newit {d : Wd} : GM prog w (Cx P mg mb) d.pv (Str.ofString "not_equal_witness") (.ref 135) := GM.inst (K := KK P) (fun h c => c.k) rfl rfl rfl rfl
theorem gm_less {d : Wd} : GM prog w (Cx P mg mb) d.pv (Str.ofString "less") (.ref 142) := GM.inst (K := KK P) (fun h c => c.k) rfl rfl rfl rfl
theorem gm_nlwit {d : Wd} : GM prog w (Cx P mg mb) d.pv (Str.ofString "not_less_witness") (.ref 149) := GM.inst (K := KK P) (fun h c => c.k) rfl rfl rfl rfl

theorem c_longest {d : Wd} (hd : d.Ok) (hk : 5 ≤ k) : CS prog w (Cx P mg mb) (k + 1) (.ref 114) [d.pv] (.int d.longest) :=
  CS.fn fo114 rfl hk rfl fun A hs s hΓ => by
    refine SX.cons (S1.unpack hΓ (EV.attr hΓ (EV.name hΓ rfl) ga_norm rfl (fun _ _ => rfl)) (own_fn (.inl rfl)) (own_fn (.inl rfl)) no_mu no_mu rfl rfl) ?_
    refine SX.out (S1.ret (EV.call hΓ (EV1.glob hΓ gb_max rfl) .builtin (.cons (EV.bin hΓ (EV.cast (EV.call hΓ (EV1.glob hΓ gb_len rfl) .builtin (.cons (EV.name hΓ rfl) rfl .nil) (c_len_tup (k := 5) (by have := hd.1; simp [zints]; omega)) hΓ.room (Nat.le_refl _) rfl)
      (show PV.int _ = PV.int (d.cnt.length : Int) by simp [zints])) EV.int B2.sub_int) rfl (.cons (EV.name hΓ rfl) rfl .nil)) (c_max2 (k := 5)) hΓ.room (Nat.le_refl _) rfl)) ret_ne
theorem c_equal {d e : Wd} (hk : 5 ≤ k) : CS prog w (Cx P mg mb) (k + 1) (.ref 128) [d.pv, e.pv] (.bool (decide (d.cnt = e.cnt) && decide (d.b = e.b))) :=
  CS.fn fo128 rfl hk rfl fun A hs s hΓ => SX.out (S1.ret (EV.cmp hΓ (EV.attr hΓ (EV.name hΓ rfl) ga_norm rfl (fun _ _ => rfl)) (EV.attr hΓ (EV.name hΓ rfl) ga_norm rfl (fun _ _ => rfl)) C2.eq_norm rfl)) ret_ne
theorem c_indent {d : Wd} {ts : Nat} (hd : d.Ok) (h1 : 1 ≤ ts) (ht : ts ≤ 100000) (hk : 5 ≤ k) : CS prog w (Cx P mg mb) (k + 1) (.ref 121) [d.pv, .int ts] (.int (d.indent ts)) :=
  CS.fn fo121 rfl hk rfl fun A hs s hΓ => by
    refine SX.cons (S1.unpack hΓ (EV.attr hΓ (EV.name hΓ rfl) ga_norm rfl (fun _ _ => rfl)) (own_fn (.inl rfl)) (own_fn (.inl rfl)) no_mu no_mu rfl rfl) (SX.cons (S1.asg hΓ EV.int (own_fn (.inl rfl)) no_mu rfl) ?_)
    have loop : ∀ (l : List Nat) (ρ : Loc) (il : Int), (∀ i ∈ l, ts + i < d.cnt.length) → ρ (Str.ofString "il") = some (.int il) → ρ (Str.ofString "count") = some (.tup (zints d.cnt)) → ρ (Str.ofString "tabsize") = some (.int ts) →
        ∃ ρ', ρ' (Str.ofString "il") = some (.int (il + (l.map fun i => (((ts + i) / ts : Nat) : Int) * d.cnt.getD (ts + i) 0).sum)) ∧ ρ' (Str.ofString "trailing") = ρ (Str.ofString "trailing") ∧ ρ' (Str.ofString "tabsize") = ρ (Str.ofString "tabsize") ∧ ρ' (Str.ofString "self") = ρ (Str.ofString "self") ∧
          Loop (Fx.fn prog w A (Cx P mg mb) k fd121.1 121 hs s) (Str.ofString "i") (forBody fd121.1.body 2) ρ none (l.map fun (i : Nat) => .int ((ts : Int) + (i : Int))) (.next ρ' none) := fun l => by
      induction l with
      | nil => intro ρ il _ g1 g2 g3; exact ⟨ρ, by simpa using g1, rfl, rfl, rfl, .done⟩
      | cons i l ih =>
        intro ρ il hi g1 g2 g3
        have hin := hi i (List.mem_cons_self ..)
        have hlen := hd.1
        have e : ((ts : Int) + (i : Int)).fdiv (ts : Int) = (((ts + i) / ts : Nat) : Int) := by rw [← fdiv_nat]; congr 1
        have hq : (ts + i) / ts ≤ ts + i := Nat.div_le_self _ _
        obtain ⟨ρ', q1, q2, q3, q4, q5⟩ := ih (up (up ρ (Str.ofString "i") (.int ((ts : Int) + (i : Int)))) (Str.ofString "il") (.int (il + (((ts + i) / ts : Nat) : Int) * d.cnt.getD (ts + i) 0))) _ (fun j hj => hi j (List.mem_cons_of_mem _ hj)) (up_same _ _ _)
          (by rw [up_ne _ _ (by decide), up_ne _ _ (by decide)]; exact g2) (by rw [up_ne _ _ (by decide), up_ne _ _ (by decide)]; exact g3)
        refine ⟨ρ', by rw [q1, List.map_cons, List.sum_cons, Int.add_assoc], q2.trans ?_, q3.trans ?_, q4.trans ?_, .step no_mu (SX.one (S1.asg hΓ (EV.bin hΓ (EV.name hΓ (by rw [up_ne _ _ (by decide)]; exact g1)) (EV.bin hΓ (EV.cast (EV.bin hΓ (EV.name hΓ (up_same _ _ _)) (EV.name hΓ (by rw [up_ne _ _ (by decide)]; exact g3)) (B2.floordiv_int (by omega) (by rw [Int.natAbs_natCast]; omega))) (congrArg PV.int e))
          (EV.sub hΓ (EV.name hΓ (by rw [up_ne _ _ (by decide)]; exact g2)) (EV.name hΓ (up_same _ _ _)) (GI.tup (by omega) (by omega) (r := .int (d.cnt.getD (ts + i) 0)) ?_) (fun _ _ => rfl)) (B2.mul_int (IntMulOk.of_left (bits_small (by rw [Int.natAbs_natCast]; omega))))) B2.add_int) (own_fn (.inl rfl)) no_mu rfl)) q5⟩
        all_goals first
          | rw [up_ne _ _ (by decide), up_ne _ _ (by decide)]
          | (have e2 : ((ts : Int) + (i : Int)).toNat = ts + i := by omega
             rw [e2]; simp [zints, hin])
    obtain ⟨ρ', q1, q2, q3, q4, q5⟩ := loop (List.range (d.cnt.length - ts)) (up (up (up (fun y => ([Str.ofString "self", Str.ofString "tabsize"].zip [d.pv, .int ts]).lookup y) (Str.ofString "count") (.tup (zints d.cnt))) (Str.ofString "trailing") (.int d.b)) (Str.ofString "il") (.int 0)) 0 (fun i hi => by have := List.mem_range.mp hi; omega) rfl rfl rfl
    rw [Int.zero_add] at q1
    have hlen := hd.1
    have f1 : ρ' (Str.ofString "trailing") = some (.int d.b) := q2
    have f2 : ρ' (Str.ofString "tabsize") = some (.int ts) := q3
    have f3 : ρ' (Str.ofString "self") = some d.pv := q4
    have e3 : ((d.cnt.length : Int) - (ts : Int)).toNat = d.cnt.length - ts := by omega
    refine SX.cons (S1.for_ hΓ (ds := (List.range (d.cnt.length - ts)).map fun (i : Nat) => .int ((ts : Int) + (i : Int))) (IT.cast (IT.range2 (m := (ts : Int)) (n := (d.cnt.length : Int)) hΓ gb_range rfl (EV.name hΓ rfl) rfl (EV.cast (EV.call hΓ (EV1.glob hΓ gb_len rfl) .builtin (.cons (EV.name hΓ rfl) rfl .nil) (c_len_tup (k := 5) (by simp [zints]; omega)) hΓ.room (Nat.le_refl _) rfl)
      (show PV.int _ = PV.int (d.cnt.length : Int) by simp [zints])) rfl (by omega) (by omega) (by omega) (by omega)) (by unfold rng; rw [e3])) (own_fn (.inl rfl)) q5 fun _ => rfl) ?_
    exact SX.out (S1.ret (EV.bin hΓ (EV.name hΓ f1) (EV.bin hΓ (EV.name hΓ f2) (EV.bin hΓ (EV.name hΓ q1) (EV.attr hΓ (EV.name hΓ f3) ga_nt rfl (fun _ _ => rfl)) B2.add_int) (B2.mul_int (IntMulOk.of_left (bits_small (by rw [Int.natAbs_natCast]; omega))))) B2.add_int)) ret_ne
end
end Mine
end -- W1
section -- W2
set_option maxRecDepth 100000
namespace Mine
noncomputable def wide (d e : Wd) : Nat := (if e.longest > d.longest then e.longest else d.longest).toNat
noncomputable def newit (d e : Wd) : List (Int × Int × Int) := ((List.range (wide d e + 1)).filter fun i => d.indent (1 + i) != e.indent (1 + i)).map fun (i : Nat) => (((1 + i : Nat) : Int), d.indent (1 + i), e.indent (1 + i))
noncomputable def nlwit (d e : Wd) : List (Int × Int × Int) := ((List.range (wide d e + 1)).filter fun i => decide (d.indent (1 + i) ≥ e.indent (1 + i))).map fun (i : Nat) => (((1 + i : Nat) : Int), d.indent (1 + i), e.indent (1 + i))
noncomputable def lessW (d e : Wd) : Bool := if d.n ≥ e.n then false else if (decide (d.cnt.length ≤ 1) && decide (e.cnt.length ≤ 1)) = true then decide (d.nt ≤ e.nt) else !((List.range (wide d e)).any fun i => decide (d.indent (2 + i) ≥ e.indent (2 + i)))
theorem longest_nonneg {d : Wd} (hd : d.Ok) : 0 ≤ d.longest ∧ d.longest ≤ 1000 := by
  obtain ⟨h1, h2, h3⟩ := hd
  unfold Wd.longest
  split <;> omega
theorem wide_cast {d e : Wd} (hd : d.Ok) (he : e.Ok) : (if e.longest > d.longest then e.longest else d.longest) = ((wide d e : Nat) : Int) ∧ wide d e ≤ 1000 := by
  have h1 := longest_nonneg hd
  have h2 := longest_nonneg he
  unfold wide
  split <;> omega
section
variable {prog : Program} {w : World} {P : Params} {mg mb : Str → Option Value} {k : Nat}
/-- the frames of the three methods look alike -/
theorem ev_wide {Γ : Fx} {ρ : Loc} {mu : Mu} (hΓ : Γ.Ok) (hC : Γ.C = Cx P mg mb) (hk : 6 ≤ Γ.k) (hmax : Γ.env.kindOf (Str.ofString "max") = some .globalImplicit) {d e : Wd} (hd : d.Ok) (he : e.Ok) (h1 : ρ (Str.ofString "self") = some d.pv) (h2 : ρ (Str.ofString "other") = some e.pv) {p1 p2 p3 p4 p5 p6 p7 p8 : Pos} {pl1 pl2}
    (q1 : eval (.Call (.Attribute (.Name (Str.ofString "self") p2) (Str.ofString "longest_run_of_spaces") p3) [] [] p4) Γ.env = (do
      let ov ← eval (.Name (Str.ofString "self") p2) Γ.env
      standAt p3.atName
      let (f, first) ← holding [ov] (getMethod ov (Str.ofString "longest_run_of_spaces") pl1)
      callWith p4 f first (backTo p4 (starEach [] Γ.env)) (backToKw p4 (keywordEach [] Γ.env))))
    (q2 : eval (.Call (.Attribute (.Name (Str.ofString "other") p5) (Str.ofString "longest_run_of_spaces") p6) [] [] p7) Γ.env = (do
      let ov ← eval (.Name (Str.ofString "other") p5) Γ.env
      standAt p6.atName
      let (f, first) ← holding [ov] (getMethod ov (Str.ofString "longest_run_of_spaces") pl2)
      callWith p7 f first (backTo p7 (starEach [] Γ.env)) (backToKw p7 (keywordEach [] Γ.env))))
    (q3 : eval (.Call (.Name (Str.ofString "max") p1) [.Call (.Attribute (.Name (Str.ofString "self") p2) (Str.ofString "longest_run_of_spaces") p3) [] [] p4, .Call (.Attribute (.Name (Str.ofString "other") p5) (Str.ofString "longest_run_of_spaces") p6) [] [] p7] [] p8) Γ.env = (do
      callWith p8 (← eval (.Name (Str.ofString "max") p1) Γ.env) [] (backTo p8 (starEach [.Call (.Attribute (.Name (Str.ofString "self") p2) (Str.ofString "longest_run_of_spaces") p3) [] [] p4, .Call (.Attribute (.Name (Str.ofString "other") p5) (Str.ofString "longest_run_of_spaces") p6) [] [] p7] Γ.env)) (backToKw p8 (keywordEach [] Γ.env)))) :
    EV Γ ρ mu (.Call (.Name (Str.ofString "max") p1) [.Call (.Attribute (.Name (Str.ofString "self") p2) (Str.ofString "longest_run_of_spaces") p3) [] [] p4, .Call (.Attribute (.Name (Str.ofString "other") p5) (Str.ofString "longest_run_of_spaces") p6) [] [] p7] [] p8) (.int (wide d e : Nat)) := by
  obtain ⟨prog', w', A', env', hid', s₀', C', k', n', pins'⟩ := Γ
  dsimp only at hC hk
  subst hC
  exact EV.cast (EV.call hΓ (EV1.glob hΓ gb_max hmax) .builtin (.cons (EV.meth hΓ (EV.name hΓ h1) gm_longest (.fn fun h c => ⟨_, _, c.k _ _ (fd114.2 P), rfl⟩) .nil (c_longest (k := 5) hd (by omega)) hk (by omega) q1) rfl (.cons (EV.meth hΓ (EV.name hΓ h2) gm_longest (.fn fun h c => ⟨_, _, c.k _ _ (fd114.2 P), rfl⟩) .nil (c_longest (k := 5) he (by omega)) hk (by omega) q2) rfl .nil)) (c_max2 (k := 5)) hΓ.room (Nat.le_refl _) q3) (congrArg PV.int (wide_cast hd he).1)
theorem c_newit {d e : Wd} (hd : d.Ok) (he : e.Ok) (hk : 6 ≤ k) : CS prog w (Cx P mg mb) (k + 1) (.ref 135) [d.pv, e.pv] (.list ((newit d e).map trip)) :=
  CS.fn fo135 rfl (by omega) rfl fun A hs s hΓ => by
    obtain ⟨hw1, hw2⟩ := wide_cast hd he
    refine SX.cons (S1.asg hΓ (EV.bin hΓ (ev_wide hΓ rfl hk rfl hd he rfl rfl rfl rfl rfl) EV.int B2.add_int) (own_fn (.inl rfl)) no_mu rfl) (SX.cons (S1.asg_mu hΓ (EF.list hΓ .nil (by decide)) rfl rfl) ?_)
    have loop : ∀ (l : List Nat) (ρ : Loc) (acc : List PV), acc.length + l.length ≤ 2000 → (∀ i ∈ l, i ≤ 1001) → ρ (Str.ofString "self") = some d.pv → ρ (Str.ofString "other") = some e.pv →
        ∃ ρ', Loop (Fx.fn prog w A (Cx P mg mb) k fd135.1 135 hs s) (Str.ofString "ts") (forBody fd135.1.body 2) ρ (some (Str.ofString "a", acc)) (l.map fun (i : Nat) => .int ((1 : Int) + (i : Int)))
          (.next ρ' (some (Str.ofString "a", acc ++ ((l.filter fun i => d.indent (1 + i) != e.indent (1 + i)).map fun (i : Nat) => trip (((1 + i : Nat) : Int), d.indent (1 + i), e.indent (1 + i)))))) := fun l => by
      induction l with
      | nil => intro ρ acc _ _ _ _; exact ⟨ρ, by simpa using Loop.done⟩
      | cons i l ih =>
        intro ρ acc hal hi g1 g2
        rw [List.length_cons] at hal
        have hin := hi i (List.mem_cons_self ..)
        have f1 : (up ρ (Str.ofString "ts") (.int ((1 : Int) + (i : Int)))) (Str.ofString "self") = some d.pv := by rw [up_ne _ _ (by decide)]; exact g1
        have f2 : (up ρ (Str.ofString "ts") (.int ((1 : Int) + (i : Int)))) (Str.ofString "other") = some e.pv := by rw [up_ne _ _ (by decide)]; exact g2
        have f3 : (up ρ (Str.ofString "ts") (.int ((1 : Int) + (i : Int)))) (Str.ofString "ts") = some (.int ((1 + i : Nat) : Int)) := by rw [up_same]; simp
        obtain ⟨ρ', q⟩ := ih (up ρ (Str.ofString "ts") (.int ((1 : Int) + (i : Int)))) (if (d.indent (1 + i) != e.indent (1 + i)) = true then acc ++ [trip (((1 + i : Nat) : Int), d.indent (1 + i), e.indent (1 + i))] else acc)
          (by split <;> (try simp only [List.length_append, List.length_cons, List.length_nil]) <;> omega) (fun j hj => hi j (List.mem_cons_of_mem _ hj)) f1 f2
        have eacc : (if (d.indent (1 + i) != e.indent (1 + i)) = true then acc ++ [trip (((1 + i : Nat) : Int), d.indent (1 + i), e.indent (1 + i))] else acc) ++ ((l.filter fun i => d.indent (1 + i) != e.indent (1 + i)).map fun (i : Nat) => trip (((1 + i : Nat) : Int), d.indent (1 + i), e.indent (1 + i))) =
            acc ++ (((i :: l).filter fun i => d.indent (1 + i) != e.indent (1 + i)).map fun (i : Nat) => trip (((1 + i : Nat) : Int), d.indent (1 + i), e.indent (1 + i))) := by
          rw [List.filter_cons]
          split <;> simp
        rw [eacc] at q
        refine ⟨ρ', .step (mu_ne rfl) (SX.one ?_) q⟩
        have c1 : CS prog w (Cx P mg mb) 6 (.ref 121) [d.pv, .int ((1 + i : Nat) : Int)] (.int (d.indent (1 + i))) := c_indent hd (by omega) (by omega) (by omega)
        have c2 : CS prog w (Cx P mg mb) 6 (.ref 121) [e.pv, .int ((1 + i : Nat) : Int)] (.int (e.indent (1 + i))) := c_indent he (by omega) (by omega) (by omega)
        refine S1.ifs (b := d.indent (1 + i) != e.indent (1 + i)) (ET.cmp hΓ (EV.meth hΓ (EV.name hΓ f1) gm_indent (.fn fun h c => ⟨_, _, c.k _ _ (fd121.2 P), rfl⟩) (.cons (EV.name hΓ f3) rfl .nil) c1 hk (by omega) rfl) (EV.meth hΓ (EV.name hΓ f2) gm_indent (.fn fun h c => ⟨_, _, c.k _ _ (fd121.2 P), rfl⟩) (.cons (EV.name hΓ f3) rfl .nil) c2 hk (by omega) rfl) C2.ne_int rfl) (fun hb => ?_) (fun hb => ?_)
        · rw [hb, if_pos rfl]
          refine SX.one (S1.append hΓ (EV.tup hΓ (.cons (EV.name hΓ f3) rfl (.cons (EV.meth hΓ (EV.name hΓ f1) gm_indent (.fn fun h c => ⟨_, _, c.k _ _ (fd121.2 P), rfl⟩) (.cons (EV.name hΓ f3) rfl .nil) c1 hk (by omega) rfl) rfl (.cons (EV.meth hΓ (EV.name hΓ f2) gm_indent (.fn fun h c => ⟨_, _, c.k _ _ (fd121.2 P), rfl⟩) (.cons (EV.name hΓ f3) rfl .nil) c2 hk (by omega) rfl) rfl .nil))) (show 3 ≤ sizeLine by decide)) rfl (by unfold sizeLine; omega) rfl rfl rfl)
        · rw [hb, if_neg (by decide)]
          exact SX.nil
    obtain ⟨ρ', g⟩ := loop (List.range (wide d e + 1)) (del (up (fun y => ([Str.ofString "self", Str.ofString "other"].zip [d.pv, e.pv]).lookup y) (Str.ofString "n") (.int ((wide d e : Nat) + 1))) (Str.ofString "a")) [] (by simp only [List.length_nil, List.length_range]; omega) (fun i hi => by have := List.mem_range.mp hi; omega) rfl rfl
    rw [List.nil_append] at g
    have e3 : (((wide d e : Nat) : Int) + 1 + 1 - 1).toNat = wide d e + 1 := by omega
    refine SX.cons (S1.for_ hΓ (ds := (List.range (wide d e + 1)).map fun (i : Nat) => .int ((1 : Int) + (i : Int))) (IT.cast (IT.range2 (m := 1) (n := ((wide d e : Nat) : Int) + 1 + 1) hΓ gb_range rfl EV.int rfl (EV.bin hΓ (EV.name hΓ rfl) EV.int B2.add_int) rfl (by omega) (by omega) (by omega) (by omega)) (by unfold rng; rw [e3])) (own_fn (.inl rfl)) g fun _ => rfl) (SX.freeze (SX.out (S1.ret (EV.cast (EV.name hΓ (up_same _ _ _)) (by unfold newit; rw [List.map_map]; rfl))) ret_ne))
end
end Mine
end -- W2
section -- W3
set_option maxRecDepth 100000
namespace Mine
section
variable {prog : Program} {w : World} {P : Params} {mg mb : Str → Option Value} {k : Nat}
theorem c_nlwit {d e : Wd} (hd : d.Ok) (he : e.Ok) (hk : 6 ≤ k) : CS prog w (Cx P mg mb) (k + 1) (.ref 149) [d.pv, e.pv] (.list ((nlwit d e).map trip)) :=
  CS.fn fo149 rfl (by omega) rfl fun A hs s hΓ => by
    obtain ⟨hw1, hw2⟩ := wide_cast hd he
    refine SX.cons (S1.asg hΓ (EV.bin hΓ (ev_wide hΓ rfl hk rfl hd he rfl rfl rfl rfl rfl) EV.int B2.add_int) (own_fn (.inl rfl)) no_mu rfl) (SX.cons (S1.asg_mu hΓ (EF.list hΓ .nil (by decide)) rfl rfl) ?_)
    have loop : ∀ (l : List Nat) (ρ : Loc) (acc : List PV), acc.length + l.length ≤ 2000 → (∀ i ∈ l, i ≤ 1001) → ρ (Str.ofString "self") = some d.pv → ρ (Str.ofString "other") = some e.pv →
        ∃ ρ', Loop (Fx.fn prog w A (Cx P mg mb) k fd149.1 149 hs s) (Str.ofString "ts") (forBody fd149.1.body 2) ρ (some (Str.ofString "a", acc)) (l.map fun (i : Nat) => .int ((1 : Int) + (i : Int)))
          (.next ρ' (some (Str.ofString "a", acc ++ ((l.filter fun i => decide (d.indent (1 + i) ≥ e.indent (1 + i))).map fun (i : Nat) => trip (((1 + i : Nat) : Int), d.indent (1 + i), e.indent (1 + i)))))) := fun l => by
      induction l with
      | nil => intro ρ acc _ _ _ _; exact ⟨ρ, by simpa using Loop.done⟩
      | cons i l ih =>
        intro ρ acc hal hi g1 g2
        rw [List.length_cons] at hal
        have hin := hi i (List.mem_cons_self ..)
        have f1 : (up ρ (Str.ofString "ts") (.int ((1 : Int) + (i : Int)))) (Str.ofString "self") = some d.pv := by rw [up_ne _ _ (by decide)]; exact g1
        have f2 : (up ρ (Str.ofString "ts") (.int ((1 : Int) + (i : Int)))) (Str.ofString "other") = some e.pv := by rw [up_ne _ _ (by decide)]; exact g2
        have f3 : (up ρ (Str.ofString "ts") (.int ((1 : Int) + (i : Int)))) (Str.ofString "ts") = some (.int ((1 + i : Nat) : Int)) := by rw [up_same]; simp
        obtain ⟨ρ', q⟩ := ih (up ρ (Str.ofString "ts") (.int ((1 : Int) + (i : Int)))) (if (decide (d.indent (1 + i) ≥ e.indent (1 + i))) = true then acc ++ [trip (((1 + i : Nat) : Int), d.indent (1 + i), e.indent (1 + i))] else acc)
          (by split <;> (try simp only [List.length_append, List.length_cons, List.length_nil]) <;> omega) (fun j hj => hi j (List.mem_cons_of_mem _ hj)) f1 f2
        have eacc : (if (decide (d.indent (1 + i) ≥ e.indent (1 + i))) = true then acc ++ [trip (((1 + i : Nat) : Int), d.indent (1 + i), e.indent (1 + i))] else acc) ++ ((l.filter fun i => decide (d.indent (1 + i) ≥ e.indent (1 + i))).map fun (i : Nat) => trip (((1 + i : Nat) : Int), d.indent (1 + i), e.indent (1 + i))) =
            acc ++ (((i :: l).filter fun i => decide (d.indent (1 + i) ≥ e.indent (1 + i))).map fun (i : Nat) => trip (((1 + i : Nat) : Int), d.indent (1 + i), e.indent (1 + i))) := by
          rw [List.filter_cons]
          split <;> simp
        rw [eacc] at q
        refine ⟨ρ', .step (mu_ne rfl) (SX.one ?_) q⟩
        have c1 : CS prog w (Cx P mg mb) 6 (.ref 121) [d.pv, .int ((1 + i : Nat) : Int)] (.int (d.indent (1 + i))) := c_indent hd (by omega) (by omega) (by omega)
        have c2 : CS prog w (Cx P mg mb) 6 (.ref 121) [e.pv, .int ((1 + i : Nat) : Int)] (.int (e.indent (1 + i))) := c_indent he (by omega) (by omega) (by omega)
        refine S1.ifs (b := decide (d.indent (1 + i) ≥ e.indent (1 + i))) (ET.cmp hΓ (EV.meth hΓ (EV.name hΓ f1) gm_indent (.fn fun h c => ⟨_, _, c.k _ _ (fd121.2 P), rfl⟩) (.cons (EV.name hΓ f3) rfl .nil) c1 hk (by omega) rfl) (EV.meth hΓ (EV.name hΓ f2) gm_indent (.fn fun h c => ⟨_, _, c.k _ _ (fd121.2 P), rfl⟩) (.cons (EV.name hΓ f3) rfl .nil) c2 hk (by omega) rfl) C2.ge_int rfl) (fun hb => ?_) (fun hb => ?_)
        · rw [hb, if_pos rfl]
          refine SX.one (S1.append hΓ (EV.tup hΓ (.cons (EV.name hΓ f3) rfl (.cons (EV.meth hΓ (EV.name hΓ f1) gm_indent (.fn fun h c => ⟨_, _, c.k _ _ (fd121.2 P), rfl⟩) (.cons (EV.name hΓ f3) rfl .nil) c1 hk (by omega) rfl) rfl (.cons (EV.meth hΓ (EV.name hΓ f2) gm_indent (.fn fun h c => ⟨_, _, c.k _ _ (fd121.2 P), rfl⟩) (.cons (EV.name hΓ f3) rfl .nil) c2 hk (by omega) rfl) rfl .nil))) (show 3 ≤ sizeLine by decide)) rfl (by unfold sizeLine; omega) rfl rfl rfl)
        · rw [hb, if_neg (by decide)]
          exact SX.nil
    obtain ⟨ρ', g⟩ := loop (List.range (wide d e + 1)) (del (up (fun y => ([Str.ofString "self", Str.ofString "other"].zip [d.pv, e.pv]).lookup y) (Str.ofString "n") (.int ((wide d e : Nat) + 1))) (Str.ofString "a")) [] (by simp only [List.length_nil, List.length_range]; omega) (fun i hi => by have := List.mem_range.mp hi; omega) rfl rfl
    rw [List.nil_append] at g
    have e3 : (((wide d e : Nat) : Int) + 1 + 1 - 1).toNat = wide d e + 1 := by omega
    refine SX.cons (S1.for_ hΓ (ds := (List.range (wide d e + 1)).map fun (i : Nat) => .int ((1 : Int) + (i : Int))) (IT.cast (IT.range2 (m := 1) (n := ((wide d e : Nat) : Int) + 1 + 1) hΓ gb_range rfl EV.int rfl (EV.bin hΓ (EV.name hΓ rfl) EV.int B2.add_int) rfl (by omega) (by omega) (by omega) (by omega)) (by unfold rng; rw [e3])) (own_fn (.inl rfl)) g fun _ => rfl) (SX.freeze (SX.out (S1.ret (EV.cast (EV.name hΓ (up_same _ _ _)) (by unfold nlwit; rw [List.map_map]; rfl))) ret_ne))

theorem c_less {d e : Wd} (hd : d.Ok) (he : e.Ok) (hk : 6 ≤ k) : CS prog w (Cx P mg mb) (k + 1) (.ref 142) [d.pv, e.pv] (.bool (lessW d e)) :=
  CS.fn fo142 rfl (by omega) rfl fun A hs s hΓ => by
    obtain ⟨hw1, hw2⟩ := wide_cast hd he
    by_cases h1 : d.n ≥ e.n
    · refine SX.out (S1.ifs (b := true) (ET.cast (ET.cmp hΓ (EV.attr hΓ (EV.name hΓ rfl) ga_n rfl (fun _ _ => rfl)) (EV.attr hΓ (EV.name hΓ rfl) ga_n rfl (fun _ _ => rfl)) C2.ge_int rfl) (decide_eq_true h1)) (fun _ => SX.out (S1.ret (EV.cast EV.bool (by unfold lessW; rw [if_pos h1]))) ret_ne) (by intro q; cases q)) ret_ne
    · refine SX.cons (S1.ifs (b := false) (ET.cast (ET.cmp hΓ (EV.attr hΓ (EV.name hΓ rfl) ga_n rfl (fun _ _ => rfl)) (EV.attr hΓ (EV.name hΓ rfl) ga_n rfl (fun _ _ => rfl)) C2.ge_int rfl) (decide_eq_false h1)) (by intro q; cases q) fun _ => SX.nil) ?_
      by_cases h2 : (decide (d.cnt.length ≤ 1) && decide (e.cnt.length ≤ 1)) = true
      · refine SX.out (S1.ifs (b := true) (ET.cast (ET.and2 (ET.val hΓ (EV.attr hΓ (EV.name hΓ rfl) ga_simple rfl (fun _ _ => rfl)) T1.bool rfl) fun _ => ET.val hΓ (EV.attr hΓ (EV.name hΓ rfl) ga_simple rfl (fun _ _ => rfl)) T1.bool rfl) h2) (fun _ => SX.out (S1.ret (EV.cast (EV.cmp hΓ (EV.attr hΓ (EV.name hΓ rfl) ga_nt rfl (fun _ _ => rfl)) (EV.attr hΓ (EV.name hΓ rfl) ga_nt rfl (fun _ _ => rfl)) C2.le_int rfl) (by unfold lessW; rw [if_neg h1, if_pos h2]))) ret_ne) (by intro q; cases q)) ret_ne
      · refine SX.cons (S1.ifs (b := false) (ET.cast (ET.and2 (ET.val hΓ (EV.attr hΓ (EV.name hΓ rfl) ga_simple rfl (fun _ _ => rfl)) T1.bool rfl) fun _ => ET.val hΓ (EV.attr hΓ (EV.name hΓ rfl) ga_simple rfl (fun _ _ => rfl)) T1.bool rfl) (Bool.eq_false_iff.mpr h2)) (by intro q; cases q) fun _ => SX.nil) ?_
        refine SX.cons (S1.asg hΓ (EV.bin hΓ (ev_wide hΓ rfl hk rfl hd he rfl rfl rfl rfl rfl) EV.int B2.add_int) (own_fn (.inl rfl)) no_mu rfl) ?_
        have loop : ∀ (l : List Nat) (ρ : Loc), (∀ i ∈ l, i ≤ 1001) → ρ (Str.ofString "self") = some d.pv → ρ (Str.ofString "other") = some e.pv →
            (l.any (fun i => decide (d.indent (2 + i) ≥ e.indent (2 + i))) = true → Loop (Fx.fn prog w A (Cx P mg mb) k fd142.1 142 hs s) (Str.ofString "ts") (forBody fd142.1.body 3) ρ none (l.map fun (i : Nat) => .int ((2 : Int) + (i : Int))) (.ret (.bool false))) ∧
            (l.any (fun i => decide (d.indent (2 + i) ≥ e.indent (2 + i))) = false → ∃ ρ', Loop (Fx.fn prog w A (Cx P mg mb) k fd142.1 142 hs s) (Str.ofString "ts") (forBody fd142.1.body 3) ρ none (l.map fun (i : Nat) => .int ((2 : Int) + (i : Int))) (.next ρ' none)) := fun l => by
          induction l with
          | nil => intro ρ _ _ _; exact ⟨fun q => (by cases q), fun _ => ⟨ρ, .done⟩⟩
          | cons i l ih =>
            intro ρ hi g1 g2
            have hin := hi i (List.mem_cons_self ..)
            have f1 : (up ρ (Str.ofString "ts") (.int ((2 : Int) + (i : Int)))) (Str.ofString "self") = some d.pv := by rw [up_ne _ _ (by decide)]; exact g1
            have f2 : (up ρ (Str.ofString "ts") (.int ((2 : Int) + (i : Int)))) (Str.ofString "other") = some e.pv := by rw [up_ne _ _ (by decide)]; exact g2
            have f3 : (up ρ (Str.ofString "ts") (.int ((2 : Int) + (i : Int)))) (Str.ofString "ts") = some (.int ((2 + i : Nat) : Int)) := by rw [up_same]; simp
            have c1 : CS prog w (Cx P mg mb) 6 (.ref 121) [d.pv, .int ((2 + i : Nat) : Int)] (.int (d.indent (2 + i))) := c_indent hd (by omega) (by omega) (by omega)
            have c2 : CS prog w (Cx P mg mb) 6 (.ref 121) [e.pv, .int ((2 + i : Nat) : Int)] (.int (e.indent (2 + i))) := c_indent he (by omega) (by omega) (by omega)
            obtain ⟨i1, i2⟩ := ih (up ρ (Str.ofString "ts") (.int ((2 : Int) + (i : Int)))) (fun j hj => hi j (List.mem_cons_of_mem _ hj)) f1 f2
            cases hb : decide (d.indent (2 + i) ≥ e.indent (2 + i)) with
            | true =>
              refine ⟨fun _ => .ret no_mu (SX.out (S1.ifs (b := true) (ET.cast (ET.cmp hΓ (EV.meth hΓ (EV.name hΓ f1) gm_indent (.fn fun h c => ⟨_, _, c.k _ _ (fd121.2 P), rfl⟩) (.cons (EV.name hΓ f3) rfl .nil) c1 hk (by omega) rfl) (EV.meth hΓ (EV.name hΓ f2) gm_indent (.fn fun h c => ⟨_, _, c.k _ _ (fd121.2 P), rfl⟩) (.cons (EV.name hΓ f3) rfl .nil) c2 hk (by omega) rfl) C2.ge_int rfl) hb) (fun _ => SX.out (S1.ret EV.bool) ret_ne) (by intro q; cases q)) ret_ne), fun q => ?_⟩
              rw [List.any_cons, hb] at q
              cases q
            | false =>
              have st : SX (Fx.fn prog w A (Cx P mg mb) k fd142.1 142 hs s) (up ρ (Str.ofString "ts") (.int ((2 : Int) + (i : Int)))) none (forBody fd142.1.body 3) (.next (up ρ (Str.ofString "ts") (.int ((2 : Int) + (i : Int)))) none) :=
                SX.one (S1.ifs (b := false) (ET.cast (ET.cmp hΓ (EV.meth hΓ (EV.name hΓ f1) gm_indent (.fn fun h c => ⟨_, _, c.k _ _ (fd121.2 P), rfl⟩) (.cons (EV.name hΓ f3) rfl .nil) c1 hk (by omega) rfl) (EV.meth hΓ (EV.name hΓ f2) gm_indent (.fn fun h c => ⟨_, _, c.k _ _ (fd121.2 P), rfl⟩) (.cons (EV.name hΓ f3) rfl .nil) c2 hk (by omega) rfl) C2.ge_int rfl) hb) (by intro q; cases q) fun _ => SX.nil)
              rw [List.any_cons, hb, Bool.false_or]
              exact ⟨fun q => .step no_mu st (i1 q), fun q => let ⟨ρ', g⟩ := i2 q; ⟨ρ', .step no_mu st g⟩⟩
        obtain ⟨i1, i2⟩ := loop (List.range (wide d e)) (up (fun y => ([Str.ofString "self", Str.ofString "other"].zip [d.pv, e.pv]).lookup y) (Str.ofString "n") (.int ((wide d e : Nat) + 1))) (fun i hi => by have := List.mem_range.mp hi; omega) rfl rfl
        have e3 : (((wide d e : Nat) : Int) + 1 + 1 - 2).toNat = wide d e := by omega
        have hfin : lessW d e = !((List.range (wide d e)).any fun i => decide (d.indent (2 + i) ≥ e.indent (2 + i))) := by unfold lessW; rw [if_neg h1, if_neg h2]
        cases hb : (List.range (wide d e)).any fun i => decide (d.indent (2 + i) ≥ e.indent (2 + i)) with
        | true =>
          rw [hfin, hb]
          exact SX.out (S1.for_ hΓ (ds := (List.range (wide d e)).map fun (i : Nat) => .int ((2 : Int) + (i : Int))) (IT.cast (IT.range2 (m := 2) (n := ((wide d e : Nat) : Int) + 1 + 1) hΓ gb_range rfl EV.int rfl (EV.bin hΓ (EV.name hΓ rfl) EV.int B2.add_int) rfl (by omega) (by omega) (by omega) (by omega)) (by unfold rng; rw [e3])) (own_fn (.inl rfl)) (i1 hb) fun _ => rfl) ret_ne
        | false =>
          obtain ⟨ρ', g⟩ := i2 hb
          rw [hfin, hb]
          exact SX.cons (S1.for_ hΓ (ds := (List.range (wide d e)).map fun (i : Nat) => .int ((2 : Int) + (i : Int))) (IT.cast (IT.range2 (m := 2) (n := ((wide d e : Nat) : Int) + 1 + 1) hΓ gb_range rfl EV.int rfl (EV.bin hΓ (EV.name hΓ rfl) EV.int B2.add_int) rfl (by omega) (by omega) (by omega) (by omega)) (by unfold rng; rw [e3])) (own_fn (.inl rfl)) g fun _ => rfl) (SX.out (S1.ret EV.bool) ret_ne)
end
end Mine
end -- W3
section -- W4
set_option maxRecDepth 100000
namespace Mine
theorem putL_new (name : Str) (h : Int) (k v : Value) : ∀ es : List DictEntry, es.any (·.key.isStr name) = false → putL name h k v es = es ++ [⟨h, k, v⟩]
  | [], _ => rfl
  | e :: r, q => by
    rw [List.any_cons, Bool.or_eq_false_iff] at q
    rw [putL, q.1, if_neg (by decide), putL_new name h k v r q.2]
    rfl
noncomputable def pinsOf (x dx : Addr) (es : List DictEntry) (n : Nat) : List (Addr × Obj) := [(x, instObj 152 dx), (dx, dictOf es n)]
/-- statements with an end of their own -/
noncomputable def SXE (Γ : Fx) (ρ : Loc) (mu : Mu) (ss : List Stmt) (F : Flow → Shared → Prop) : Prop := ∀ a s E, St Γ ρ mu a s → wpAny Γ.M Γ.A (execs ss Γ.env) F E s
section
variable {Γ : Fx} {ρ : Loc} {mu : Mu} {F : Flow → Shared → Prop}
theorem SXE.cons {t ss ρ' mu'} (h1 : S1 Γ ρ mu t (.next ρ' mu')) (h2 : SXE Γ ρ' mu' ss F) : SXE Γ ρ mu (t :: ss) F := fun a s E hs =>
  wpAny_execs_cons (wpAny_mono (h1 a s E hs) (fun f s' h => by
    cases f with
    | next => obtain ⟨a', hs', p⟩ := h; exact h2 a' s' E hs'
    | _ => exact h.elim) fun _ _ e => e)
theorem SXE.freeze {x xs ss} (h : SXE Γ (up ρ x (.list xs)) none ss F) : SXE Γ ρ (some (x, xs)) ss F := fun a s E hs => h a s E hs.freeze
theorem S1.freeze {x xs t o} (h : S1 Γ (up ρ x (.list xs)) none t o) : S1 Γ ρ (some (x, xs)) t o := fun a s E hs =>
  wpAny_mono (h a s E hs.freeze) (fun f s' h' => h'.ret_of (pres_freeze hs)) fun _ _ e => e

theorem St.setattr {P : Params} (hΓ : Γ.Ok) {a s x dx es n name v} {E : Value → Shared → Prop} (hs : St Γ ρ mu a s) (X : (KK P).In s.heap) (hp : Γ.pins = pinsOf x dx es n) (hxd : x ≠ dx) (h0 : Γ.s₀.heap.get? dx = none)
    (hst : findIn (KK P) (.ref 152) "__setattr__" = some (some (.builtin "object.__setattr__"))) (hpo : plainOver (KK P) 152 = true) (ht : takerIn (KK P) 152 name = some none) (hh : hasDictIn (KK P) 152 = true)
    (hl : getL name es = some none) (hk : es.any (·.key.isStr name) = false) (hz : es.length ≤ 900) :
    wpAny Γ.M Γ.A (setAttr (.ref x) name v) (fun _ s' => (∃ hsh tk, St { Γ with pins := pinsOf x dx (es ++ [⟨hsh, .str name tk, v⟩]) (n + 1) } ρ mu a s') ∧ Le (vw s.heap (Γ.hids mu a)) (vw s'.heap (Γ.hids mu a))) E s := by
  have hx : s.heap.get? x = some (instObj 152 dx) := hs.pin _ (by rw [hp]; exact List.mem_cons_self ..)
  have hdx : s.heap.get? dx = some (dictOf es n) := hs.pin (dx, dictOf es n) (by rw [hp]; exact List.mem_cons_of_mem _ (List.mem_cons_self ..))
  obtain ⟨px1, px2, px3⟩ := hΓ.pinH (x, instObj 152 dx) (by rw [hp]; exact List.mem_cons_self ..)
  obtain ⟨pd1, pd2, pd3⟩ := hΓ.pinH (dx, dictOf es n) (by rw [hp]; exact List.mem_cons_of_mem _ (List.mem_cons_self ..))
  dsimp only at px1 px2 px3 pd1 pd2 pd3
  obtain ⟨⟨hh0, t0, e0⟩, fl, u0, pn, kp, hid, cls, m, hn, hv, hm⟩ := id hs
  refine setAttr_raw X hx hdx hn pd2 hst hpo ht hh (by rw [hl]; rfl) (by rw [putL_new _ _ _ _ _ hk]; simp; omega) fun h' hns' hd' hkeep => ?_
  rw [putL_new _ _ _ _ _ hk, show putN name es n = n + 1 by unfold putN; rw [hk, if_neg (by decide)]] at hd'
  have cellk : ∀ y c u, Γ.env.cells.lookup y = some c → s.heap.IsCell c u → h'.IsCell c u := fun y c u hc ⟨o, e, r⟩ => ⟨o, hkeep c o (Ne.symm (pd3 y c hc)) (hΓ.cells y c hc).2 e, r⟩
  have look : ∀ y u, Look Γ m s.heap y u → Look Γ m h' y u := fun y u l => by
    cases l with
    | loc h1 h2 => exact .loc h1 h2
    | cell h1 h2 h3 => exact .cell h1 h2 (cellk _ _ _ h2 h3)
  have le : ∀ hs' : List Addr, (∀ b, b ∈ Γ.hid → b ∈ hs') → Le (vw s.heap hs') (vw h' hs') := fun hs' hsub b o e => by
    obtain ⟨e1, e2, e3⟩ := vw_some.mp e
    exact vw_some.mpr ⟨e1, hkeep b o (fun q => e1 (hsub _ (q ▸ pd1))) (fun q => e1 (hsub _ (q ▸ hΓ.hidL))) e2, e3⟩
  refine ⟨⟨PyData.keyHash Γ.w.params name, s.toks + 1, ⟨h', s.toks + 2, by rw [e0]⟩, Nat.le_trans fl (Nat.le_add_right _ _), Nat.le_trans u0 (Nat.le_add_right _ _), fun p hpm => ?_, fun b o e => hkeep b o (fun q => by rw [q, h0] at e; cases e) (fun q => by rw [q, hΓ.newL] at e; cases e) (kp b o e), fun b hb => ?_, fun y c hc => let ⟨u, hu⟩ := cls y c hc; ⟨u, cellk y c u hc hu⟩, m, hns', fun y d hy => ?_, fun y ys hy => ?_⟩, le _ fun b hb => hids_hid hb⟩
  · rcases List.mem_cons.mp hpm with rfl | hpm
    · exact hkeep x _ hxd px2 hx
    · rw [List.mem_singleton.mp hpm]; exact hd'
  · by_cases q : b = dx
    · exact ⟨_, q ▸ hd'⟩
    · by_cases q' : b = Γ.env.locals
      · obtain ⟨o, _, _, e, _⟩ := hns'
        exact ⟨o, q' ▸ e⟩
      · obtain ⟨o, e⟩ := hid b hb
        exact ⟨o, hkeep b o q q' e⟩
  · obtain ⟨u, l, r⟩ := hv y d hy
    have l' := look y u l
    refine ⟨u, ?_, r.mono (le _ fun b hb => hids_hid hb)⟩
    cases l' with
    | loc h1 h2 => exact .loc h1 h2
    | cell h1 h2 h3 => exact .cell h1 h2 h3
  · obtain ⟨l, o1, n1, vs, n0, e, e4⟩ := hm y ys hy
    have l' := look _ _ l
    refine ⟨?_, o1, n1, vs, n0, hkeep a _ (fun q => o1 (q ▸ pd1)) (fun q => o1 (q ▸ hΓ.hidL)) e, e4.mono (le _ fun b hb => List.mem_cons_of_mem _ hb)⟩
    cases l' with
    | loc h1 h2 => exact .loc h1 h2
    | cell h1 h2 h3 => exact .cell h1 h2 h3
end
end Mine
end -- W4
section -- W5
set_option maxRecDepth 100000
namespace Mine
structure WS where
  n : Nat
  nt : Nat
  b : Nat
  cnt : List Nat
noncomputable def pad (cnt : List Nat) (b : Nat) : List Nat := if b ≥ cnt.length then cnt ++ List.replicate (b - cnt.length + 1) 0 else cnt
noncomputable def WS.step (st : WS) (c : Nat) : WS := if c = 32 then ⟨st.n + 1, st.nt, st.b + 1, st.cnt⟩ else ⟨st.n + 1, st.nt + 1, 0, (pad st.cnt st.b).set st.b ((pad st.cnt st.b).getD st.b 0 + 1)⟩
noncomputable def wsOf (l : List Nat) : WS := l.foldl WS.step ⟨0, 0, 0, []⟩
noncomputable def wdOf (x : Str) : Wd := ⟨x, (wsOf x.cps.toList).n, (wsOf x.cps.toList).nt, (wsOf x.cps.toList).cnt.map fun (i : Nat) => (i : Int), (wsOf x.cps.toList).b⟩
theorem pad_length (cnt : List Nat) (b : Nat) : (pad cnt b).length = max cnt.length (b + 1) := by
  unfold pad
  split
  · simp; omega
  · omega
noncomputable def padOf : Option Stmt → Stmt
  | some (Stmt.For _ _ [Stmt.If _ _ [Stmt.If _ (_ :: _ :: s :: _) _ _] _] _ _) => s
  | _ => .Pass default
noncomputable def padStmt : FuncBody → Stmt
  | .stmts l => padOf l[4]?
  | _ => .Pass default
noncomputable def iniEnv (s : Shared) : Env := callEnvC fd107.1 (s.heap.objs.size + 2) 107
noncomputable def Fx.ini (prog : Program) (w : World) (A : Around) (C : Heap → Prop) (k : Nat) (hs : List Addr) (s : Shared) (es : List DictEntry) (n : Nat) : Fx :=
  { prog, w, A := A.deeper (iniEnv s), env := iniEnv s, hid := (s.heap.objs.size + 2) :: s.heap.objs.size :: (s.heap.objs.size + 1) :: hs, s₀ := s, C, k, pins := pinsOf (s.heap.objs.size + 1) s.heap.objs.size es n }
section
variable {prog : Program} {w : World} {P : Params} {mg mb : Str → Option Value} {k : Nat} {A : Around} {hs : List Addr} {s : Shared} {es : List DictEntry} {n : Nat}
theorem none_above {s : Shared} {j : Nat} : s.heap.get? (s.heap.objs.size + j) = none := by
  cases e : s.heap.get? (s.heap.objs.size + j) with
  | none => rfl
  | some o => exact absurd (Heap.lt_size e) (Nat.not_lt.mpr (Nat.le_add_right _ _))
theorem ini_ok (R : Rm A (k + 1)) (h5 : 5 ≤ k) (hC : Cx P mg mb s.heap) : (Fx.ini prog w A (Cx P mg mb) k hs s es n).Ok where
  kind := rfl
  handled := R.handled
  depth := by have := R.depth; show A.depth + 1 + k < _; omega
  units := by have := R.units; show A.units + 3 + 10 * k < _; omega
  room := h5
  nodbg := ⟨rfl, rfl⟩
  glob := rfl
  bns := rfl
  ctx := hC
  mono := fun h h' c k => c.mono k
  hidL := List.mem_cons_self ..
  newL := none_above
  cells := fun x c h => by cases h
  apart := fun x y c h => by cases h
  pinH := fun p hp => by
    have h1 : s.heap.objs.size + 1 ≠ s.heap.objs.size + 2 := by intro q; exact absurd (Nat.add_left_cancel q) (by decide)
    have h2 : s.heap.objs.size ≠ s.heap.objs.size + 2 := by intro q; exact absurd (Nat.left_eq_add.mp q) (by decide)
    rcases List.mem_cons.mp hp with rfl | hp
    · exact ⟨List.mem_cons_of_mem _ (List.mem_cons_of_mem _ (List.mem_cons_self ..)), h1, fun x c h => by cases h⟩
    · rw [List.mem_singleton.mp hp]
      exact ⟨List.mem_cons_of_mem _ (List.mem_cons_self ..), h2, fun x c h => by cases h⟩
theorem own_ini {x : Str} (h : fd107.1.scope.names.lookup x = some .local) : Own (Fx.ini prog w A (Cx P mg mb) k hs s es n) x := .inl h

theorem ini_loop (hΓ : (Fx.ini prog w A (Cx P mg mb) k hs s es n).Ok) : ∀ (l : List Nat) (ρ : Loc) (st : WS), (∀ c ∈ l, c = 32 ∨ c = 9) → st.b + l.length ≤ 1000 → st.cnt.length ≤ 1001 → ρ (Str.ofString "S") = some (.str " ") → ρ (Str.ofString "T") = some (.str "\t") →
    ρ (Str.ofString "b") = some (.int st.b) → ρ (Str.ofString "n") = some (.int st.n) → ρ (Str.ofString "nt") = some (.int st.nt) →
    ∃ ρ', ρ' (Str.ofString "b") = some (.int (l.foldl WS.step st).b) ∧ ρ' (Str.ofString "n") = some (.int (l.foldl WS.step st).n) ∧ ρ' (Str.ofString "nt") = some (.int (l.foldl WS.step st).nt) ∧ ρ' (Str.ofString "self") = ρ (Str.ofString "self") ∧
      Loop (Fx.ini prog w A (Cx P mg mb) k hs s es n) (Str.ofString "ch") (forBody fd107.1.body 4) ρ (some (Str.ofString "count", iints st.cnt)) (l.map fun c => .str ⟨#[c]⟩) (.next ρ' (some (Str.ofString "count", iints (l.foldl WS.step st).cnt))) := fun l => by
  induction l with
  | nil => intro ρ st _ _ _ g1 g2 g3 g4 g5; exact ⟨ρ, g3, g4, g5, rfl, .done⟩
  | cons c l ih =>
    intro ρ st hc hb hcl g1 g2 g3 g4 g5
    rw [List.length_cons] at hb
    have hc' := fun d hd => hc d (List.mem_cons_of_mem _ hd)
    have f1 : (up ρ (Str.ofString "ch") (.str ⟨#[c]⟩)) (Str.ofString "S") = some (.str " ") := by rw [up_ne _ _ (by decide)]; exact g1
    have f2 : (up ρ (Str.ofString "ch") (.str ⟨#[c]⟩)) (Str.ofString "T") = some (.str "\t") := by rw [up_ne _ _ (by decide)]; exact g2
    have f3 : (up ρ (Str.ofString "ch") (.str ⟨#[c]⟩)) (Str.ofString "b") = some (.int st.b) := by rw [up_ne _ _ (by decide)]; exact g3
    have f4 : (up ρ (Str.ofString "ch") (.str ⟨#[c]⟩)) (Str.ofString "n") = some (.int st.n) := by rw [up_ne _ _ (by decide)]; exact g4
    have f5 : (up ρ (Str.ofString "ch") (.str ⟨#[c]⟩)) (Str.ofString "nt") = some (.int st.nt) := by rw [up_ne _ _ (by decide)]; exact g5
    rcases hc c (List.mem_cons_self ..) with rfl | rfl
    · obtain ⟨ρ', q1, q2, q3, q4, q5⟩ := ih (up (up (up ρ (Str.ofString "ch") (.str ⟨#[32]⟩)) (Str.ofString "n") (.int ((st.n : Int) + 1))) (Str.ofString "b") (.int ((st.b : Int) + 1))) (st.step 32) hc' (by show st.b + 1 + l.length ≤ _; omega) hcl
        (by rw [up_ne _ _ (by decide), up_ne _ _ (by decide)]; exact f1) (by rw [up_ne _ _ (by decide), up_ne _ _ (by decide)]; exact f2) (by rw [up_same]; rfl) (by rw [up_ne _ _ (by decide), up_same]; rfl) (by rw [up_ne _ _ (by decide), up_ne _ _ (by decide)]; exact f5)
      refine ⟨ρ', q1, q2, q3, q4.trans (by rw [up_ne _ _ (by decide), up_ne _ _ (by decide), up_ne _ _ (by decide)]), .step (mu_ne rfl) (SX.one (S1.ifs (b := true) (ET.cast (ET.cmp hΓ (EV.name hΓ (up_same _ _ _)) (EV.name hΓ f1) C2.eq_str rfl) (by decide +kernel)) (fun _ =>
        SX.cons (S1.asg hΓ (EV.bin hΓ (EV.name hΓ f4) EV.int B2.add_int) (own_ini rfl) (mu_ne rfl) rfl) (SX.one (S1.asg hΓ (EV.bin hΓ (EV.name hΓ (by rw [up_ne _ _ (by decide)]; exact f3)) EV.int B2.add_int) (own_ini rfl) (mu_ne rfl) rfl))) (by intro q; cases q))) q5⟩
    · have hpl := pad_length st.cnt st.b
      obtain ⟨ρ2, r1, r2, r3, r4, r5, r6, r7⟩ : ∃ ρ2 : Loc, ρ2 (Str.ofString "S") = some (.str " ") ∧ ρ2 (Str.ofString "T") = some (.str "\t") ∧ ρ2 (Str.ofString "b") = some (.int st.b) ∧ ρ2 (Str.ofString "n") = some (.int ((st.n : Int) + 1)) ∧ ρ2 (Str.ofString "nt") = some (.int ((st.nt : Int) + 1)) ∧ ρ2 (Str.ofString "self") = ρ (Str.ofString "self") ∧
          S1 (Fx.ini prog w A (Cx P mg mb) k hs s es n) (up (up (up ρ (Str.ofString "ch") (.str ⟨#[9]⟩)) (Str.ofString "n") (.int ((st.n : Int) + 1))) (Str.ofString "nt") (.int ((st.nt : Int) + 1))) (some (Str.ofString "count", iints st.cnt)) (padStmt fd107.1.body) (.next ρ2 (some (Str.ofString "count", iints (pad st.cnt st.b)))) := by
        have d1 : (up (up (up ρ (Str.ofString "ch") (.str ⟨#[9]⟩)) (Str.ofString "n") (.int ((st.n : Int) + 1))) (Str.ofString "nt") (.int ((st.nt : Int) + 1))) (Str.ofString "b") = some (.int st.b) := by rw [up_ne _ _ (by decide), up_ne _ _ (by decide)]; exact f3
        have d2 : (up (up (up ρ (Str.ofString "ch") (.str ⟨#[9]⟩)) (Str.ofString "n") (.int ((st.n : Int) + 1))) (Str.ofString "nt") (.int ((st.nt : Int) + 1))) (Str.ofString "S") = some (.str " ") := by rw [up_ne _ _ (by decide), up_ne _ _ (by decide)]; exact f1
        have d3 : (up (up (up ρ (Str.ofString "ch") (.str ⟨#[9]⟩)) (Str.ofString "n") (.int ((st.n : Int) + 1))) (Str.ofString "nt") (.int ((st.nt : Int) + 1))) (Str.ofString "T") = some (.str "\t") := by rw [up_ne _ _ (by decide), up_ne _ _ (by decide)]; exact f2
        have d4 : (up (up (up ρ (Str.ofString "ch") (.str ⟨#[9]⟩)) (Str.ofString "n") (.int ((st.n : Int) + 1))) (Str.ofString "nt") (.int ((st.nt : Int) + 1))) (Str.ofString "n") = some (.int ((st.n : Int) + 1)) := by rw [up_ne _ _ (by decide), up_same]
        have d5 : (up (up (up ρ (Str.ofString "ch") (.str ⟨#[9]⟩)) (Str.ofString "n") (.int ((st.n : Int) + 1))) (Str.ofString "nt") (.int ((st.nt : Int) + 1))) (Str.ofString "self") = ρ (Str.ofString "self") := by rw [up_ne _ _ (by decide), up_ne _ _ (by decide), up_ne _ _ (by decide)]
        have elen : PV.int ((iints st.cnt).length : Int) = PV.int (st.cnt.length : Int) := by simp [iints]
        by_cases hp : st.b ≥ st.cnt.length
        · refine ⟨del (up (up (up (up ρ (Str.ofString "ch") (.str ⟨#[9]⟩)) (Str.ofString "n") (.int ((st.n : Int) + 1))) (Str.ofString "nt") (.int ((st.nt : Int) + 1))) (Str.ofString "count") (.list (iints st.cnt))) (Str.ofString "count"), ?_, ?_, ?_, ?_, ?_, ?_, ?_⟩
          · rw [del_ne _ (by decide), up_ne _ _ (by decide)]; exact d2
          · rw [del_ne _ (by decide), up_ne _ _ (by decide)]; exact d3
          · rw [del_ne _ (by decide), up_ne _ _ (by decide)]; exact d1
          · rw [del_ne _ (by decide), up_ne _ _ (by decide)]; exact d4
          · rw [del_ne _ (by decide), up_ne _ _ (by decide)]; exact up_same _ _ _
          · rw [del_ne _ (by decide), up_ne _ _ (by decide)]; exact d5
          · have e1 : iints (pad st.cnt st.b) = iints st.cnt ++ (List.replicate (st.b - st.cnt.length + 1) [PV.int 0]).flatten := by
              unfold pad
              rw [if_pos hp]
              simp [iints]
            have e2 : PV.int ((st.b : Int) - (st.cnt.length : Int) + 1) = PV.int ((st.b - st.cnt.length + 1 : Nat) : Int) := congrArg PV.int (by omega)
            rw [e1]
            exact S1.ifs (b := true) (ET.frozen (ET.cast (ET.cmp hΓ (EV.name hΓ (by rw [up_ne _ _ (by decide)]; exact d1)) (EV.cast (EV.call hΓ (EV1.glob hΓ gb_len rfl) .builtin (.cons (EV.name hΓ (up_same _ _ _)) rfl .nil) (c_len_list (k := 5) (by simp [iints]; omega)) hΓ.room (Nat.le_refl _) rfl) elen) C2.ge_int rfl) (decide_eq_true (by omega))))
              (fun _ => SX.one (S1.freeze (S1.asg_mu hΓ (EF.add hΓ (EV.name hΓ (up_same _ _ _)) (EV.bin hΓ (EV.list hΓ (.cons EV.int rfl .nil) (by decide)) (EV.cast (EV.bin hΓ (EV.bin hΓ (EV.name hΓ (by rw [up_ne _ _ (by decide)]; exact d1)) (EV.cast (EV.call hΓ (EV1.glob hΓ gb_len rfl) .builtin (.cons (EV.name hΓ (up_same _ _ _)) rfl .nil) (c_len_list (k := 5) (by simp [iints]; omega)) hΓ.room (Nat.le_refl _) rfl) elen) B2.sub_int) EV.int B2.add_int) e2) (B2.mul_list (by decide) (by omega))) (by simp [iints]; unfold sizeLine; omega)) rfl rfl))) (by intro q; cases q)
        · refine ⟨_, d2, d3, d1, d4, up_same _ _ _, d5, ?_⟩
          have e1 : pad st.cnt st.b = st.cnt := if_neg hp
          rw [e1]
          exact S1.ifs (b := false) (ET.frozen (ET.cast (ET.cmp hΓ (EV.name hΓ (by rw [up_ne _ _ (by decide)]; exact d1)) (EV.cast (EV.call hΓ (EV1.glob hΓ gb_len rfl) .builtin (.cons (EV.name hΓ (up_same _ _ _)) rfl .nil) (c_len_list (k := 5) (by simp [iints]; omega)) hΓ.room (Nat.le_refl _) rfl) elen) C2.ge_int rfl) (decide_eq_false (by omega)))) (by intro q; cases q) fun _ => SX.nil
      obtain ⟨ρ', q1, q2, q3, q4, q5⟩ := ih (up ρ2 (Str.ofString "b") (.int 0)) (st.step 9) hc' (by show 0 + l.length ≤ _; omega) (by show ((pad st.cnt st.b).set _ _).length ≤ _; rw [List.length_set, hpl]; omega)
        (by rw [up_ne _ _ (by decide)]; exact r1) (by rw [up_ne _ _ (by decide)]; exact r2) (up_same _ _ _) (by rw [up_ne _ _ (by decide)]; exact r4) (by rw [up_ne _ _ (by decide)]; exact r5)
      refine ⟨ρ', q1, q2, q3, q4.trans (by rw [up_ne _ _ (by decide)]; exact r6), .step (mu_ne rfl) (SX.one (S1.ifs (b := false) (ET.cast (ET.cmp hΓ (EV.name hΓ (up_same _ _ _)) (EV.name hΓ f1) C2.eq_str rfl) (by decide +kernel)) (by intro q; cases q) fun _ =>
        SX.one (S1.ifs (b := true) (ET.cast (ET.cmp hΓ (EV.name hΓ (up_same _ _ _)) (EV.name hΓ f2) C2.eq_str rfl) (by decide +kernel)) (fun _ => SX.cons (S1.asg hΓ (EV.bin hΓ (EV.name hΓ f4) EV.int B2.add_int) (own_ini rfl) (mu_ne rfl) rfl)
          (SX.cons (S1.asg hΓ (EV.bin hΓ (EV.name hΓ (by rw [up_ne _ _ (by decide)]; exact f5)) EV.int B2.add_int) (own_ini rfl) (mu_ne rfl) rfl) (SX.cons r7 ?_))) (by intro q; cases q)))) q5⟩
      have hb2 : st.b < (pad st.cnt st.b).length := by rw [hpl]; omega
      have e5 : (iints (pad st.cnt st.b))[((st.b : Int)).toNat]? = some (.int ((pad st.cnt st.b).getD st.b 0 : Nat)) := by
        rw [Int.toNat_natCast]; simp [iints, hb2]
      have e6 : (iints (pad st.cnt st.b)).set ((st.b : Int)).toNat (.int (((pad st.cnt st.b).getD st.b 0 : Nat) + 1)) = iints ((pad st.cnt st.b).set st.b ((pad st.cnt st.b).getD st.b 0 + 1)) := by
        rw [Int.toNat_natCast]; unfold iints; rw [List.map_set]; rfl
      refine SX.cons (S1.setmu hΓ (EV.frozen (EV.bin hΓ (EV.sub hΓ (EV.name hΓ (up_same _ _ _)) (EV.name hΓ (by rw [up_ne _ _ (by decide)]; exact r3)) (GI.list (by omega) (by omega) e5) (fun _ _ => rfl)) EV.int B2.add_int) rfl) (EV.name hΓ r3) (by omega) (by rw [Int.toNat_natCast]; simpa [iints] using hb2) (by simp [iints]; omega) rfl) ?_
      rw [e6]
      exact SX.one (S1.asg hΓ EV.int (own_ini rfl) (mu_ne rfl) rfl)
end
end Mine
end -- W5
section -- W6
set_option maxRecDepth 100000
namespace Mine
section
variable {Γ : Fx} {ρ : Loc} {mu : Mu} {F : Flow → Shared → Prop} {P : Params}
theorem EV.pinattr (hΓ : Γ.Ok) (hX : ∀ h, Γ.C h → (KK P).In h) {o name pos x dx es n v d} (hself : EV Γ ρ mu o (.val (.ref x))) (hp : Γ.pins = pinsOf x dx es n) (hg : plainGet (KK P) 152 name = true) (hh : hasDictIn (KK P) 152 = true)
    (ha : findIn (KK P) (.ref 152) name = some Option.none) (hl : getL name es = some (some v)) (hv : handedIn v = true) (hd : ∀ G, Rep G d v) (he : eval (.Attribute o name pos) Γ.env = (do
      let v ← eval o Γ.env
      standAt pos.atName
      let r ← holding [v] (getAttr v name true)
      letTemporaryGo o v r
      pure r)) (ht : ∀ v r, letTemporaryGo o v r = pure ()) : EV Γ ρ mu (.Attribute o name pos) d := fun a s E hs => by
  rw [he]
  refine wpAny_bind (wpAny_mono (hself a s E hs) (fun v' s1 h1 => ?_) fun _ _ e => e)
  obtain ⟨k1, r1⟩ := h1
  cases r1
  have hs1 := hs.kept k1
  have hx : s1.heap.get? x = some (instObj 152 dx) := hs1.pin _ (by rw [hp]; exact List.mem_cons_self ..)
  have hdx : s1.heap.get? dx = some (dictOf es n) := hs1.pin (dx, dictOf es n) (by rw [hp]; exact List.mem_cons_of_mem _ (List.mem_cons_self ..))
  have I : InstAt s1.heap x (instObj 152 dx) 152 (some (dictOf es n)) := ⟨hx, rfl, rfl, hdx⟩
  refine wpAny_bind (wpAny_standAt (wpAny_bind (wpAny_holding (get_value (hX _ (hs1.ctx hΓ)) I (plainGet_of hg).1 (findObj_own hh ha rfl hl) hv ?_))))
  rw [ht]
  exact wpAny_bind (wpAny_pure (wpAny_pure ⟨k1.trans (Kp.tok s1 _), hd _⟩))
/-- self.name = value, of plain data -/
theorem SXE.setattr (hΓ : Γ.Ok) (hX : ∀ h, Γ.C h → (KK P).In h) {p1 p2 value pos name ss x dx es n d} (hv : EV Γ ρ mu value d) (hd : flat d = true) (hself : ρ (Str.ofString "self") = some (.val (.ref x))) (hp : Γ.pins = pinsOf x dx es n) (hxd : x ≠ dx) (h0 : Γ.s₀.heap.get? dx = none)
    (hst : findIn (KK P) (.ref 152) "__setattr__" = some (some (.builtin "object.__setattr__"))) (hpo : plainOver (KK P) 152 = true) (ht : takerIn (KK P) 152 name = some none) (hh : hasDictIn (KK P) 152 = true)
    (hl : getL name es = some none) (hk : es.any (·.key.isStr name) = false) (hz : es.length ≤ 900) (hsw : swapsWith value (some (.Attribute (.Name (Str.ofString "self") p1) name p2)) pos.line Γ.env = pure false)
    (next : ∀ v hsh tk, (∀ G, Rep G d v) → SXE { Γ with pins := pinsOf x dx (es ++ [⟨hsh, .str name tk, v⟩]) (n + 1) } ρ mu ss F) : SXE Γ ρ mu (.Assign [.Attribute (.Name (Str.ofString "self") p1) name p2] value pos :: ss) F := fun a s E hs => by
  refine wpAny_execs_cons (plainObj_wpAny_Assign_Attribute (wpAny_mono (hv a s E hs) (fun v s1 h1 => ?_) fun _ _ e => e) hsw)
  have hs1 := hs.kept h1.1
  refine wpAny_mono (EV.name hΓ hself a s1 E hs1) (fun ov s2 h2 => ?_) fun _ _ e => e
  obtain ⟨k2, r2⟩ := h2
  cases r2
  have hs2 := hs1.kept k2
  refine wpAny_mono (hs2.setattr (P := P) hΓ (hX _ (hs2.ctx hΓ)) hp hxd h0 hst hpo ht hh hl hk hz) (fun _ s3 h3 => ?_) fun _ _ e => e
  obtain ⟨⟨hsh, tk, st⟩, _⟩ := h3
  exact next v hsh tk (fun G => h1.2.flat hd) a s3 E st
end
section
variable {prog : Program} {w : World} {P : Params} {mg mb : Str → Option Value} {k : Nat} {A : Around} {hs : List Addr} {s : Shared}
theorem ga_S : GA prog w (Cx P mg mb) (.val (.ref 152)) (Str.ofString "S") (.str " ") := GA.cls (K := KK P) (mc := .type "type") (fun h c => c.k) rfl rfl rfl fun _ => .str
theorem ga_T : GA prog w (Cx P mg mb) (.val (.ref 152)) (Str.ofString "T") (.str "\t") := GA.cls (K := KK P) (mc := .type "type") (fun h c => c.k) rfl rfl rfl fun _ => .str
noncomputable def InitEnd (s : Shared) (hs : List Addr) (x : Str) (f : Flow) (s' : Shared) : Prop := f = .next ∧ Kp s s' ∧ Rep (vw s'.heap hs) (wdOf x).pv (.ref (s.heap.objs.size + 1))
theorem ini_body (hl : Live hs s) {x : Str} (hx : x.length ≤ 900) (hc : ∀ c ∈ x.cps.toList, c = 32 ∨ c = 9) {ρ : Loc} (hself : ρ (Str.ofString "self") = some (.val (.ref (s.heap.objs.size + 1)))) (hws : ρ (Str.ofString "ws") = some (.str x))
    (ok : ∀ es n, (Fx.ini prog w A (Cx P mg mb) k hs s es n).Ok) : SXE (Fx.ini prog w A (Cx P mg mb) k hs s [] 0) ρ none (match fd107.1.body with | .stmts l => l | _ => []) (InitEnd s hs x) := by
  have hxd : s.heap.objs.size + 1 ≠ s.heap.objs.size := Nat.succ_ne_self _
  have hd0 : s.heap.get? s.heap.objs.size = none := size_none s
  refine SXE.setattr (P := P) (ok _ _) (fun h c => c.k) (EV.name (ok _ _) hws) rfl hself rfl hxd hd0 rfl rfl rfl rfl rfl rfl (by decide) rfl fun v1 h1 t1 r1 => ?_
  show SXE (Fx.ini prog w A (Cx P mg mb) k hs s [⟨h1, .str "raw" t1, v1⟩] 1) ρ none _ _
  refine SXE.cons (S1.swap (ok _ _) (EV.tup (ok _ _) (.cons (EV.attr (ok _ _) (EV.of1 (EV1.glob (ok _ _) gl152 rfl)) ga_S rfl (fun _ _ => rfl)) rfl (.cons (EV.attr (ok _ _) (EV.of1 (EV1.glob (ok _ _) gl152 rfl)) ga_T rfl (fun _ _ => rfl)) rfl .nil)) (by decide)) (own_ini rfl) (own_ini rfl) no_mu no_mu rfl rfl) ?_
  refine SXE.cons (S1.asg_mu (ok _ _) (EF.list (ok _ _) .nil (by decide)) rfl rfl) ?_
  refine SXE.cons (S1.three (ok _ _) EV.int (own_ini rfl) (own_ini rfl) (own_ini rfl) (mu_ne rfl) (mu_ne rfl) (mu_ne rfl) rfl rfl) ?_
  generalize hρ : up (up (up (del (up (up ρ (Str.ofString "T") (.str "\t")) (Str.ofString "S") (.str " ")) (Str.ofString "count")) (Str.ofString "b") (.int 0)) (Str.ofString "n") (.int 0)) (Str.ofString "nt") (.int 0) = ρ1
  have a1 : ρ1 (Str.ofString "S") = some (.str " ") := by subst hρ; rfl
  have a2 : ρ1 (Str.ofString "T") = some (.str "\t") := by subst hρ; rfl
  have a3 : ρ1 (Str.ofString "b") = some (.int ((0 : Nat) : Int)) := by subst hρ; rfl
  have a4 : ρ1 (Str.ofString "n") = some (.int ((0 : Nat) : Int)) := by subst hρ; rfl
  have a5 : ρ1 (Str.ofString "nt") = some (.int ((0 : Nat) : Int)) := by subst hρ; rfl
  have a6 : ρ1 (Str.ofString "self") = some (.val (.ref (s.heap.objs.size + 1))) := by
    subst hρ
    rw [up_ne _ _ (by decide), up_ne _ _ (by decide), up_ne _ _ (by decide), del_ne _ (by decide), up_ne _ _ (by decide), up_ne _ _ (by decide)]
    exact hself
  have hxl : x.cps.toList.length = x.length := by simp [Str.length]
  obtain ⟨ρ2, b1, b2, b3, b4, b5⟩ := ini_loop (ok [⟨h1, .str "raw" t1, v1⟩] 1) x.cps.toList ρ1 ⟨0, 0, 0, []⟩ hc (by show 0 + _ ≤ _; omega) (Nat.zero_le _) a1 a2 a3 a4 a5
  have b6 : ρ2 (Str.ofString "self") = some (.val (.ref (s.heap.objs.size + 1))) := b4.trans a6
  obtain ⟨tx, hv1⟩ := (r1 (vw s.heap [])).str_inv
  refine SXE.cons (S1.for_ (ok _ _) (IT.str (ok _ _) (x := x) (EV.pinattr (P := P) (ok _ _) (fun h c => c.k) (EV.name (ok _ _) a6) rfl rfl rfl rfl rfl (by rw [hv1]; rfl) r1 rfl (fun _ _ => rfl))) (own_ini rfl) b5 fun _ => rfl) ?_
  refine SXE.setattr (P := P) (ok _ _) (fun h c => c.k) (EV.name (ok _ _) b2) rfl b6 rfl hxd hd0 rfl rfl rfl rfl rfl rfl (by simp) rfl fun v2 h2 t2 r2 => ?_
  show SXE (Fx.ini prog w A (Cx P mg mb) k hs s [⟨h1, .str "raw" t1, v1⟩, ⟨h2, .str "n" t2, v2⟩] 2) ρ2 _ _ _
  refine SXE.setattr (P := P) (ok _ _) (fun h c => c.k) (EV.name (ok _ _) b3) rfl b6 rfl hxd hd0 rfl rfl rfl rfl rfl rfl (by simp) rfl fun v3 h3 t3 r3 => ?_
  show SXE (Fx.ini prog w A (Cx P mg mb) k hs s [⟨h1, .str "raw" t1, v1⟩, ⟨h2, .str "n" t2, v2⟩, ⟨h3, .str "nt" t3, v3⟩] 3) ρ2 _ _ _
  refine SXE.freeze ?_
  intro a s' E hst
  have hbnd : (wsOf x.cps.toList).cnt.length ≤ 1001 := by
    have : ∀ (l : List Nat) (st : WS), st.b + l.length ≤ 1000 → st.cnt.length ≤ 1001 → (l.foldl WS.step st).cnt.length ≤ 1001 := fun l => by
      induction l with
      | nil => intro st _ h; exact h
      | cons c l ih =>
        intro st hb hcl
        rw [List.length_cons] at hb
        rw [List.foldl_cons]
        unfold WS.step
        split
        · exact ih _ (by show st.b + 1 + l.length ≤ _; omega) hcl
        · exact ih _ (by show 0 + l.length ≤ _; omega) (by show ((pad st.cnt st.b).set _ _).length ≤ _; rw [List.length_set, pad_length]; omega)
    exact this _ _ (by show 0 + _ ≤ _; omega) (Nat.zero_le _)
  have hnorm : (PV.tup [.tup (iints (wsOf x.cps.toList).cnt), .int ((wsOf x.cps.toList).b : Int)]) = PV.tup [.tup (zints (wdOf x).cnt), .int (wdOf x).b] := by rw [iints_int]; rfl
  have c6 : (up ρ2 (Str.ofString "count") (.list (iints (wsOf x.cps.toList).cnt))) (Str.ofString "self") = some (.val (.ref (s.heap.objs.size + 1))) := by rw [up_ne _ _ (by decide)]; exact b6
  have c1 : (up ρ2 (Str.ofString "count") (.list (iints (wsOf x.cps.toList).cnt))) (Str.ofString "b") = some (.int ((wsOf x.cps.toList).b : Int)) := by rw [up_ne _ _ (by decide)]; exact b1
  -- norm
  refine wpAny_execs_cons (plainObj_wpAny_Assign_Attribute (wpAny_mono (EV.tup (ok _ _) (.cons (EV.call (ok _ _) (EV1.glob (ok _ _) gb_tuple rfl) .type (.cons (EV.name (ok _ _) (up_same _ _ _)) rfl .nil) (c_tuple_list (k := 5) (xs := iints (wsOf x.cps.toList).cnt) (by simp [iints]; unfold sizeLine; omega)) (ok _ _).room (Nat.le_refl _) rfl) rfl (.cons (EV.name (ok _ _) c1) rfl .nil)) (show 2 ≤ sizeLine by decide) a s' E hst) (fun v4 s1 q1 => ?_) fun _ _ e => e) rfl)
  obtain ⟨k1, r4⟩ := q1
  have hst1 := hst.kept k1
  refine wpAny_mono (EV.name (ok _ _) c6 a s1 E hst1) (fun ov s2 q2 => ?_) fun _ _ e => e
  obtain ⟨k2, ro⟩ := q2
  cases ro
  have hst2 := hst1.kept k2
  have r4 := r4.mono (k2.le _)
  refine wpAny_mono (hst2.setattr (P := P) (ok _ _) (hst2.ctx (ok _ _)).k rfl hxd hd0 rfl rfl rfl rfl rfl rfl (by simp)) (fun _ s3 q3 => ?_) fun _ _ e => e
  obtain ⟨⟨h4, t4, st4⟩, le4⟩ := q3
  have r4 := r4.mono le4
  have st4 : St (Fx.ini prog w A (Cx P mg mb) k hs s [⟨h1, .str "raw" t1, v1⟩, ⟨h2, .str "n" t2, v2⟩, ⟨h3, .str "nt" t3, v3⟩, ⟨h4, .str "norm" t4, v4⟩] 4) _ none a s3 := st4
  have ok4 := ok [⟨h1, .str "raw" t1, v1⟩, ⟨h2, .str "n" t2, v2⟩, ⟨h3, .str "nt" t3, v3⟩, ⟨h4, .str "norm" t4, v4⟩] 4
  show wpAny (Fx.ini prog w A (Cx P mg mb) k hs s [⟨h1, .str "raw" t1, v1⟩, ⟨h2, .str "n" t2, v2⟩, ⟨h3, .str "nt" t3, v3⟩, ⟨h4, .str "norm" t4, v4⟩] 4).M (Fx.ini prog w A (Cx P mg mb) k hs s [⟨h1, .str "raw" t1, v1⟩, ⟨h2, .str "n" t2, v2⟩, ⟨h3, .str "nt" t3, v3⟩, ⟨h4, .str "norm" t4, v4⟩] 4).A (execs _ (Fx.ini prog w A (Cx P mg mb) k hs s [⟨h1, .str "raw" t1, v1⟩, ⟨h2, .str "n" t2, v2⟩, ⟨h3, .str "nt" t3, v3⟩, ⟨h4, .str "norm" t4, v4⟩] 4).env) _ _ _
  -- is_simple
  refine wpAny_execs_cons (plainObj_wpAny_Assign_Attribute (wpAny_mono (EV.cmp ok4 (EV.call ok4 (EV1.glob ok4 gb_len rfl) .builtin (.cons (EV.name ok4 (up_same _ _ _)) rfl .nil) (c_len_list (k := 5) (xs := iints (wsOf x.cps.toList).cnt) (by simp [iints]; omega)) ok4.room (Nat.le_refl _) rfl) EV.int C2.le_int rfl a s3 E st4) (fun v5 s4 q4 => ?_) fun _ _ e => e) rfl)
  obtain ⟨k4, r5⟩ := q4
  have st5 := st4.kept k4
  refine wpAny_mono (EV.name ok4 c6 a s4 E st5) (fun ov s5 q5 => ?_) fun _ _ e => e
  obtain ⟨k5, ro⟩ := q5
  cases ro
  have st6 := st5.kept k5
  have r4 := (r4.mono (k4.le _)).mono (k5.le _)
  have r5 := r5.mono (k5.le _)
  refine wpAny_mono (st6.setattr (P := P) ok4 (st6.ctx ok4).k rfl hxd hd0 rfl rfl rfl rfl rfl rfl (by simp)) (fun _ s6 q6 => ?_) fun _ _ e => e
  obtain ⟨⟨h5, t5, st7⟩, le7⟩ := q6
  have r4 := r4.mono le7
  have r5 := r5.mono le7
  have st7 : St (Fx.ini prog w A (Cx P mg mb) k hs s [⟨h1, .str "raw" t1, v1⟩, ⟨h2, .str "n" t2, v2⟩, ⟨h3, .str "nt" t3, v3⟩, ⟨h4, .str "norm" t4, v4⟩, ⟨h5, .str "is_simple" t5, v5⟩] 5) _ none a s6 := st7
  refine wpAny_execs_nil ⟨rfl, ⟨st7.keep, st7.same, st7.late⟩, ?_⟩
  have less : Le (vw s6.heap ((Fx.ini prog w A (Cx P mg mb) k hs s [⟨h1, .str "raw" t1, v1⟩, ⟨h2, .str "n" t2, v2⟩, ⟨h3, .str "nt" t3, v3⟩, ⟨h4, .str "norm" t4, v4⟩] 4).hids none a)) (vw s6.heap hs) := vw_more fun b hb => List.mem_cons_of_mem _ (List.mem_cons_of_mem _ (List.mem_cons_of_mem _ hb))
  have n1 : s.heap.objs.size + 1 ∉ hs := fun q => by obtain ⟨o, e⟩ := hl _ q; rw [none_above (j := 1)] at e; cases e
  have n2 : s.heap.objs.size ∉ hs := fun q => by obtain ⟨o, e⟩ := hl _ q; rw [hd0] at e; cases e
  have pn := st7.pin
  refine .inst (dx := s.heap.objs.size) (vw_some.mpr ⟨n1, pn _ (List.mem_cons_self ..), rfl⟩) (vw_some.mpr ⟨n2, pn (s.heap.objs.size, _) (List.mem_cons_of_mem _ (List.mem_cons_self ..)), rfl⟩) hxd ?_
  refine .cons (r1 _) (.cons (r2 _) (.cons (r3 _) (.cons (hnorm ▸ r4.mono less) (.cons ?_ .nil))))
  have e5 : (decide (((iints (wsOf x.cps.toList).cnt).length : Int) ≤ 1)) = decide ((wdOf x).cnt.length ≤ 1) := by
    have : (iints (wsOf x.cps.toList).cnt).length = (wdOf x).cnt.length := by simp [iints, wdOf]
    rw [this]
    by_cases h : (wdOf x).cnt.length ≤ 1
    · rw [decide_eq_true h, decide_eq_true (by omega)]
    · rw [decide_eq_false h, decide_eq_false (by omega)]
  rw [← e5]
  exact r5.mono less
end
end Mine
end -- W6
section -- W7
set_option maxRecDepth 100000
namespace Mine
section
variable {prog : Program} {w : World} {P : Params} {mg mb : Str → Option Value} {k : Nat}
theorem kee_cls : Kee (Cx P mg mb) (.ref 152) := .kept fun M h c => keeps_K (K := KK P) rfl h c.k
theorem c_cls {x : Str} (hx : x.length ≤ 900) (hc : ∀ c ∈ x.cps.toList, c = 32 ∨ c = 9) (hk : 5 ≤ k) : CS prog w (Cx P mg mb) (k + 2) (.ref 152) [.str x] (wdOf x).pv := fun A hs s vs E R hC hl hv => by
  obtain ⟨v, rfl, rv⟩ := reps1 hv
  obtain ⟨tv, rfl⟩ := rv.str_inv
  obtain ⟨hp, g, d, tk, os⟩ := s
  have F107 : FnOk (Cx P mg mb) 107 fd107.1 [Str.ofString "self", Str.ofString "ws"] := fo107
  refine wpAny_call (codeAny_tk (make_core (C := 152) (init := .ref 107) (makes_of hC.k rfl) (looks_findIn hC.k rfl) (fun self => bind_fn hC.k self rfl) (.inl rfl) ?_))
  generalize hs2 : (⟨(hp.push emptyDict).push (instObj 152 hp.objs.size), g, d, tk, os⟩ : Shared) = s2
  have hsz : s2.heap.objs.size = hp.objs.size + 2 := by rw [← hs2]; show ((hp.push emptyDict).push _).objs.size = _; rw [Heap.size_push, Heap.size_push]
  have k2 : Kp ⟨hp, g, d, tk, os⟩ s2 := by
    rw [← hs2]
    exact (push_kp ⟨hp, g, d, tk, os⟩ emptyDict).trans (push_kp ⟨hp.push emptyDict, g, d, tk, os⟩ _)
  have hC2 : Cx P mg mb s2.heap := hC.mono k2.get
  have hx2 : s2.heap.get? (hp.objs.size + 1) = some (instObj 152 hp.objs.size) := by
    rw [← hs2]
    have := Heap.get?_push_size (hp.push emptyDict) (o := instObj 152 hp.objs.size) rfl
    rwa [Heap.size_push] at this
  have hd2 : s2.heap.get? hp.objs.size = some emptyDict := by
    rw [← hs2]
    exact Heap.get?_push_of_some _ (Heap.get?_push_size _ rfl)
  obtain ⟨o, ho, hdata⟩ := F107.obj _ hC2
  have R' : Rm (A.under (.builtin "type.__call__" ⟨[.ref 152, .str x tv], []⟩)) (k + 1) := by
    have h1 := R.depth
    have h2 := R.units
    refine ⟨R.handled, ?_, ?_, by omega⟩
    · show A.depth + 1 + (k + 1) < _; omega
    · show A.units + 1 + 10 * (k + 1) < _; omega
  refine codeAny_call_function (by have := R'.depth; omega) ho hdata F107.co F107.gen (body := match fd107.1.body with | .stmts l => l | _ => []) rfl (F107.code _ hC2) ?_
  rw [F107.bind [.ref (hp.objs.size + 1), .str x tv] rfl, F107.clo]
  refine wpAny_pure (wpAny_tk (wpAny_newFunctionEnv_cells F107.kind (fun p hpz => ?_) fun env he s₁ xc htk => ?_))
  · rcases F107.kinds p.1 (List.of_mem_zip hpz).1 with h | h
    · exact .inl h
    · exact .inr ⟨h, cellsFrom_has _ _ _ _ h⟩
  · have henv : env = iniEnv ⟨hp, g, d, tk, os⟩ := by rw [he, hsz]; rfl
    subst henv
    refine ⟨(F107.lim _ hC2).keeps xc.toInCall.keep, codeAny_func ?_⟩
    have ok : ∀ es n, (Fx.ini prog w (A.under (.builtin "type.__call__" ⟨[.ref 152, .str x tv], []⟩)) (Cx P mg mb) k hs ⟨hp, g, d, tk, os⟩ es n).Ok := fun es n => ini_ok R' (by omega) hC
    have kp1 : ∀ b o, s2.heap.get? b = some o → s₁.heap.get? b = some o := xc.toInCall.keep
    have st : St (Fx.ini prog w (A.under (.builtin "type.__call__" ⟨[.ref 152, .str x tv], []⟩)) (Cx P mg mb) k hs ⟨hp, g, d, tk, os⟩ [] 0) (fun y => ([Str.ofString "self", Str.ofString "ws"].zip [PV.val (.ref (hp.objs.size + 1)), .str x]).lookup y) none 0 s₁ := by
      refine ⟨?_, Nat.zero_le _, ?_, fun p hpm => ?_, fun b o e => kp1 b o (k2.get b o e), fun b hb => ?_, fun y c h => (by cases h), _, xc.toInCall.ns, fun y dd hy => ?_, fun _ _ h => (by cases h)⟩
      · obtain ⟨h', t', e⟩ := xc.toInCall.same
        subst hs2; exact ⟨h', t', e⟩
      · have := k2.tk
        exact Nat.le_trans this htk
      · rcases List.mem_cons.mp hpm with rfl | hpm
        · exact kp1 _ _ hx2
        · rw [List.mem_singleton.mp hpm]; exact kp1 _ _ hd2
      · rcases List.mem_cons.mp hb with rfl | hb
        · obtain ⟨o, _, _, e, _⟩ := xc.toInCall.ns
          exact ⟨o, e⟩
        · rcases List.mem_cons.mp hb with rfl | hb
          · exact ⟨_, kp1 _ _ hd2⟩
          · rcases List.mem_cons.mp hb with rfl | hb
            · exact ⟨_, kp1 _ _ hx2⟩
            · obtain ⟨o, e⟩ := hl b hb
              exact ⟨o, kp1 _ _ (k2.get b o e)⟩
      · have hr : Reps (vw s₁.heap ((Fx.ini prog w (A.under (.builtin "type.__call__" ⟨[.ref 152, .str x tv], []⟩)) (Cx P mg mb) k hs ⟨hp, g, d, tk, os⟩ [] 0).hids none 0)) [PV.val (.ref (hp.objs.size + 1)), .str x] [.ref (hp.objs.size + 1), .str x tv] := .cons .val (.cons .str .nil)
        obtain ⟨v, hv, r⟩ := zip_lookup hr hy
        have hyx : y ∈ [Str.ofString "self", Str.ofString "ws"] := (List.of_mem_zip (lookup_mem hv)).1
        have hkl : fd107.1.scope.names.lookup y = some .local := by
          rcases List.mem_cons.mp hyx with rfl | h
          · rfl
          · rw [List.mem_singleton.mp h]; rfl
        exact ⟨v, .loc hkl (bindL_get _ _ _ _ _ _ F107.nodup hv hkl), r⟩
    refine wpAny_mono (ini_body (prog := prog) (w := w) (P := P) (mg := mg) (mb := mb) (k := k) (A := A.under (.builtin "type.__call__" ⟨[.ref 152, .str x tv], []⟩)) hl hx hc (ρ := fun y => ([Str.ofString "self", Str.ofString "ws"].zip [PV.val (.ref (hp.objs.size + 1)), .str x]).lookup y) rfl rfl ok 0 s₁ _ st) (fun f s' hf => ?_) fun _ _ e => e
    obtain ⟨rfl, kf, rf⟩ := hf
    exact ⟨rfl, fun _ => ⟨kf, rf⟩⟩
end
end Mine
end -- W7
section -- X1
set_option maxRecDepth 100000
namespace Mine
theorem x_entry : entryFor table "hasattr" = some Builtin.«hasattr» := entryFor_of_tree (by kernel_rfl)
theorem x_args (a b : Value) : argsOk "hasattr" ⟨[a, b], []⟩ := by unfold argsOk; kernel_rfl
theorem int_no_getitem : typeLookup (.type "int") (Str.ofString "__getitem__") = pure none := am_miss_of_fast (by decide +kernel)
section
variable {prog : Program} {w : World} {A : Around} {E : Value → Shared → Prop} {s : Shared}
theorem getAttrBy_miss_int {n : Int} {t u : Tok} {name : Str} {Q : Option Value → Shared → Prop} (hmiss : typeLookup (.type "int") name = pure none) (hA : A.handled = none) (hsz : name.length + 100 ≤ sizeLine)
    (h : ∀ h' tk, (∀ b o, s.heap.get? b = some o → h'.get? b = some o) → Q none { s with heap := h', toks := tk }) :
    wpAny (model prog w) A (getAttrBy? (.int n t) (.str name u)) Q E s := by
  obtain ⟨hp, g, d, tk, os⟩ := s
  have hT : ∀ s' : Shared, s'.TypeIs (.int n t) "int" := fun _ => rfl
  have f1 := sub_AttributeError
  have f3 := PySem.F.slot_int_getattribute.lookup
  have f4 := PySem.F.slot_int_getattribute.bind (.int n t)
  have f5 := am_int_getattr_none
  unfold getAttrBy? getAttrBy
  repeat (any_goals (first | assumption | ((with_reducible show wpAny _ _ (call (Value.builtin "int.__getattribute__") _ _) _ _ _); refine call_meets PySem.F.slot_int_getattribute (hT _) am_entry_int_getattribute (PySem.F.args_int_getattribute_2 _ _) (meets_getattribute_miss_int n t name _ hmiss hsz) ⟨hA, fun h' tk' e hx => ?_⟩) | wp_step))
  obtain ⟨t', u', he⟩ := hx.there
  show wpAny _ _ (getattributeRaised _ _ _ _ _ _ _) _ _ _
  unfold getattributeRaised
  repeat (any_goals (first | assumption | wp_step))
  exact h _ _ hx.keeps
theorem call_hasattr_int {n : Int} {t u : Tok} {Q : Value → Shared → Prop} (hA : A.handled = none)
    (h : ∀ h' tk, (∀ b o, s.heap.get? b = some o → h'.get? b = some o) → Q (.bool false) { s with heap := h', toks := tk }) :
    wpAny (model prog w) A (call (.builtin "hasattr") [.int n t, .str "__getitem__" u]) Q E s := by
  obtain ⟨hp, g, d, tk, os⟩ := s
  refine Calls.call_function_entry (by decide +kernel) (by decide +kernel) x_entry (x_args _ _) ?_
  have hT : (⟨hp, g, d, tk, os⟩ : Shared).TypeIs (.int n t) "int" := rfl
  have f4 := int_no_getitem
  unfold Builtin.«hasattr»
  refine wpAny_bind ?_
  refine wpAny_bind (wpAny_of_eq (a := ()) rfl (wpAny_pure ?_))
  dsimp only
  refine wpAny_bind (wpAny_of_eq (a := ()) rfl ?_)
  rw [if_neg (show ¬ (Value.int n t == Value.builtin "__main__.__loader__#opaque") = true from Bool.false_ne_true)]
  refine wpAny_bind (wpAny_typeOf hT ?_)
  dsimp only
  refine wpAny_bind (wpAny_pure ?_)
  dsimp only
  refine wpAny_bind (wpAny_of_eq f4 ?_)
  dsimp only
  refine wpAny_bind (wpAny_of_eq (a := 0) rfl ?_)
  rw [if_neg (by decide)]
  refine wpAny_bind (getAttrBy_miss_int f4 hA (by decide +kernel) fun h' tk hk => ?_)
  dsimp only [Option.isNone, Option.isSome]
  rw [if_neg (by decide)]
  exact wpAny_pure ⟨_, rfl, h h' tk hk⟩
end
end Mine
end -- X1
section -- X2
set_option maxRecDepth 100000
namespace Mine
section
variable {prog : Program} {w : World} {P : Params} {mg mb : Str → Option Value} {k : Nat}
theorem c_type {n : Int} : CS prog w (Cx P mg mb) k (.type "type") [.int n] (.val (.type "int")) := fun A hs s vs E R hC hl hr => by
  cases hr with
  | cons h r =>
    cases r; cases h
    exact call_type_of (Tx := "int") rfl (by decide +kernel) ⟨Kp.refl _, .val⟩
theorem c_has_int {n : Int} : CS prog w (Cx P mg mb) k (.builtin "hasattr") [.int n, .str "__getitem__"] (.bool false) := fun A hs s vs E R hC hl hr => by
  cases hr with
  | cons h r =>
    cases r with
    | cons h' r =>
    cases r; cases h; cases h'
    exact wpAny_tk (call_hasattr_int R.handled fun h' tk hk ht => ⟨Kp.of hk ht, .bool⟩)
theorem ga_name : GA prog w (Cx P mg mb) (.val (.type "int")) "__name__" (.str "int") := fun A k hs s v E R hC hl hr => by
  cases hr
  have X := hC.k
  have hstub : opaqueClassAbove (.type "int") = pure none := by unfold opaqueClassAbove; dsimp only; rw [show Manifest.isStub "int" = false by decide +kernel]; rfl
  have L0 : Looks (model prog w) s.heap (typeOf (.type "int")) (.type "type") := Looks.of_pure (kitMeta_of (by decide +kernel))
  have LO : Looks (model prog w) s.heap (opaqueClassAbove (.type "int")) none := Looks.of_pure hstub
  have hg : findIn (KK P) (.type "type") "__getattribute__" = some (some (.builtin "type.__getattribute__")) := type_tga
  refine cls_open X LO L0 hg (looks_hook X (r := none) (by rfl)) (by show subIn (KK P) _ _ = _; rfl) (show findCls (KK P) (.type "int") (.type "type") "__name__" = some (.get (.builtin "getset_descriptor.__get__") (.builtin "type.__name__") (.type "int") (.type "type")) by rfl) ?_
  show wpAny _ _ (do ret (← holding [Value.builtin "type.__name__"] (call (.builtin "getset_descriptor.__get__") [.builtin "type.__name__", .type "int", .type "type"]))) _ _ _
  refine wpAny_bind (wpAny_holding (wpAny_call (ktyn_get (q := "int") (s := { s with toks := s.toks + 1 }) (kitMeta_of (by decide +kernel)) (by decide +kernel) (by decide +kernel) ?_)))
  exact wpAny_pure (handed_on rfl ⟨Kp.tok s _ (show s.toks ≤ s.toks + 1 + 1 by omega), .str⟩)
noncomputable def refuse (y : Str) : Str := Str.ofString "'" ++ y ++ Str.ofString "' object can't be concatenated"
theorem b_refuse {y : Str} (hy : y.length ≤ 1000000) : B2 prog w .Mod (.str "'%s' object can't be concatenated") (.str y) (.str (refuse y)) := fun A k hs s v1 v2 E R hl h1 h2 => by
  cases h1; cases h2
  refine wpAny_tk ?_
  refine' KPc.mod_str ?kpcF ?kpcl ?kpcm ?_
  case kpcF => kpc_eq
  case kpcl => exact hy
  case kpcm => k_dflt kpc_run_s
  intro t' k' ht
  exact ⟨Kp.of (fun _ _ e => e) ht, .str⟩

theorem fn_open {C : Heap → Prop} {fa : Addr} {fd : FuncData} {xs : List Str} {A : Around} {hs : List Addr} {s : Shared} {ds : List PV} {vs : List Value} {body : List Stmt} {n : Nat} {Q : Value → Shared → Prop} {E : Value → Shared → Prop}
    (F : FnOk C fa fd xs) (hbody : fd.body = .stmts body) (R : Rm A (k + 1)) (h5 : 5 ≤ k) (hC : C s.heap) (hn : n ≤ s.toks) (hl : Live hs s) (hr : Reps (vw s.heap hs) ds vs) (hlen : ds.length = xs.length)
    (h : ∀ s₁, (Fx.fn prog w A C k fd fa hs s n).Ok → St (Fx.fn prog w A C k fd fa hs s n) (fun y => (xs.zip ds).lookup y) none 0 s₁ →
      wpAny (model prog w) (A.deeper (callEnvC fd s.heap.objs.size fa)) (execs body (callEnvC fd s.heap.objs.size fa)) (fun f s' => Q (match f with | .ret v => v | _ => .none) s')
        (fun e s' => wpAny (model prog w) (A.deeper (callEnvC fd s.heap.objs.size fa)) (leaving (callEnvC fd s.heap.objs.size fa) e) (fun _ s'' => E e s'') (fun e' s'' => E e' s'') s') s₁) :
    wpAny (model prog w) A (call (.ref fa) vs []) Q E s := by
  obtain ⟨o, ho, hdata⟩ := F.obj _ hC
  refine wpAny_call ?_
  refine codeAny_call_function (by have := R.depth; omega) ho hdata F.co F.gen hbody (F.code _ hC) ?_
  rw [F.bind vs (by rw [← hr.length, hlen]), F.clo]
  refine wpAny_pure (wpAny_tk (wpAny_newFunctionEnv_cells F.kind (fun p hp => ?_) fun env he s₁ x htk => ?_))
  · rcases F.kinds p.1 (List.of_mem_zip hp).1 with h | h
    · exact .inl h
    · exact .inr ⟨h, cellsFrom_has _ _ _ _ h⟩
  · subst he
    refine ⟨(F.lim _ hC).keeps x.toInCall.keep, codeAny_func ?_⟩
    exact h s₁ (F.ok R h5 hC x.apart) (fn_st F hl hr hn htk x)

theorem EV.attr1 {Γ : Fx} {ρ : Loc} {mu : Mu} (hΓ : Γ.Ok) {o name pos d r} (h0 : EV Γ ρ mu o (.val d)) (hm : GA Γ.prog Γ.w Γ.C (.val d) name r) (he : eval (.Attribute o name pos) Γ.env = (do
      let v ← eval o Γ.env
      standAt pos.atName
      let r ← holding [v] (getAttr v name true)
      letTemporaryGo o v r
      pure r)) (hg : ∀ r, letTemporaryGo o d r = pure ()) : EV Γ ρ mu (.Attribute o name pos) r := fun a s E hs => by
  rw [he]
  refine wpAny_bind (wpAny_mono (h0 a s E hs) (fun v s1 h1 => ?_) fun _ _ e => e)
  have hs1 := hs.kept h1.1
  refine wpAny_bind (wpAny_standAt (wpAny_bind (wpAny_holding (wpAny_mono (hm Γ.A Γ.k (Γ.hids mu a) s1 v E hΓ.rm (hs1.ctx hΓ) hs1.live h1.2) (fun r s2 h2 => ?_) fun _ _ e => e))))
  have : v = d := by cases h1.2; rfl
  subst this
  rw [hg]
  exact wpAny_bind (wpAny_pure (wpAny_pure ⟨h1.1.trans h2.1, h2.2⟩))
theorem ET.at {Γ : Fx} {ρ : Loc} {mu : Mu} {e b a s E} {Q : Bool → Shared → Prop} (h : ET Γ ρ mu e b) (hs : St Γ ρ mu a s) (hq : ∀ s', Kp s s' → St Γ ρ mu a s' → Q b s') : wpAny Γ.M Γ.A (isTrue e Γ.env (eval e Γ.env)) Q E s :=
  wpAny_mono (h a s E hs) (fun b' s' h' => by obtain ⟨k, rfl⟩ := h'; exact hq s' k (hs.kept k)) fun _ _ e => e
theorem S1.at {Γ : Fx} {ρ : Loc} {mu : Mu} {t ρ' mu' a s E} {Q : Flow → Shared → Prop} (h : S1 Γ ρ mu t (.next ρ' mu')) (hs : St Γ ρ mu a s) (hq : ∀ a' s', St Γ ρ' mu' a' s' → Pres (Γ.hids mu a) s (Γ.hids mu' a') s' → Q .next s') :
    wpAny Γ.M Γ.A (exec t Γ.env) Q E s :=
  wpAny_mono (h a s E hs) (fun f s' h' => by
    cases f with
    | next => obtain ⟨a', h1, h2⟩ := h'; exact hq a' s' h1 h2
    | _ => exact h'.elim) fun _ _ e => e

theorem concat_raises {A : Around} {s : Shared} {outer : List Env} {base : Heap} {a b : Int} {ta tb : Tok} {Q : Value → Shared → Prop} {E : Value → Shared → Prop} (R : Rm A (k + 1)) (h5 : 5 ≤ k) (hC : Cx P mg mb s.heap)
    (hfr : A.frames = some outer) (hkb : base.StaysIn s.heap) (hl : s.heap.FunFrames base outer)
    (hE : ∀ e h' tk t, Heap.FlyingW base outer e (.type "TypeError") (.ref t) h' → s.heap.UpToSlots h' → s.toks ≤ tk → E (.ref e) { s with heap := h', toks := tk }) :
    wpAny (model prog w) A (call (.ref 52) [.int a ta, .int b tb] []) Q E s := by
  refine fn_open (n := 0) (hs := []) (ds := [.int a, .int b]) (fo52 (P := P) (mg := mg) (mb := mb)) rfl R h5 hC (Nat.zero_le _) (fun b hb => by cases hb) (.cons .int (.cons .int .nil)) rfl fun s₁ hΓ hs₁ => ?_
  refine wpAny_execs_cons (wpAny_If (ET.at (Γ := Fx.fn prog w A (Cx P mg mb) k fd52.1 52 [] s 0)
    (ET.not (b := false) (ET.val hΓ (EV.call hΓ (EV1.glob hΓ gb_hasattr rfl) .builtin (.cons (EV.name hΓ rfl) rfl (.cons EV.str rfl .nil)) (c_has_int (k := 5)) hΓ.room (Nat.le_refl _) rfl) T1.bool rfl)) hs₁ fun s₂ k₂ hs₂ => ?_))
  refine wpAny_execs_cons (S1.at (Γ := Fx.fn prog w A (Cx P mg mb) k fd52.1 52 [] s 0)
    (S1.asg hΓ (EV.bin hΓ EV.str (EV.attr1 hΓ (EV.call hΓ (EV1.glob hΓ gb_type rfl) .type (.cons (EV.name hΓ rfl) rfl .nil) (c_type (k := 5)) hΓ.room (Nat.le_refl _) rfl) ga_name rfl fun _ => rfl) (b_refuse (by decide))) (own_fn (.inl rfl)) no_mu rfl) hs₂ fun a₃ s₃ hs₃ p₃ => ?_)
  refine wpAny_execs_cons (Raise_madeB PySem.F.excCall_TypeError PySem.F.excRaise_TypeError hΓ.handled ?_)
  refine wpAny_mono (EV1.glob (Γ := Fx.fn prog w A (Cx P mg mb) k fd52.1 52 [] s 0) hΓ gb_TypeError rfl (by decide) a₃ s₃ _ hs₃) (fun f s₄ h₄ => ?_) fun _ _ e => e
  obtain ⟨k₄, rfl⟩ := h₄
  refine ⟨rfl, ?_⟩
  have hs₄ := hs₃.kept k₄
  refine EVs.spliced (Γ := Fx.fn prog w A (Cx P mg mb) k fd52.1 52 [] s 0) (.cons (EV.name hΓ rfl) rfl .nil) a₃ s₄ _ _ hs₄ fun vs s₅ k₅ r₅ => ?_
  have hs₅ := hs₄.kept k₅
  refine ⟨by rw [← r₅.length]; decide, fun h' e hx => ?_⟩
  obtain ⟨m, hn, _⟩ := hs₅.vars
  obtain ⟨h₅, t₅, rfl⟩ := hs₅.same
  refine wpAny_leaves_madeW (base := base) (outer := outer) (h := h₅) (L := s.heap.objs.size) (cls := .type "TypeError") (args := vs) ?_ rfl (fun b o e => hs₅.keep b o (hkb b o e)) ?_ hx.of fun h' t x1 x2 x3 x4 => ?_
  · show (A.frames.map _) = _; rw [hfr]; rfl
  · refine Heap.FunFrames.cons (by rw [show (callEnvC fd52.1 s.heap.objs.size 52).scope.kind = .function from rfl]; decide) rfl hn hkb.fresh (hl.of_keeps fun b o e _ => ⟨o, hs₅.keep b o e, rfl⟩)
  · have := hE e h' t₅ t x1 ?_ hs₅.late
    · exact this
    · exact (Heap.UpToSlots.of_keeps hs₅.keep).trans ((Heap.UpToSlots.of_keeps hx.keeps).trans x4)
end
end Mine
end -- X2
section -- X3
set_option maxRecDepth 100000
namespace Mine
section
variable {prog : Program} {w : World} {P : Params} {mg mb : Str → Option Value} {k : Nat}
theorem glob_at {A : Around} {E : Value → Shared → Prop} {s : Shared} {env : Env} {C : Heap → Prop} {x : Str} {v : Value} {pos : Pos} {Q : Value → Shared → Prop} (g : GL C x v) (hC : C s.heap) (hkind : env.scope.kind = .function) (hgl : env.globals = mainGlobals) (hbn : env.builtins = builtinsNs)
    (hk : env.kindOf x = some .globalImplicit) (hq : Q v s) (hd : (x == ("__debug__" : Str)) = false := by decide) : wpAny (model prog w) A (eval (.Name x pos) env) Q E s := by
  have go : wpAny (model prog w) A (loadGlobal env x) Q E s := by
    rcases g _ hC with ⟨mg, h1, h2⟩ | ⟨mg, mb, h1, h2, h3, h4⟩
    · exact Calls.loadGlobal_global (by rw [hgl]; exact h1) h2 hq
    · exact Calls.loadGlobal_builtin (by rw [hgl]; exact h1) h2 (by rw [hbn]; exact h3) h4 hq
  exact Calls.Name_function_global hkind hk go hd

theorem refused_true {A : Around} {s : Shared} {outer : List Env} {base : Heap} {a b : Int} {ta tb : Tok} {Q : Value → Shared → Prop} {E : Value → Shared → Prop} (R : Rm A (k + 2)) (h5 : 5 ≤ k) (hC : Cx P mg mb s.heap) (hCb : Cx P mg mb base)
    (hfr : A.frames = some outer) (hkb : base.StaysIn s.heap) (hl : s.heap.FunFrames base outer)
    (hQ : ∀ h' tk, base.StaysIn h' → s.heap.UpToSlots h' → s.toks ≤ tk → Q (.bool true) { s with heap := h', toks := tk }) :
    wpAny (model prog w) A (call (.ref 184) [.int a ta, .int b tb] []) Q E s := by
  refine fn_open (n := 0) (hs := []) (ds := [.int a, .int b]) (k := k + 1) (fo184 (P := P) (mg := mg) (mb := mb)) rfl R (by omega) hC (Nat.zero_le _) (fun b hb => by cases hb) (.cons .int (.cons .int .nil)) rfl fun s₁ hΓ hs₁ => ?_
  have hfr' : (A.deeper (callEnvC fd184.1 s.heap.objs.size 184)).frames = some (callEnvC fd184.1 s.heap.objs.size 184 :: outer) := by show (A.frames.map _) = _; rw [hfr]; rfl
  refine wpAny_execs_cons (wpAny_Try_except (wpAny_execs_cons (wpAny_Expr_any ?_)))
  show wpAny _ _ (do callWith _ (← eval (.Name (Str.ofString "concat") _) _) [] (backTo _ (starEach _ _)) (backToKw _ (keywordEach [] _))) _ _ _
  refine wpAny_bind (glob_at (C := Cx P mg mb) gl52 (hΓ.mono _ _ hΓ.ctx hs₁.keep) hΓ.kind hΓ.glob hΓ.bns rfl ?_)
  refine callWith_any (C := Cx P mg mb) (.fn fun h c => ⟨_, _, c.k _ _ (fd52.2 P), rfl⟩) ?_ (EVs.spliced (Γ := Fx.fn prog w A (Cx P mg mb) (k + 1) fd184.1 184 [] s 0) (.cons (EV.name hΓ rfl) rfl (.cons (EV.name hΓ rfl) rfl .nil)) 0 s₁ _ _ hs₁ fun vs s₂ k₂ r₂ => ?_)
  · rfl
  have hs₂ := hs₁.kept k₂
  refine ⟨hs₂.ctx hΓ, ?_⟩
  cases r₂ with
  | cons h1 r =>
  cases r with
  | cons h2 r =>
  cases r; cases h1; cases h2
  obtain ⟨m, hn, _⟩ := hs₂.vars
  have hl₂ : s₂.heap.FunFrames base (callEnvC fd184.1 s.heap.objs.size 184 :: outer) := Heap.FunFrames.cons (by rw [show (callEnvC fd184.1 s.heap.objs.size 184).scope.kind = .function from rfl]; decide) rfl hn hkb.fresh (hl.of_keeps fun b o e _ => ⟨o, hs₂.keep b o e, rfl⟩)
  refine concat_raises (P := P) (mg := mg) (mb := mb) (k := k) (outer := callEnvC fd184.1 s.heap.objs.size 184 :: outer) (base := base) hΓ.rm h5 (hs₂.ctx hΓ) hfr' (fun b o e => hs₂.keep b o (hkb b o e)) hl₂ fun e h₃ t₃ tu f₃ u₃ l₃ => ?_
  refine wpAny_looks_onW hfr' rfl f₃ fun h₄ f₄ u₄ => ?_
  refine wpAny_landsW f₄ fun h₅ f₅ u₅ => ?_
  refine wpAny_handleBy_builtin (X := "TypeError") (T := "TypeError") (b := true) PySem.F.isExc_TypeError PySem.F.notTuple_TypeError PySem.F.self_TypeError ?_
  refine glob_at (C := Cx P mg mb) gb_TypeError (hCb.mono f₅.1) hΓ.kind hΓ.glob hΓ.bns rfl ⟨rfl, ?_, ?_⟩
  · exact f₅.there
  rw [if_pos rfl]
  refine lands_againW f₅ fun h₆ f₆ u₆ => ?_
  refine wpAny_execs_cons (wpAny_Return_some (wpAny_Constant_bool ?_))
  obtain ⟨h₂, t₂, rfl⟩ := hs₂.same
  exact hQ h₆ t₃ f₆.1 ((Heap.UpToSlots.of_keeps hs₂.keep).trans (u₃.trans (u₄.trans (u₅.trans u₆)))) (Nat.le_trans hs₂.late l₃)

noncomputable def Fx.free (Γ : Fx) (h : Heap) : Heap := h.update Γ.env.locals fun o => { o with data := .freed }
theorem Fx.free_none (Γ : Fx) (h : Heap) : (Γ.free h).get? Γ.env.locals = none := by
  cases e : (Γ.free h).get? Γ.env.locals with
  | none => rfl
  | some o =>
    obtain ⟨e1, e2⟩ := Heap.get?_some_iff.mp e
    unfold Fx.free Heap.update at e1
    simp only [Array.getElem?_modify, if_true] at e1
    cases q : h.objs[Γ.env.locals]? with
    | none => rw [q] at e1; cases e1
    | some o' => rw [q] at e1; cases e1; cases e2
theorem Fx.free_of {Γ : Fx} {h : Heap} {b : Addr} {o : Obj} (hb : b ≠ Γ.env.locals) (e : h.get? b = some o) : (Γ.free h).get? b = some o := by
  unfold Fx.free; rw [Heap.get?_update_other _ _ (Ne.symm hb)]; exact e
theorem Fx.free_in {Γ : Fx} {h : Heap} : (Γ.free h).StaysIn h := fun b o e => by
  have hb : b ≠ Γ.env.locals := fun q => by rw [q, Γ.free_none] at e; cases e
  unfold Fx.free at e; rwa [Heap.get?_update_other _ _ (Ne.symm hb)] at e
theorem St.slots {Γ : Fx} {ρ : Loc} {a : Addr} {s : Shared} (hΓ : Γ.Ok) (x : St Γ ρ none a s) {h' : Heap} {tk : Nat} (k : (Γ.free s.heap).StaysIn h') (u : s.heap.UpToSlots h') (ht : s.toks ≤ tk) : St Γ ρ none a { s with heap := h', toks := tk } ∧ Pres Γ.hid s Γ.hid { s with heap := h', toks := tk } := by
  have kg : ∀ b o, b ≠ Γ.env.locals → s.heap.get? b = some o → h'.get? b = some o := fun b o hb e => k b o (Γ.free_of hb e)
  obtain ⟨⟨h, t, e⟩, fl, u0, pn, kp, hid, cls, m, hn, hv, hm⟩ := x
  have pr : Pres Γ.hid s Γ.hid { s with heap := h', toks := tk } := fun b o hb e => ⟨hb, kg b o (fun q => hb (q ▸ hΓ.hidL)) e⟩
  refine ⟨⟨⟨h', tk, by rw [e]⟩, Nat.le_trans fl ht, Nat.le_trans u0 ht, fun p hp => kg _ _ (hΓ.pinH p hp).2.1 (pn p hp), fun b o e => kg b o (fun q => by rw [q, hΓ.newL] at e; cases e) (kp b o e), fun b hb => ?_, fun x c hc => ?_, m, u.ns hn, fun x d hx => ?_, fun _ _ q => by cases q⟩, pr⟩
  · by_cases q : b = Γ.env.locals
    · obtain ⟨o, _, _, e, _⟩ := u.ns hn
      exact ⟨o, q ▸ e⟩
    · obtain ⟨o, e⟩ := hid b hb
      exact ⟨o, kg _ _ q e⟩
  · obtain ⟨v, o, e, r⟩ := cls x c hc
    exact ⟨v, o, kg _ _ (hΓ.cells x c hc).2 e, r⟩
  · obtain ⟨v, l, r⟩ := hv x d hx
    refine ⟨v, ?_, r.mono pr.le⟩
    cases l with
    | loc h1 h2 => exact .loc h1 h2
    | cell h1 h2 h3 =>
      obtain ⟨o, e, r⟩ := h3
      exact .cell h1 h2 ⟨o, kg _ _ (hΓ.cells _ _ h2).2 e, r⟩

theorem S1.refused {Γ : Fx} {ρ : Loc} {x y : Str} {p1 p2 p3 p4 p5 p6 : Pos} {b1 : List Stmt} {a b : Int} {j : Nat} (hΓ : Γ.Ok) (hpr : Γ.prog = prog) (hC : Γ.C = Cx P mg mb) (hk : Γ.k = j + 2) (h5 : 5 ≤ j) (hfr : Γ.A.frames = some [Γ.env]) (hf : Γ.env.frame = some Γ.env.locals)
    (hx : ρ x = some (.int a)) (hy : ρ y = some (.int b)) (hgk : Γ.env.kindOf (Str.ofString "_law_refused") = some .globalImplicit) :
    S1 Γ ρ none (.If (.UnaryOp .Not (.Call (.Name (Str.ofString "_law_refused") p1) [.Name x p2, .Name y p3] [] p4) p5) b1 [] p6) (.next ρ none) := fun a' s E hs => by
  refine wpAny_If (wpAny_isTrue_Not (wpAny_isTrue_value ?_ rfl))
  show wpAny _ _ (do callWith _ (← eval (.Name (Str.ofString "_law_refused") _) _) [] (backTo _ (starEach _ _)) (backToKw _ (keywordEach [] _))) _ _ _
  refine wpAny_bind (glob_at (C := Cx P mg mb) gl184 (hC ▸ hs.ctx hΓ) hΓ.kind hΓ.glob hΓ.bns hgk ?_)
  refine callWith_any (C := Cx P mg mb) (.fn fun h c => ⟨_, _, c.k _ _ (fd184.2 P), rfl⟩) ?_ (EVs.spliced (Γ := Γ) (.cons (EV.name hΓ hx) rfl (.cons (EV.name hΓ hy) rfl .nil)) a' s _ _ hs fun vs s₂ k₂ r₂ => ?_)
  · rfl
  have hs₂ := hs.kept k₂
  refine ⟨hC ▸ hs₂.ctx hΓ, ?_⟩
  cases r₂ with
  | cons h1 r =>
  cases r with
  | cons h2 r =>
  cases r; cases h1; cases h2
  obtain ⟨m, hn, _⟩ := hs₂.vars
  refine refused_true (P := P) (mg := mg) (mb := mb) (k := j) (outer := [Γ.env]) (base := Γ.free s₂.heap) (hk ▸ hΓ.rm) h5 (hC ▸ hs₂.ctx hΓ) (hC ▸ hΓ.mono _ _ hΓ.ctx fun b o e => Γ.free_of (fun q => by rw [q, hΓ.newL] at e; cases e) (hs₂.keep b o e)) hfr Γ.free_in
    (Heap.FunFrames.cons (by rw [hΓ.kind]; decide) hf hn (Γ.free_none _) trivial) fun h' tk q1 q2 q3 => ?_
  refine wpAny_truthy_bool (wpAny_execs_nil ?_)
  obtain ⟨q4, q5⟩ := hs₂.slots hΓ q1 q2 q3
  exact ⟨a', q4, (k₂.pres _).trans q5⟩
end
end Mine
end -- X3
section -- X4
set_option maxRecDepth 100000
namespace Mine
noncomputable def strI (n : Int) : Str := Str.ofString (toString n)
structure Cy (mg mb : Str → Option Value) (h : Heap) : Prop where
  g : h.Ns mainGlobals mg
  b : h.Ns builtinsNs mb
  lim : h.NoLimit
  bs : ∀ x : Str, x ≠ "__name__" → mb x = bootBuiltins x
  len : mg "len" = none
  str : mg "str" = none
section
variable {prog : Program} {w : World} {P : Params} {mg mb : Str → Option Value} {k : Nat}
theorem Cx.cy {h : Heap} (c : Cx P mg mb h) : Cy mg mb h := ⟨c.g, c.b, c.lim, c.bs, mg_none_of c.k c.g rfl, mg_none_of c.k c.g rfl⟩
theorem Cy.mono {h h' : Heap} (c : Cy mg mb h) (k : ∀ b o, h.get? b = some o → h'.get? b = some o) : Cy mg mb h' := ⟨c.g.keeps k, c.b.keeps k, c.lim.keeps k, c.bs, c.len, c.str⟩
theorem gy_len : GL (Cy mg mb) (Str.ofString "len") (.builtin "len") := fun h c => .inr ⟨mg, mb, c.g, c.len, c.b, (c.bs _ (by decide)).trans (by kernel_rfl)⟩
theorem gy_str : GL (Cy mg mb) (Str.ofString "str") (.type "str") := fun h c => .inr ⟨mg, mb, c.g, c.str, c.b, (c.bs _ (by decide)).trans (by kernel_rfl)⟩
theorem c_str {C : Heap → Prop} {n : Int} (hn : n.natAbs.log2 < 1920) : CS prog w C k (.type "str") [.int n] (.str (strI n)) := fun A hs s vs E R hC hl hr => by
  cases hr with
  | cons h r =>
    cases r; cases h
    exact PySem.P.str_of_int hn ⟨Kp.tok s _, .str⟩

theorem elt_str {A : Around} {E : Value → Shared → Prop} {t : Shared} {env : Env} {p1 p2 p3 p4 p5 : Pos} {kk : Nat} {m : Str → Option Value} {tp : Addr} {vs : Array Value} {nn : Nat} {a : Int} {ta : Tok}
    (hk : env.scope.kind = .function) (hgl : env.globals = mainGlobals) (hbn : env.builtins = builtinsNs) (hks : env.kindOf (Str.ofString "str") = some .globalImplicit) (hkt : env.kindOf (Str.ofString "tup") = some .local)
    (hC : Cy mg mb t.heap) (hn : t.heap.Ns env.locals m) (hm : m (Str.ofString "tup") = some (.ref tp)) (htp : t.heap.get? tp = some { cls := .type "tuple", data := .seq vs nn }) (hv : vs[0]? = some (.int a ta)) (ha : a.natAbs.log2 < 1920) :
    wpAny (model prog w) A (eval (.Call (.Name (Str.ofString "str") p1) [.Subscript (.Name (Str.ofString "tup") p2) (.Constant (.int 0) kk p3) p4] [] p5) env) (fun y s₃ => (∃ u, y = .str (strI a) u) ∧ Keeps t s₃) E t := by
  show wpAny _ _ (do callWith _ (← eval (.Name (Str.ofString "str") _) _) [] (backTo _ (starEach _ _)) (backToKw _ (keywordEach [] _))) _ _ _
  refine wpAny_bind (glob_at (C := Cy mg mb) gy_str hC hk hgl hbn hks ?_)
  refine callWith_any (C := Cy mg mb) .type rfl ?_
  refine Calls.spliced_cons (PyProof.Rows.Subscript_ (wpAny_Name (wpAny_loadName_local hk hkt hn hm (wpAny_Constant_int ?_)) (by decide)))
  have htt : IsTup t.heap tp vs := ⟨_, htp, rfl, nn, rfl⟩
  have hlt : 0 < vs.size := (Array.getElem?_eq_some_iff.mp hv).1
  refine tail_any (T := "tuple") (ops := [.ref tp, .int 0 t.toks]) htt.typeIs slot_tuple_getitem.lookup (getItem_tuple htt (by decide) (by decide) (j := 0) ?_ hv ?_) rfl
  · unfold seqIndex?; simp; exact fun e => by subst e; simp at hlt
  refine Calls.spliced_nil ⟨hC, ?_⟩
  exact PySem.P.str_of_int ha ⟨⟨_, rfl⟩, ⟨_, _, rfl, fun _ _ e => e⟩⟩

/-- the frame, from another entry state on -/
noncomputable def Fx.shift (Γ : Fx) (s₀ : Shared) (C : Heap → Prop) : Fx := { Γ with s₀, C, n := 0, pins := [] }
theorem Fx.shift_ok {Γ : Fx} {s₀ : Shared} {C : Heap → Prop} (hΓ : Γ.Ok) (hC : C s₀.heap) (hm : ∀ h h' : Heap, C h → (∀ b o, h.get? b = some o → h'.get? b = some o) → C h') (hn : s₀.heap.get? Γ.env.locals = none) : (Γ.shift s₀ C).Ok where
  kind := hΓ.kind
  handled := hΓ.handled
  depth := hΓ.depth
  units := hΓ.units
  room := hΓ.room
  nodbg := hΓ.nodbg
  glob := hΓ.glob
  bns := hΓ.bns
  ctx := hC
  mono := hm
  hidL := hΓ.hidL
  newL := hn
  cells := hΓ.cells
  apart := hΓ.apart
  pinH := fun p hp => by cases hp
/-- after a code table grew -/
theorem St.shift {Γ : Fx} {ρ : Loc} {a : Addr} {s s' s₀ : Shared} {C : Heap → Prop} {Pt : Addr} {ps : Array Value} (hs : St Γ ρ none a s) (hP : s.heap.get? Pt = some { cls := .none, data := .fields ps }) (hP' : ∃ o, s'.heap.get? Pt = some o)
    (k : ∀ b o, b ≠ Pt → s.heap.get? b = some o → s'.heap.get? b = some o) (keep' : ∀ b o, s₀.heap.get? b = some o → s'.heap.get? b = some o) (same : ∃ h tk, s' = { s₀ with heap := h, toks := tk }) (tk : s₀.toks ≤ s'.toks) :
    St (Γ.shift s₀ C) ρ none a s' := by
  obtain ⟨_, fl, u0, pn, kp, hid, cls, m, hn, hv, hm⟩ := hs
  have ne : ∀ b o, s.heap.get? b = some o → (∀ vs, o.data ≠ .fields vs) → b ≠ Pt := fun b o e hd q => by rw [q, hP] at e; cases e; exact hd _ rfl
  refine ⟨same, Nat.zero_le _, tk, fun p hp => (by cases hp), keep', fun b hb => ?_, fun x c hc => ?_, m, ?_, fun x d hx => ?_, fun _ _ q => (by cases q)⟩
  · by_cases q : b = Pt
    · exact q ▸ hP'
    · obtain ⟨o, e⟩ := hid b hb
      exact ⟨o, k _ _ q e⟩
  · obtain ⟨v, o, e, r⟩ := cls x c hc
    exact ⟨v, o, k _ _ (ne c o e fun vs q => by rw [q] at r; simp at r) e, r⟩
  · obtain ⟨o, es, ep, e, hd, r⟩ := hn
    exact ⟨o, es, ep, k _ _ (ne _ o e fun vs q => by rw [hd] at q; cases q) e, hd, r⟩
  · obtain ⟨v, l, r⟩ := hv x d hx
    refine ⟨v, ?_, r.mono fun b o e => ?_⟩
    · cases l with
      | loc h1 h2 => exact .loc h1 h2
      | cell h1 h2 h3 =>
        obtain ⟨o, e, r⟩ := h3
        exact .cell h1 h2 ⟨o, k _ _ (ne _ o e fun vs q => by rw [q] at r; simp at r) e, r⟩
    · obtain ⟨e1, e2, e3⟩ := vw_some.mp e
      refine vw_some.mpr ⟨e1, k b o (fun q => ?_) e2, e3⟩
      rw [q, hP] at e2
      cases e2
      cases e3
end
end Mine
end -- X4
section -- X5
set_option maxRecDepth 100000
namespace Mine
noncomputable def fmtP (ws : List (Int × Int × Int)) : Str := if ws.length > 1 then Str.ofString "at tab size" ++ Str.ofString "s" else Str.ofString "at tab size"
noncomputable def fmtW (ws : List (Int × Int × Int)) : Str := fmtP ws ++ Str.ofString " " ++ Txt.join (Str.ofString ", ") (ws.map fun p => strI p.1)
section
variable {prog : Program} {w : World} {P : Params} {mg mb : Str → Option Value} {k : Nat}
theorem Cy.regrown {h₁ h : Heap} {c Pt : Addr} {ps ps' : Array Value} (B : Based h₁ h c Pt ps) (x : Cy mg mb h) : Cy mg mb (regrown h Pt ps') :=
  ⟨LGe.ns_regrown B x.g, LGe.ns_regrown B x.b, let ⟨mc, h1, h2⟩ := x.lim; ⟨mc, LGe.ns_regrown B h1, h2⟩, x.bs, x.len, x.str⟩

theorem passing_all (n : Nat) : passing (fun _ => true) n 0 = List.range n := by unfold passing; simp

set_option maxHeartbeats 4000000 in
theorem fmt_ok {A : Around} {hs : List Addr} {s : Shared} {v : Value} {ws : List (Int × Int × Int)} {Q : Value → Shared → Prop} {E : Value → Shared → Prop} {Pt bm : Addr} {ob : Obj} (R : Rm A (k + 1)) (h5 : 5 ≤ k) (hC : Cx P mg mb s.heap) (hl : Live hs s)
    (hr : Rep (vw s.heap hs) (.list (ws.map trip)) v) (hc : s.heap.IsCode 162 Pt #[]) (ht : s.heap.TableAt 162 Pt #[]) (hPs : Pt ≠ cStatics) (hg : AllBare s.gens) (hM : BMod s.heap mainGlobals mg bm ob)
    (hlen : ws.length ≤ 1000) (hfit : ∀ p ∈ ws, p.1.natAbs.log2 < 1920) (hj : JoinOk (Str.ofString ", ") (ws.map fun p => strI p.1) = true) (hjl : (Txt.join (Str.ofString ", ") (ws.map fun p => strI p.1)).length + 100 ≤ sizeLine)
    (hQ : ∀ c' s' t', (∀ b o, (regrown s.heap Pt (#[] ++ #[rawInt 94, rawInt 13, .ref c'])).get? b = some o → s'.heap.get? b = some o) → AllBare s'.gens → s'.os = s.os → Q (.str (fmtW ws) t') s') :
    wpAny (model prog w) A (call (.ref 163) [v] []) Q E s := by
  refine fn_open (n := 0) (hs := hs) (ds := [.list (ws.map trip)]) (fo163 (P := P) (mg := mg) (mb := mb)) rfl R h5 hC (Nat.zero_le _) hl (.cons hr .nil) rfl fun s₁ hΓ hs₁ => ?_
  refine wpAny_execs_cons (wpAny_Assign_Name (wpAny_GeneratorExp_make (cl := []) rfl rfl (by decide) rfl rfl (by have := hΓ.depth; exact Nat.lt_of_le_of_lt (Nat.le_add_right _ _) this) ?_ fun _ => rfl) rfl)
  refine wpAny_mono (EV.name (Γ := Fx.fn prog w A (Cx P mg mb) k fd163.1 163 hs s 0) hΓ (x := Str.ofString "w") rfl 0 s₁ _ hs₁) (fun xv s₂ h₂ => ?_) fun _ _ e => e
  obtain ⟨k₂, r₂⟩ := h₂
  obtain ⟨l, vs, nn, rfl, hl₂, rs⟩ := r₂.list_inv
  have hlist : s₂.heap.IsList l vs := ⟨_, (vw_some.mp hl₂).2.1, rfl, nn, rfl⟩
  have hs₂ := hs₁.kept k₂
  have hcx₂ := hs₂.ctx hΓ
  refine wpAny_pyIter_list hlist ⟨Cx.lim hcx₂ |>.push _, ?_⟩
  have kp3 : ∀ b o, s.heap.get? b = some o → (s₂.heap.push { cls := .type "list_iterator", data := .fields #[.ref l, .int 0 0] }).get? b = some o := fun b o e => Heap.get?_push_of_some _ (hs₂.keep b o e)
  refine wpAny_genexprCodeX (c := 162) (P := Pt) (ps := #[]) rfl (hc.keeps kp3) (ht.keeps kp3) rfl fun c' h₃ tk₃ hx₃ hge hlt hcode₃ _ htab₃ _ => ?_
  have M₃ := (hM.keeps kp3).extBut (ht.keeps kp3) hx₃
  refine wpAny_builtinsFor M₃.ns M₃.name M₃.ne M₃.obj M₃.cls M₃.dict M₃.data ?_
  intro h' hn' hs'
  rw [Heap.size_push] at hge
  have hs0 : s.heap.objs.size ≤ s₂.heap.objs.size := by
    obtain ⟨m, ⟨o, _, _, e, _⟩, _⟩ := hs₂.vars
    exact Nat.le_of_lt (Heap.lt_size e)
  have hLI : s.heap.objs.size < s₂.heap.objs.size := by
    obtain ⟨m, ⟨o, _, _, e, _⟩, _⟩ := hs₂.vars
    exact Heap.lt_size e
  have hIC : s₂.heap.objs.size < h₃.objs.size := by omega
  have hLC : s.heap.objs.size < h₃.objs.size := Nat.lt_trans hLI hIC
  have hsz : h'.objs.size = h₃.objs.size + 1 := by rw [hs'.1, Heap.size_push]
  have keep' : ∀ b o, h₃.get? b = some o → h'.get? b = some o := fun b o e => hs'.extBut b o (Nat.ne_of_lt (Heap.lt_size e)) (Heap.get?_push_of_some _ e)
  generalize hgo : ({ cls := .type "generator", data := .fields #[.int s₂.gens.size 0, .str "<genexpr>" (tk₃ + 1), .str ((callEnvC fd163.1 s.heap.objs.size 163).qual ++ "<genexpr>") (tk₃ + 1 + 1)] } : Obj) = go
  have keep₅ : ∀ b o, h₃.get? b = some o → (h'.push go).get? b = some o := fun b o e => Heap.get?_push_of_some _ (keep' b o e)
  have keep₂ : ∀ b o, b ≠ Pt → s₂.heap.get? b = some o → (h'.push go).get? b = some o := fun b o hb e => keep₅ b o (hx₃ b o hb (Heap.get?_push_of_some _ e))
  have hB : Based s.heap s.heap 162 Pt #[] := Based.start hc ht hPs
  have hPself : (regrown s.heap Pt (#[] ++ #[rawInt 94, rawInt 13, .ref c'])).get? Pt = some { cls := .none, data := .fields (#[] ++ #[rawInt 94, rawInt 13, .ref c']) } := Heap.get?_update_self _ ht.2 rfl
  have keepR : ∀ b o, (regrown s.heap Pt (#[] ++ #[rawInt 94, rawInt 13, .ref c'])).get? b = some o → (h'.push go).get? b = some o := fun b o e => by
    by_cases hb : b = Pt
    · subst hb; rw [hPself] at e; cases e; exact keep₅ _ _ htab₃.2
    · rw [show (regrown s.heap Pt (#[] ++ #[rawInt 94, rawInt 13, .ref c'])).get? b = s.heap.get? b from Heap.get?_update_other _ _ (Ne.symm hb)] at e
      exact keep₂ b o hb (hs₂.keep b o e)
  have sizeR : (regrown s.heap Pt (#[] ++ #[rawInt 94, rawInt 13, .ref c'])).objs.size = s.heap.objs.size := (Heap.SameBut.update _ Pt _).1
  have hP₂ : s₂.heap.get? Pt = some { cls := .none, data := .fields #[] } := hs₂.keep _ _ ht.2
  have hP₅ : ∃ o, (h'.push go).get? Pt = some o := ⟨_, keep₅ _ _ htab₃.2⟩
  generalize hgs : (GenState.fresh _ : GenState) = gs
  have hΓ' : ((Fx.fn prog w A (Cx P mg mb) k fd163.1 163 hs s 0).shift { s₂ with heap := regrown s.heap Pt (#[] ++ #[rawInt 94, rawInt 13, .ref c']), gens := s₂.gens.push gs, toks := tk₃ + 1 + 1 + 1 } (Cy mg mb)).Ok :=
    Fx.shift_ok hΓ (hC.cy.regrown hB) (fun _ _ c k => c.mono k) (by
      show (regrown s.heap Pt (#[] ++ #[rawInt 94, rawInt 13, .ref c'])).get? s.heap.objs.size = none
      exact Heap.get?_none_of_le (by rw [sizeR]; exact Nat.le_refl _))
  have hs₅ := hs₂.shift (s' := { s₂ with heap := h'.push go, gens := s₂.gens.push gs, toks := tk₃ + 1 + 1 + 1 }) (s₀ := { s₂ with heap := regrown s.heap Pt (#[] ++ #[rawInt 94, rawInt 13, .ref c']), gens := s₂.gens.push gs, toks := tk₃ + 1 + 1 + 1 }) (C := Cy mg mb) hP₂ hP₅ keep₂ keepR ⟨_, _, rfl⟩ (Nat.le_refl _)
  have hgen : (h'.push go).IsGen h'.objs.size s₂.gens.size := by subst hgo; exact ⟨_, _, _, Heap.get?_push_size _ rfl, rfl, rfl, rfl⟩
  have hgg : (s₂.gens.push gs)[s₂.gens.size]? = some _ := (Array.getElem?_push_size ..).trans (congrArg some hgs.symm)
  have hbare : gs.bare = true := by rw [← hgs]; rfl
  have hcst : cStatics < s.heap.objs.size := by obtain ⟨_, hn, _⟩ := hC.lim; exact hn.lt
  have hlL : l ≠ s.heap.objs.size := fun q => (vw_some.mp hl₂).1 (q ▸ List.mem_cons_self ..)
  have hl2 : l < s₂.heap.objs.size := by obtain ⟨o, e, _⟩ := hlist; exact Heap.lt_size e
  generalize hfp : (List.range h₃.objs.size).filter (fun b => b != s.heap.objs.size) = fp
  have mfp : ∀ b, b ∈ fp ↔ b < h₃.objs.size ∧ b ≠ s.heap.objs.size := fun b => by rw [← hfp]; simp [List.mem_filter]
  have W₀ : ∀ A' : Around, A'.handled = none → Walks prog w A' s₂.heap.objs.size fp [s₂.heap.objs.size] vs.size (fun i v => vs[i]? = some v) (fun i h => h.IsListIter s₂.heap.objs.size l i ∧ h.IsList l vs) := fun A' hA =>
    (Walks.list hA _ l (Nat.ne_of_lt hl2) vs).mono_fp fun b hb => by
      rcases List.mem_cons.mp hb with rfl | hb
      · exact (mfp _).mpr ⟨hIC, Nat.ne_of_gt hLI⟩
      · rcases List.mem_cons.mp hb with rfl | hb
        · exact (mfp _).mpr ⟨Nat.lt_trans hl2 hIC, hlL⟩
        · cases hb
  have cy₅ := hC.cy.regrown (ps' := #[] ++ #[rawInt 94, rawInt 13, .ref c']) hB
  have hat := GenAt.fresh (prog := prog) (w := w) (A := (A.deeper (callEnvC fd163.1 s.heap.objs.size 163)).in4) (s := { s₂ with heap := h'.push go, gens := s₂.gens.push gs, toks := tk₃ + 1 + 1 + 1 }) (m := fun y => if y = ".0" then some (.ref s₂.heap.objs.size) else none) hΓ.handled W₀ (fun _ => true)
    (fun i y => ∃ u, y = .str (strI (ws.getD i (0, 0, 0)).1) u) rfl rfl rfl (fun hm => Nat.lt_irrefl _ ((mfp _).mp hm).1) ⟨fun A' E' i v s' m₂ hA hP hns hm hk => wpAny_pure ⟨rfl, ⟨s'.heap, s'.toks, rfl, fun _ _ e => e⟩⟩, fun A' E' i v s' m₂ hA hP _ hns hm hk => ?_⟩ hgen hgg ?_ (hn'.push _) (cy₅.lim.keeps keepR)
  rotate_left
  · obtain ⟨d, hd, rd⟩ := rs.get' i v (by simpa using hP)
    rw [List.getElem?_map] at hd
    obtain ⟨p, hp, rfl⟩ := Option.map_eq_some_iff.mp hd
    obtain ⟨tp, ts, tn, rfl, htp, rts⟩ := rd.tup_inv
    obtain ⟨v0, hv0, r0⟩ := rts.get 0 (.int p.1) rfl
    cases r0
    have e1 := vw_some.mp htp
    have htP : tp ≠ Pt := fun q => by
      have := e1.2.1
      rw [q, hP₂] at this
      cases this
    have htL : tp ≠ s.heap.objs.size := fun q => e1.1 (q ▸ List.mem_cons_self ..)
    have ht2 : tp < s₂.heap.objs.size := Heap.lt_size e1.2.1
    refine wpAny_mono (elt_str (mg := mg) (mb := mb) (m := m₂) (tp := tp) (vs := ts) rfl rfl rfl rfl rfl (cy₅.mono fun b o e => hk b ((mfp b).mpr ?_) ?_ o (keepR b o e)) hns hm (hk tp ((mfp tp).mpr ⟨Nat.lt_trans ht2 hIC, htL⟩) (by simpa using Nat.ne_of_lt ht2) _ (keep₂ _ _ htP e1.2.1)) (by simpa using hv0) (hfit p (List.mem_of_getElem? hp))) (fun y s₃ h => ⟨?_, h.2⟩) fun _ _ e => e
    · have := Heap.lt_size e
      rw [sizeR] at this
      exact ⟨Nat.lt_trans this hLC, Nat.ne_of_lt this⟩
    · have := Heap.lt_size e
      rw [sizeR] at this
      simp only [List.mem_singleton]
      exact Nat.ne_of_lt (Nat.lt_trans this hLI)
    · rw [show (ws.getD i (0, 0, 0)) = p by rw [List.getD_eq_getElem?_getD, hp]; rfl]; exact h.1
  · have hIP : s₂.heap.objs.size ≠ Pt := Nat.ne_of_gt (Heap.lt_size hP₂)
    refine ⟨⟨_, keep₅ _ _ (hx₃ _ _ hIP (Heap.get?_push_size _ rfl)), rfl, rfl⟩, ?_⟩
    obtain ⟨o, e, hcl, nn', hd⟩ := hlist
    exact ⟨o, keep₂ l o (fun q => by rw [q, hP₂] at e; cases e; cases hd) e, hcl, nn', hd⟩
  have W := WalksS.genexpQ (prog := prog) (w := w) (A := (A.deeper (callEnvC fd163.1 s.heap.objs.size 163)).in4) hΓ.handled h'.objs.size s₂.gens.size h₃.objs.size fp [s₂.heap.objs.size] (fun _ => true) vs.size (fun i y => ∃ u, y = .str (strI (ws.getD i (0, 0, 0)).1) u)
    (by rw [hsz]; exact Nat.succ_ne_self _) (fun hm => by have h9 := ((mfp _).mp hm).1; rw [hsz] at h9; exact Nat.lt_irrefl _ (Nat.lt_trans (Nat.lt_succ_self _) h9)) (fun b hb => by rcases List.mem_cons.mp hb with rfl | hb; exact (mfp _).mpr ⟨hIC, Nat.ne_of_gt hLI⟩; cases hb)
    (by have := hΓ.depth; exact Nat.lt_of_le_of_lt (Nat.le_add_right _ _) this) ((mfp _).mpr ⟨Nat.lt_trans hcst hLC, Nat.ne_of_lt hcst⟩) (Nat.ne_of_lt (Nat.lt_trans hcst hLC)) (by simp only [List.mem_singleton]; exact Nat.ne_of_lt (Nat.lt_trans hcst hLI))
  refine wpAny_mono (St.store hΓ' hs₅ (.inl rfl) .val no_mu) (fun _ s₆ h₆ => ?_) fun _ _ e => e
  obtain ⟨hs₆, p₆⟩ := h₆
  refine wpAny_execs_cons (S1.at (S1.asg hΓ' EV.str (.inl rfl) no_mu rfl) hs₆ fun a₇ s₇ hs₇ p₇ => ?_)
  have hif : ∀ ρ : Loc, ρ (Str.ofString "w") = some (.list (ws.map trip)) → ρ (Str.ofString "prefix") = some (.str (Str.ofString "at tab size")) → S1 ((Fx.fn prog w A (Cx P mg mb) k fd163.1 163 hs s 0).shift { s₂ with heap := regrown s.heap Pt (#[] ++ #[rawInt 94, rawInt 13, .ref c']), gens := s₂.gens.push gs, toks := tk₃ + 1 + 1 + 1 } (Cy mg mb)) ρ none
      (.If (.Compare (.Call (.Name (Str.ofString "len") ⟨96, 7, 96, 10⟩) [.Name (Str.ofString "w") ⟨96, 11, 96, 12⟩] [] ⟨96, 7, 96, 13⟩) [.Gt] [.Constant (.int 1) 0 ⟨96, 16, 96, 17⟩] ⟨96, 7, 96, 17⟩)
        [.Assign [.Name (Str.ofString "prefix") ⟨97, 8, 97, 14⟩] (.BinOp (.Name (Str.ofString "prefix") ⟨97, 17, 97, 23⟩) .Add (.Constant (.str (Str.ofString "s")) 0 ⟨97, 26, 97, 29⟩) ⟨97, 17, 97, 29⟩) ⟨97, 8, 97, 29⟩] [] ⟨96, 4, 97, 29⟩) (.next (up ρ (Str.ofString "prefix") (.str (fmtP ws))) none) := fun ρ h1 h2 => by
    refine S1.ifs (ET.cmp hΓ' (EV.call hΓ' (EV1.glob hΓ' gy_len rfl) .builtin (.cons (EV.name hΓ' h1) rfl .nil) (c_len_list (k := 5) (by rw [List.length_map]; omega)) hΓ'.room (Nat.le_refl _) rfl) EV.int C2.gt_int rfl) (fun hb => ?_) (fun hb => ?_)
    · have hb := of_decide_eq_true hb
      rw [List.length_map] at hb
      have : fmtP ws = Str.ofString "at tab size" ++ Str.ofString "s" := if_pos (by omega)
      rw [this]
      exact SX.one (S1.asg hΓ' (EV.bin hΓ' (EV.name hΓ' h2) EV.str (B2.add_str (by decide))) (.inl rfl) no_mu rfl)
    · have hb := of_decide_eq_false hb
      rw [List.length_map] at hb
      have : fmtP ws = Str.ofString "at tab size" := if_neg (by omega)
      rw [this]
      have e : up ρ (Str.ofString "prefix") (.str (Str.ofString "at tab size")) = ρ := funext fun y => by
        unfold up; split
        · rename_i q; rw [q, h2]
        · rfl
      rw [e]
      exact SX.nil
  refine wpAny_execs_cons (S1.at (hif _ rfl rfl) hs₇ fun a₈ s₈ hs₈ p₈ => ?_)
  refine wpAny_execs_cons (wpAny_Return_some ?_)
  refine wpAny_BinOp ?_
  refine wpAny_mono (EV.bin hΓ' (EV.name hΓ' rfl) EV.str (B2.add_str (x := fmtP ws) (y := Str.ofString " ") ?_) a₈ s₈ _ hs₈) (fun v1 s₉ h₉ => ?_) fun _ _ e => e
  · have : (fmtP ws).length ≤ 12 := by unfold fmtP; split <;> decide
    have e2 : (Str.ofString " ").length = 1 := rfl
    unfold sizeLine; omega
  obtain ⟨k₉, r₉⟩ := h₉
  obtain ⟨t9, rfl⟩ := r₉.str_inv
  have hs₉ := hs₈.kept k₉
  refine methodCall_KW (wpAny_Constant_str ?_) rfl
  have k₁₀ : Kp s₉ { s₉ with toks := s₉.toks + 1 } := Kp.tok s₉ _
  have hs₁₀ := hs₉.kept k₁₀
  refine GM.str (prog := prog) (w := w) (C := Cy mg mb) PySem.F.slot_str_join PySem.F.type_str_join _ k [] _ _ _ _ _ hΓ'.rm (hs₁₀.ctx hΓ') (fun b hb => by cases hb) .str ?_
  refine callWith_any (C := Cy mg mb) .builtin ?_ (EVs.spliced (.cons (EV.name (x := Str.ofString "firsts") (d := .val (.ref h'.objs.size)) hΓ' rfl) rfl .nil) a₈ _ _ _ hs₁₀ fun vs' s₁₁ k₁₁ r₁₁ => ?_)
  · rfl
  have hs₁₁ := hs₁₀.kept k₁₁
  cases r₁₁ with
  | cons r1 r2 =>
  cases r2; cases r1
  refine ⟨hs₁₁.ctx hΓ', ?_⟩
  have pp := p₆.trans (p₇.trans (p₈.trans ((k₉.trans (k₁₀.trans k₁₁)).pres _)))
  have live5 : ∀ b o, b ≠ s.heap.objs.size → (h'.push go).get? b = some o → s₁₁.heap.get? b = some o := fun b o hb e => by
    by_cases hm : b ∈ hs
    · obtain ⟨o', e'⟩ := hl b hm
      obtain ⟨o'', e''⟩ : ∃ o'', (regrown s.heap Pt (#[] ++ #[rawInt 94, rawInt 13, .ref c'])).get? b = some o'' := by
        by_cases q : b = Pt
        · exact ⟨_, (congrArg _ q).trans hPself⟩
        · exact ⟨o', (Heap.get?_update_other _ _ (Ne.symm q)).trans e'⟩
      have := keepR b o'' e''
      rw [e] at this; cases this
      exact hs₁₁.keep b o e''
    · refine (pp b o (fun hh => ?_) e).2
      rcases List.mem_cons.mp hh with q | hh
      · exact hb q
      · exact hm hh
  have ne1 : ∀ {b}, b < h₃.objs.size → b ≠ s.heap.objs.size → b ∈ fp := fun h1 h2 => (mfp _).mpr ⟨h1, h2⟩
  have hCL : h₃.objs.size ≠ s.heap.objs.size := Nat.ne_of_gt hLC
  have haL : h'.objs.size ≠ s.heap.objs.size := by rw [hsz]; exact Nat.ne_of_gt (Nat.lt_succ_of_lt hLC)
  have kfp : ∀ b ∈ h'.objs.size :: h₃.objs.size :: fp, ∀ o, (h'.push go).get? b = some o → s₁₁.heap.get? b = some o := fun b hb o e => by
    refine live5 b o ?_ e
    rcases List.mem_cons.mp hb with rfl | hb
    · exact haL
    · rcases List.mem_cons.mp hb with rfl | hb
      · exact hCL
      · exact ((mfp b).mp hb).2
  obtain ⟨h₁₁, t₁₁, e₁₁⟩ := hs₁₁.same
  have hat₁₁ := W.frame 0 _ s₁₁.heap s₁₁.toks hat hs₁₁.late kfp
  have e11 : s₁₁ = { s₂ with heap := s₁₁.heap, gens := s₂.gens.push gs, toks := s₁₁.toks } := by rw [e₁₁]; rfl
  obtain ⟨ao, aex⟩ : ∃ o, s₁₁.heap.get? h'.objs.size = some o := ⟨_, kfp _ (List.mem_cons_self ..) _ (Heap.get?_push_size h' (by subst hgo; rfl))⟩
  have hasz := Heap.lt_size aex
  have hvs : vs.size = ws.length := by have := rs.length; rw [List.length_map, Array.length_toList] at this; exact this.symm
  refine SC.joinGen W.in4_2 (fun i s st => st.1.typeIs) (by rw [e11]; exact hat₁₁) (fun b hb => ?_) (List.mem_cons_self ..) (fun i v hv => ?_) (fun s' lt hm hacc => ?_) (by rw [passing_all, List.length_range, hvs]; exact Nat.le_trans hlen (by decide))
  · rcases List.mem_cons.mp hb with rfl | hb
    · exact hasz
    · refine Nat.lt_trans ?_ hasz
      rw [hsz]
      rcases List.mem_cons.mp hb with rfl | hb
      · exact Nat.lt_succ_self _
      · exact Nat.lt_succ_of_lt ((mfp b).mp hb).1
  · obtain ⟨_, _, u, e⟩ := hv
    exact ⟨_, _, e⟩
  · have hlt : lt.map (·.1) = ws.map fun p => strI p.1 := by
      apply List.ext_getElem?
      intro j
      have hsz : lt.length = ws.length := by
        have := hacc.1
        rw [passing_all, List.length_range, hvs] at this
        simpa [strValues] using this
      by_cases hj : j < ws.length
      · have hj' : j < lt.length := hsz ▸ hj
        obtain ⟨i, hi, u, hv⟩ := hacc.2 j (.str lt[j].1 lt[j].2) (by simp [strValues, List.getElem?_eq_getElem hj'])
        rw [passing_all, List.getElem?_range (by rw [hvs]; exact hj)] at hi
        cases hi
        injection hv with h1 _
        simp [List.getElem?_eq_getElem hj', hj, h1]
      · rw [List.getElem?_eq_none (by simpa [hsz] using Nat.le_of_not_lt hj), List.getElem?_eq_none (by simpa using Nat.le_of_not_lt hj)]
    rw [hlt]
    refine ⟨hj, fun t' kk => ?_⟩
    refine wpAny_mono (B2.add_str (x := fmtP ws ++ Str.ofString " ") (y := Txt.join (Str.ofString ", ") (ws.map fun p => strI p.1)) ?_ _ k [] _ _ _ _ hΓ'.rm (fun b hb => by cases hb) .str .str) (fun v s₁₂ h₁₂ => ?_) fun _ _ e => e
    · have : (fmtP ws).length ≤ 12 := by unfold fmtP; split <;> decide
      have e2 : (Str.ofString " ").length = 1 := rfl
      rw [Str.length_append]
      omega
    · obtain ⟨k₁₂, r₁₂⟩ := h₁₂
      obtain ⟨t₁₂, rfl⟩ := r₁₂.str_inv
      obtain ⟨h₁₂, tk₁₂, e₁₂⟩ := k₁₂.same
      refine hQ c' s₁₂ t₁₂ (fun b o e => k₁₂.get b o (hm.heap b o (fun hb => ?_) (hs₁₁.keep b o e))) ?_ ?_
      · have hb' := Heap.lt_size e
        rw [sizeR] at hb'
        rcases List.mem_cons.mp hb with rfl | hb
        · exact Nat.lt_irrefl _ (Nat.lt_trans hb' hLC)
        · rcases List.mem_cons.mp hb with rfl | hb
          · exact Nat.lt_irrefl _ (Nat.lt_trans hb' hLI)
          · cases hb
      · rw [e₁₂]
        refine hm.gens.bare ?_
        rw [e11]
        obtain ⟨_, _, e2⟩ := hs₂.same
        rw [e2]
        exact hg.push hbare
      · rw [e₁₂]
        refine hm.os.trans ?_
        rw [e11]
        obtain ⟨_, _, e2⟩ := hs₂.same
        rw [e2]; rfl
end
end Mine
end -- X5
section -- Q0
set_option maxRecDepth 100000
namespace Mine
noncomputable def sz2 (first : Nat) (sts : List Nat) : List Nat × List Nat := sts.foldl (fun p st => (p.1 ++ p.2.map (· + st), p.2 ++ p.1.map (· + st))) ([first], [])
noncomputable def lead (A : List Nat) : List Nat := A.flatMap fun d => List.replicate d 32 ++ [9]
noncomputable def pw (A : List Nat) (p : Nat) : Int := (A.map fun (r : Nat) => ((r : Int) ^ p)).sum
noncomputable def tabsOf (sts : List Nat) : Nat := 2 ^ (sts.length - 1)
noncomputable def signsOf (first : Nat) (sts : List Nat) : Nat := tabsOf sts * (first + 1) + tabsOf sts / 2 * sts.sum
noncomputable def difF (a : List Int) (s : Nat) : List Int := List.zipWith (fun x y => x - y) a (a.drop s)
noncomputable def totF (a : List Int) (s : Nat) : List Int := List.zipWith (fun x y => x + y) a (a.drop s)
theorem dif_eq (a : List Int) (s : Nat) : dif a s = difF a s := by
  apply List.ext_getElem
  · simp only [dif, difF, List.length_map, List.length_range, List.length_zipWith, List.length_drop]; omega
  · intro i h1 h2
    simp only [dif, List.length_map, List.length_range] at h1
    simp only [dif, difF, List.getElem_map, List.getElem_range, List.getElem_zipWith, List.getElem_drop]
    rw [List.getD_eq_getElem?_getD, List.getD_eq_getElem?_getD, List.getElem?_eq_getElem (show i < a.length by omega), List.getElem?_eq_getElem (show i + s < a.length by omega)]
    simp only [Option.getD_some, Nat.add_comm]
theorem tot_eq (a : List Int) (s : Nat) : tot a s = totF a s := by
  apply List.ext_getElem
  · simp only [tot, totF, List.length_map, List.length_range, List.length_zipWith, List.length_drop]; omega
  · intro i h1 h2
    simp only [tot, List.length_map, List.length_range] at h1
    simp only [tot, totF, List.getElem_map, List.getElem_range, List.getElem_zipWith, List.getElem_drop]
    rw [List.getD_eq_getElem?_getD, List.getD_eq_getElem?_getD, List.getElem?_eq_getElem (show i < a.length by omega), List.getElem?_eq_getElem (show i + s < a.length by omega)]
    simp only [Option.getD_some, Nat.add_comm]
noncomputable def columnsF (first : Nat) (sts : List Nat) (size : Nat) : Int × Int :=
  let apart := (sts.foldl difF (col0 first sts size)).getD 0 0
  let total := (sts.foldl totF (col0 first sts size)).getD 0 0 + (2 : Int) ^ sts.length
  (((size : Int) * (total + apart)).fdiv 2, ((size : Int) * (total - apart)).fdiv 2)
theorem columns_eq (first : Nat) (sts : List Nat) (size : Nat) : columns first sts size = columnsF first sts size := by
  unfold columns columnsF
  rw [show dif = difF from funext fun a => funext fun s => dif_eq a s, show tot = totF from funext fun a => funext fun s => tot_eq a s]
noncomputable def toldF (first : Nat) (sts : List Nat) : List (Int × Int × Int) :=
  ((List.range (first + sts.sum + 1)).filter fun i => (sts.filter fun st => st % (1 + i) == 0).isEmpty && ((columnsF first sts (1 + i)).1 != (columnsF first sts (1 + i)).2)).map fun (i : Nat) => (((1 + i : Nat) : Int), (columnsF first sts (1 + i)).1, (columnsF first sts (1 + i)).2)
noncomputable def told (first : Nat) (sts : List Nat) : List (Int × Int × Int) :=
  ((List.range (first + sts.sum + 1)).filter fun i => (sts.filter fun st => st % (1 + i) == 0).isEmpty && ((columns first sts (1 + i)).1 != (columns first sts (1 + i)).2)).map fun (i : Nat) => (((1 + i : Nat) : Int), (columns first sts (1 + i)).1, (columns first sts (1 + i)).2)
theorem told_eq (first : Nat) (sts : List Nat) : told first sts = toldF first sts := by
  unfold told toldF
  simp only [columns_eq]
noncomputable def aheadOf (l : List (Int × Int × Int)) : Nat := (l.map fun r => r.2.1 - r.2.2).foldl (fun m x => max m x.toNat) 0
noncomputable def maxOf (A : List Nat) : Nat := A.foldl max 0
noncomputable def wdL (l : List Nat) : Wd := wdOf (mkS l)
/-- the count of a row's spaces, a row at a time -/
noncomputable def bump (cnt : List Nat) (d : Nat) : List Nat := (pad cnt d).set d ((pad cnt d).getD d 0 + 1)
noncomputable def wsF (A : List Nat) (m : Nat) : WS := ⟨(A.map (· + 1)).sum + m, A.length, m, A.foldl bump []⟩
theorem step_spaces : ∀ (d : Nat) (st : WS), (List.replicate d 32).foldl WS.step st = ⟨st.n + d, st.nt, st.b + d, st.cnt⟩
  | 0, st => rfl
  | d + 1, st => by
    rw [List.replicate_succ, List.foldl_cons, step_spaces d]
    have e : WS.step st 32 = ⟨st.n + 1, st.nt, st.b + 1, st.cnt⟩ := rfl
    rw [e]
    simp only [WS.mk.injEq, and_true, true_and]
    omega
theorem step_lead : ∀ (A : List Nat) (n nt : Nat) (cnt : List Nat), (lead A).foldl WS.step ⟨n, nt, 0, cnt⟩ = ⟨n + (A.map (· + 1)).sum, nt + A.length, 0, A.foldl bump cnt⟩
  | [], n, nt, cnt => rfl
  | d :: A, n, nt, cnt => by
    have e : lead (d :: A) = (List.replicate d 32 ++ [9]) ++ lead A := rfl
    rw [e, List.foldl_append, List.foldl_append, step_spaces, List.foldl_cons, List.foldl_nil]
    have e9 : WS.step ⟨n + d, nt, 0 + d, cnt⟩ 9 = ⟨n + d + 1, nt + 1, 0, bump cnt d⟩ := by rw [Nat.zero_add]; rfl
    rw [e9, step_lead A]
    simp only [List.map_cons, List.sum_cons, List.length_cons, List.foldl_cons, WS.mk.injEq, and_true]
    omega
theorem wsOf_lead (A : List Nat) (m : Nat) : wsOf (lead A ++ List.replicate m 32) = wsF A m := by
  unfold wsOf wsF
  rw [List.foldl_append, step_lead, step_spaces]
  simp only [WS.mk.injEq, and_true]
  omega
noncomputable def wdF (A : List Nat) (m : Nat) : Wd := ⟨mkS (lead A ++ List.replicate m 32), (wsF A m).n, (wsF A m).nt, (wsF A m).cnt.map fun (i : Nat) => (i : Int), (wsF A m).b⟩
theorem wdF_eq (A : List Nat) (m : Nat) : wdF A m = wdL (lead A ++ List.replicate m 32) := by
  unfold wdF wdL wdOf
  rw [mkS_list, wsOf_lead]
theorem wdF_zero (A : List Nat) : wdF A 0 = wdL (lead A) := by rw [wdF_eq, List.replicate_zero, List.append_nil]
/-- the indent, walking along the counts -/
noncomputable def indS (ts : Nat) : List Int → Nat → Int
  | [], _ => 0
  | c :: r, j => ((j / ts : Nat) : Int) * c + indS ts r (j + 1)
theorem indS_eq (ts : Nat) : ∀ (l : List Int) (j : Nat), indS ts l j = ((List.range l.length).map fun i => (((j + i) / ts : Nat) : Int) * l.getD i 0).sum
  | [], j => rfl
  | c :: r, j => by
    rw [List.length_cons, List.range_succ_eq_map, List.map_cons, List.sum_cons, List.map_map, indS, indS_eq ts r (j + 1)]
    congr 1
    congr 1
    apply List.map_congr_left
    intro i _
    show _ = (((j + (i + 1)) / ts : Nat) : Int) * (c :: r).getD (i + 1) 0
    rw [show j + (i + 1) = j + 1 + i by omega]
    rfl
noncomputable def indF (d : Wd) (ts : Nat) : Int := d.b + (ts : Int) * (indS ts (d.cnt.drop ts) ts + d.nt)
theorem indF_eq (d : Wd) (ts : Nat) : d.indent ts = indF d ts := by
  unfold Wd.indent indF
  rw [indS_eq, List.length_drop]
  congr 3
  congr 1
  apply List.map_congr_left
  intro i _
  congr 1
  rw [List.getD_eq_getElem?_getD, List.getD_eq_getElem?_getD, List.getElem?_drop]
noncomputable def newitF (d e : Wd) : List (Int × Int × Int) := ((List.range (wide d e + 1)).filter fun i => indF d (1 + i) != indF e (1 + i)).map fun (i : Nat) => (((1 + i : Nat) : Int), indF d (1 + i), indF e (1 + i))
noncomputable def nlwitF (d e : Wd) : List (Int × Int × Int) := ((List.range (wide d e + 1)).filter fun i => decide (indF d (1 + i) ≥ indF e (1 + i))).map fun (i : Nat) => (((1 + i : Nat) : Int), indF d (1 + i), indF e (1 + i))
noncomputable def lessF (d e : Wd) : Bool := if d.n ≥ e.n then false else if (decide (d.cnt.length ≤ 1) && decide (e.cnt.length ≤ 1)) = true then decide (d.nt ≤ e.nt) else !((List.range (wide d e)).any fun i => decide (indF d (2 + i) ≥ indF e (2 + i)))
theorem newitF_eq (d e : Wd) : newit d e = newitF d e := by unfold newit newitF; simp only [indF_eq]
theorem nlwitF_eq (d e : Wd) : nlwit d e = nlwitF d e := by unfold nlwit nlwitF; simp only [indF_eq]
theorem lessF_eq (d e : Wd) : lessW d e = lessF d e := by unfold lessW lessF; simp only [indF_eq]
noncomputable def okW (d : Wd) : Bool := decide (d.cnt.length ≤ 1000) && decide (0 ≤ d.b) && decide (d.b ≤ 1000)
noncomputable def goodLead (first : Nat) (sts : List Nat) (A : List Nat) : Bool :=
  let W := wdF A 0
  let m := maxOf A
  let t := tabsOf sts
  let bare := wdL (List.replicate t 9)
  (W.n == (signsOf first sts : Int)) && (W.nt == (t : Int)) && (W.cnt == (List.range (m + 1)).map fun (i : Nat) => ((A.count i : Nat) : Int)) && (W.b == 0) && (lessF bare W == false) && (nlwitF bare W == [(((m + 1 : Nat) : Int), ((m + 1 : Nat) : Int) * (t : Int), ((m + 1 : Nat) : Int) * (t : Int))])
    && decide (1 ≤ A.length) && decide (A.length ≤ 8) && A.all (fun r => decide (1 ≤ r) && decide (r ≤ 20)) && decide (m ∈ A) && okW W && okW bare
noncomputable def eqW (d e : Wd) : Bool := decide (d.cnt = e.cnt) && decide (d.b = e.b)
noncomputable def good (first : Nat) (sts : List Nat) : Bool :=
  let A := rowsOf first sts 0
  let B := rowsOf first sts 1
  let WA := wdF A 0
  let WB := wdF B 0
  let TA := wdF A.reverse 0
  let TB := wdF B.reverse 0
  let T := toldF first sts
  let ah := aheadOf T
  let X := wdF B ah
  let Y := wdF B (ah + 1)
  let lo := if ah + 1 > first + sts.sum then ah + 1 else first + sts.sum
  (sz2 first sts == (A, B)) && goodLead first sts A && goodLead first sts B && ((List.range (sts.length + 2)).all fun p => 2 * (pw A p - pw B p) == twice first sts p)
    && (eqW WA TA == true) && (eqW WA TB == false) && (eqW WB TA == false) && (eqW WB TB == true) && (newitF WA WB == T) && (lessF WA X == false) && (lessF WA Y == true)
    && ((newitF WA Y).map (·.1) == (List.range (lo + 1)).map fun (i : Nat) => (1 : Int) + (i : Int)) && okW X && okW Y && okW TA && okW TB && decide (ah ≤ 500) && T.all (fun r => decide (0 ≤ r.1) && decide (r.1 ≤ 100)) && decide (T.length ≤ 100)
    && (T.all fun r => decide ((r.2.1 - r.2.2 : Int) ≤ (ah : Int))) && (decide (ah = 0) || T.any fun r => r.2.1 - r.2.2 == (ah : Int))
noncomputable def allS : Nat → List (List Nat)
  | 0 => [[]]
  | n + 1 => (allS n).flatMap fun l => [1 :: l, 2 :: l, 3 :: l]
theorem all_of_chunks {α : Type} {l : List α} {p : α → Bool} (h : ∀ j < 9, ((l.drop (9 * j)).take 9).all p = true) (hl : l.length ≤ 81) : l.all p = true := by
  rw [List.all_eq_true]
  intro x hx
  obtain ⟨i, hi, rfl⟩ := List.getElem_of_mem hx
  have hj := h (i / 9) (by omega)
  rw [List.all_eq_true] at hj
  refine hj _ (List.mem_iff_getElem?.mpr ⟨i % 9, ?_⟩)
  rw [List.getElem?_take, if_pos (Nat.mod_lt _ (by decide)), List.getElem?_drop, show 9 * (i / 9) + i % 9 = i by omega, List.getElem?_eq_getElem hi]
end Mine
end -- Q0
section -- Q1
set_option maxRecDepth 100000
set_option maxHeartbeats 0
namespace Mine
theorem good2_1 : ((allS 2).all fun s => good 1 s) = true := by decide +kernel
theorem good2_2 : ((allS 2).all fun s => good 2 s) = true := by decide +kernel
theorem good2_3 : ((allS 2).all fun s => good 3 s) = true := by decide +kernel
theorem good3_1_0 : ((((allS 3).drop (9 * 0)).take 9).all fun s => good 1 s) = true := by decide +kernel
theorem good3_1_1 : ((((allS 3).drop (9 * 1)).take 9).all fun s => good 1 s) = true := by decide +kernel
theorem good3_1_2 : ((((allS 3).drop (9 * 2)).take 9).all fun s => good 1 s) = true := by decide +kernel
theorem good3_1 : ((allS 3).all fun s => good 1 s) = true := all_of_chunks (fun j hj => match j, hj with
  | 0, _ => good3_1_0
  | 1, _ => good3_1_1
  | 2, _ => good3_1_2
  | 3, _ => rfl
  | 4, _ => rfl
  | 5, _ => rfl
  | 6, _ => rfl
  | 7, _ => rfl
  | 8, _ => rfl
  | n + 9, h => absurd h (by omega)) (by decide)
theorem good3_2_0 : ((((allS 3).drop (9 * 0)).take 9).all fun s => good 2 s) = true := by decide +kernel
theorem good3_2_1 : ((((allS 3).drop (9 * 1)).take 9).all fun s => good 2 s) = true := by decide +kernel
theorem good3_2_2 : ((((allS 3).drop (9 * 2)).take 9).all fun s => good 2 s) = true := by decide +kernel
theorem good3_2 : ((allS 3).all fun s => good 2 s) = true := all_of_chunks (fun j hj => match j, hj with
  | 0, _ => good3_2_0
  | 1, _ => good3_2_1
  | 2, _ => good3_2_2
  | 3, _ => rfl
  | 4, _ => rfl
  | 5, _ => rfl
  | 6, _ => rfl
  | 7, _ => rfl
  | 8, _ => rfl
  | n + 9, h => absurd h (by omega)) (by decide)
theorem good3_3_0 : ((((allS 3).drop (9 * 0)).take 9).all fun s => good 3 s) = true := by decide +kernel
theorem good3_3_1 : ((((allS 3).drop (9 * 1)).take 9).all fun s => good 3 s) = true := by decide +kernel
theorem good3_3_2 : ((((allS 3).drop (9 * 2)).take 9).all fun s => good 3 s) = true := by decide +kernel
theorem good3_3 : ((allS 3).all fun s => good 3 s) = true := all_of_chunks (fun j hj => match j, hj with
  | 0, _ => good3_3_0
  | 1, _ => good3_3_1
  | 2, _ => good3_3_2
  | 3, _ => rfl
  | 4, _ => rfl
  | 5, _ => rfl
  | 6, _ => rfl
  | 7, _ => rfl
  | 8, _ => rfl
  | n + 9, h => absurd h (by omega)) (by decide)
theorem good4_1_0 : ((((allS 4).drop (9 * 0)).take 9).all fun s => good 1 s) = true := by decide +kernel
theorem good4_1_1 : ((((allS 4).drop (9 * 1)).take 9).all fun s => good 1 s) = true := by decide +kernel
theorem good4_1_2 : ((((allS 4).drop (9 * 2)).take 9).all fun s => good 1 s) = true := by decide +kernel
theorem good4_1_3 : ((((allS 4).drop (9 * 3)).take 9).all fun s => good 1 s) = true := by decide +kernel
theorem good4_1_4 : ((((allS 4).drop (9 * 4)).take 9).all fun s => good 1 s) = true := by decide +kernel
theorem good4_1_5 : ((((allS 4).drop (9 * 5)).take 9).all fun s => good 1 s) = true := by decide +kernel
theorem good4_1_6 : ((((allS 4).drop (9 * 6)).take 9).all fun s => good 1 s) = true := by decide +kernel
theorem good4_1_7 : ((((allS 4).drop (9 * 7)).take 9).all fun s => good 1 s) = true := by decide +kernel
theorem good4_1_8 : ((((allS 4).drop (9 * 8)).take 9).all fun s => good 1 s) = true := by decide +kernel
theorem good4_1 : ((allS 4).all fun s => good 1 s) = true := all_of_chunks (fun j hj => match j, hj with
  | 0, _ => good4_1_0
  | 1, _ => good4_1_1
  | 2, _ => good4_1_2
  | 3, _ => good4_1_3
  | 4, _ => good4_1_4
  | 5, _ => good4_1_5
  | 6, _ => good4_1_6
  | 7, _ => good4_1_7
  | 8, _ => good4_1_8
  | n + 9, h => absurd h (by omega)) (by decide)
theorem good4_2_0 : ((((allS 4).drop (9 * 0)).take 9).all fun s => good 2 s) = true := by decide +kernel
theorem good4_2_1 : ((((allS 4).drop (9 * 1)).take 9).all fun s => good 2 s) = true := by decide +kernel
theorem good4_2_2 : ((((allS 4).drop (9 * 2)).take 9).all fun s => good 2 s) = true := by decide +kernel
theorem good4_2_3 : ((((allS 4).drop (9 * 3)).take 9).all fun s => good 2 s) = true := by decide +kernel
theorem good4_2_4 : ((((allS 4).drop (9 * 4)).take 9).all fun s => good 2 s) = true := by decide +kernel
theorem good4_2_5 : ((((allS 4).drop (9 * 5)).take 9).all fun s => good 2 s) = true := by decide +kernel
theorem good4_2_6 : ((((allS 4).drop (9 * 6)).take 9).all fun s => good 2 s) = true := by decide +kernel
theorem good4_2_7 : ((((allS 4).drop (9 * 7)).take 9).all fun s => good 2 s) = true := by decide +kernel
theorem good4_2_8 : ((((allS 4).drop (9 * 8)).take 9).all fun s => good 2 s) = true := by decide +kernel
theorem good4_2 : ((allS 4).all fun s => good 2 s) = true := all_of_chunks (fun j hj => match j, hj with
  | 0, _ => good4_2_0
  | 1, _ => good4_2_1
  | 2, _ => good4_2_2
  | 3, _ => good4_2_3
  | 4, _ => good4_2_4
  | 5, _ => good4_2_5
  | 6, _ => good4_2_6
  | 7, _ => good4_2_7
  | 8, _ => good4_2_8
  | n + 9, h => absurd h (by omega)) (by decide)
theorem good4_3_0 : ((((allS 4).drop (9 * 0)).take 9).all fun s => good 3 s) = true := by decide +kernel
theorem good4_3_1 : ((((allS 4).drop (9 * 1)).take 9).all fun s => good 3 s) = true := by decide +kernel
theorem good4_3_2 : ((((allS 4).drop (9 * 2)).take 9).all fun s => good 3 s) = true := by decide +kernel
theorem good4_3_3 : ((((allS 4).drop (9 * 3)).take 9).all fun s => good 3 s) = true := by decide +kernel
theorem good4_3_4 : ((((allS 4).drop (9 * 4)).take 9).all fun s => good 3 s) = true := by decide +kernel
theorem good4_3_5 : ((((allS 4).drop (9 * 5)).take 9).all fun s => good 3 s) = true := by decide +kernel
theorem good4_3_6 : ((((allS 4).drop (9 * 6)).take 9).all fun s => good 3 s) = true := by decide +kernel
theorem good4_3_7 : ((((allS 4).drop (9 * 7)).take 9).all fun s => good 3 s) = true := by decide +kernel
theorem good4_3_8 : ((((allS 4).drop (9 * 8)).take 9).all fun s => good 3 s) = true := by decide +kernel
theorem good4_3 : ((allS 4).all fun s => good 3 s) = true := all_of_chunks (fun j hj => match j, hj with
  | 0, _ => good4_3_0
  | 1, _ => good4_3_1
  | 2, _ => good4_3_2
  | 3, _ => good4_3_3
  | 4, _ => good4_3_4
  | 5, _ => good4_3_5
  | 6, _ => good4_3_6
  | 7, _ => good4_3_7
  | 8, _ => good4_3_8
  | n + 9, h => absurd h (by omega)) (by decide)
end Mine
end -- Q1
section -- F9
set_option maxRecDepth 100000
namespace Mine
noncomputable def bodyOf : FuncBody → List Stmt
  | .stmts l => l
  | _ => []
noncomputable def nth : List Stmt → Nat → Stmt
  | [], _ => .Pass ⟨0, 0, 0, 0⟩
  | t :: _, 0 => t
  | _ :: r, n + 1 => nth r n
noncomputable def lawS (i : Nat) : Stmt := nth (bodyOf fd213.1.body) i
noncomputable abbrev LG (prog : Program) (w : World) (P : Params) (mg mb : Str → Option Value) (A : Around) (hs : List Addr) (s : Shared) (n : Nat) : Fx := Fx.fn prog w A (Cx P mg mb) 12 fd213.1 213 hs s n
section
variable {prog : Program} {w : World} {P : Params} {mg mb : Str → Option Value} {A : Around} {hs : List Addr} {s : Shared} {n : Nat} {ρ : Loc}

theorem EV.heap0 {h0 : Nat} {hr : List Nat} {p q r : Pos} {kk : Nat} (hΓ : (LG prog w P mg mb A hs s n).Ok) (h : ρ (Str.ofString "heaps") = some (.list (iints (h0 :: hr)))) :
    EV (LG prog w P mg mb A hs s n) ρ Option.none (.Subscript (.Name (Str.ofString "heaps") p) (.Constant (.int 0) kk q) r) (.int (h0 : Int)) :=
  EV.sub hΓ (EV.name hΓ h) EV.int (GI.list (by decide) (by decide) rfl) fun _ _ => rfl

theorem law0 {ns : List Int} (hΓ : (LG prog w P mg mb A hs s n).Ok) (h : ρ (Str.ofString "script") = some (.list (zints ns))) (hl : ns.length ≤ 1000) :
    S1 (LG prog w P mg mb A hs s n) ρ none (lawS 0) (.next (up ρ (Str.ofString "heaps") (.list (zints (heapsOf ns)))) none) :=
  S1.asg hΓ (EV.call hΓ (EV1.glob hΓ gl170 rfl) (.fn fun h c => ⟨_, _, c.k _ _ (fd170.2 P), rfl⟩) (.cons (EV.name hΓ h) rfl .nil) (c_heaps (k := 5) hl (by decide)) (show 6 ≤ 12 by decide) (by decide) rfl) (own_fn (.inl rfl)) no_mu rfl
theorem law2 {h0 : Nat} {hr : List Nat} (hΓ : (LG prog w P mg mb A hs s n).Ok) (h : ρ (Str.ofString "heaps") = some (.list (iints (h0 :: hr)))) :
    S1 (LG prog w P mg mb A hs s n) ρ none (lawS 2) (.next (up ρ (Str.ofString "many") (.int ((h0 / 3 % 3 + 2 : Nat) : Int))) none) :=
  S1.asg hΓ (EV.cast (EV.bin hΓ (EV.bin hΓ (EV.bin hΓ (EV.heap0 hΓ h) EV.int (B2.floordiv_int (by decide) (by decide))) EV.int (B2.mod_int (by decide))) EV.int B2.add_int)
    (by rw [show (3 : Int) = ((3 : Nat) : Int) from rfl, fdiv_nat, fmod_nat]; rfl)) (own_fn (.inl rfl)) no_mu rfl
theorem law6 (hΓ : (LG prog w P mg mb A hs s n).Ok) : S1 (LG prog w P mg mb A hs s n) ρ none (lawS 6) (.next (up ρ (Str.ofString "two") (.str (mkS (txt [])))) none) :=
  S1.asg hΓ (EV.cast EV.str rfl) (own_fn (.inl rfl)) no_mu rfl

theorem Fx.Ok.refloor {Γ : Fx} (h : Γ.Ok) (m : Nat) : ({ Γ with n := m } : Fx).Ok :=
  ⟨h.kind, h.handled, h.depth, h.units, h.room, h.nodbg, h.glob, h.bns, h.ctx, h.mono, h.hidL, h.newL, h.cells, h.apart, h.pinH⟩
theorem St.refloor {Γ : Fx} {ρ : Loc} {a : Addr} {s : Shared} (h : St Γ ρ none a s) (m : Nat) (hm : m ≤ s.toks) : St ({ Γ with n := m } : Fx) ρ none a s := by
  obtain ⟨h1, h2, h3, h4, h5, h6, h7, m', h8, h9, h10⟩ := h
  exact ⟨h1, hm, h3, h4, h5, h6, h7, m', h8, fun x d hx => (by
    obtain ⟨v, l, r⟩ := h9 x d hx
    refine ⟨v, ?_, r⟩
    cases l with
    | loc q1 q2 => exact .loc q1 q2
    | cell q1 q2 q3 => exact .cell q1 q2 q3), fun _ _ q => (by cases q)⟩

theorem law1 {h0 : Nat} {hr : List Nat} {a : Addr} {s₁ : Shared} {E : Value → Shared → Prop} {Q : Flow → Shared → Prop} (hΓ : (LG prog w P mg mb A hs s 0).Ok) (h : ρ (Str.ofString "heaps") = some (.list (iints (h0 :: hr)))) (hst : St (LG prog w P mg mb A hs s 0) ρ none a s₁)
    (hq : ∀ a' s', St (LG prog w P mg mb A hs s 1) (up ρ (Str.ofString "first") (.int ((h0 % 3 + 1 : Nat) : Int))) none a' s' → Q .next s') :
    wpAny (LG prog w P mg mb A hs s 0).M (LG prog w P mg mb A hs s 0).A (exec (lawS 1) (LG prog w P mg mb A hs s 0).env) Q E s₁ := by
  refine wpAny_Assign_Name (wpAny_BinOp (wpAny_mono (EV.bin hΓ (EV.heap0 hΓ h) EV.int (B2.mod_int (by decide)) a s₁ _ hst) (fun v s₂ h₂ => wpAny_Constant_int ?_) fun _ _ e => e)) rfl
  obtain ⟨k₂, r₂⟩ := h₂
  have hs₂ := hst.kept k₂
  have hs₃ := hs₂.kept (Kp.tok s₂ (s₂.toks + 1))
  refine wpAny_mono (B2.add_int _ 12 [] _ _ _ _ hΓ.rm (fun b hb => by cases hb) (by cases r₂; exact .int) .int) (fun v' s₄ h₄ => ?_) fun _ _ e => e
  obtain ⟨k₄, r₄⟩ := h₄
  have hs₄ := (hs₃.kept k₄).refloor 1 (Nat.le_trans (Nat.succ_le_succ (Nat.zero_le _)) k₄.tk)
  refine wpAny_mono (St.store (Γ := LG prog w P mg mb A hs s 1) (hΓ.refloor 1) hs₄ (own_fn (.inl rfl)) (d := .int ((h0 % 3 + 1 : Nat) : Int)) ?_ no_mu) (fun _ s₅ h₅ => hq a s₅ h₅.1) fun _ _ e => e
  cases r₄
  rw [show ((h0 : Int).fmod 3 + 1) = ((h0 % 3 + 1 : Nat) : Int) by rw [show (3 : Int) = ((3 : Nat) : Int) from rfl, fmod_nat]; rfl]
  exact .int

noncomputable def eol (j : Nat) : List Nat := eols.getD j []
theorem eol_mem {j : Nat} (h : j < 3) : eol j ∈ eols := by
  match j, h with
  | 0, _ => decide
  | 1, _ => decide
  | 2, _ => decide
noncomputable def typedPV (t : Nat) : PV := .list [.val (.str (mkS (eol 0)) t), .val (.str (mkS (eol 1)) (t + 1)), .val (.str (mkS (eol 2)) (t + 2))]
theorem law4 {a : Addr} {s₁ : Shared} {E : Value → Shared → Prop} {Q : Flow → Shared → Prop} (hΓ : (LG prog w P mg mb A hs s 1).Ok) (hst : St (LG prog w P mg mb A hs s 1) ρ none a s₁)
    (hq : ∀ t a' s', 1 ≤ t → St (LG prog w P mg mb A hs s (t + 3)) (up ρ (Str.ofString "typed") (typedPV t)) none a' s' → Q .next s') :
    wpAny (LG prog w P mg mb A hs s 1).M (LG prog w P mg mb A hs s 1).A (exec (lawS 4) (LG prog w P mg mb A hs s 1).env) Q E s₁ := by
  refine wpAny_Assign_Name (List_ (Calls.spliced_cons (wpAny_Constant_str (k := 0) (pos := ⟨151, 13, 151, 17⟩) (Calls.spliced_cons (wpAny_Constant_str (k := 0) (pos := ⟨151, 19, 151, 23⟩) (Calls.spliced_cons (wpAny_Constant_str (k := 0) (pos := ⟨151, 25, 151, 31⟩) (Calls.spliced_nil ?_)))))))) rfl
  have k₂ : Kp s₁ { s₁ with toks := s₁.toks + 1 + 1 + 1 } := Kp.tok s₁ _ (by omega)
  have hs₂ := hst.kept k₂
  refine wpAny_newObj_type ?_ (show (3 : Nat) ≤ sizeLine by decide)
  have k₃ := k₂.trans (push_kp { s₁ with toks := s₁.toks + 1 + 1 + 1 } { cls := .type "list", data := .seq #[.str (mkS (eol 0)) s₁.toks, .str (mkS (eol 1)) (s₁.toks + 1), .str (mkS (eol 2)) (s₁.toks + 1 + 1)] })
  have hs₃ := (hst.kept k₃).refloor (s₁.toks + 3) (Nat.le_refl _)
  refine wpAny_mono (St.store (Γ := LG prog w P mg mb A hs s (s₁.toks + 3)) (hΓ.refloor _) hs₃ (own_fn (.inl rfl)) (d := typedPV s₁.toks) ?_ no_mu) (fun _ s₅ h₅ => hq s₁.toks a s₅ hst.floor h₅.1) fun _ _ e => e
  exact new_list hs₂.live (.cons .val (.cons .val (.cons .val .nil)))
end
end Mine
end -- F9
section -- F10
set_option maxRecDepth 100000
namespace Mine
theorem iints_drop (l : List Nat) (n : Nat) : (iints l).drop n = iints (l.drop n) := by simp [iints]
theorem iints_take (l : List Nat) (n : Nat) : (iints l).take n = iints (l.take n) := by simp [iints]
theorem iints_length (l : List Nat) : (iints l).length = l.length := by simp [iints]
theorem iints_map {α : Type} (l : List α) (g : α → Nat) : iints (l.map g) = l.map fun m => PV.int ((g m : Nat) : Int) := by unfold iints; rw [List.map_map]; rfl
theorem flat_one (c : Nat) : ∀ n : Nat, (List.replicate n [c]).flatten = List.replicate n c
  | 0 => rfl
  | n + 1 => by rw [List.replicate_succ, List.flatten_cons, flat_one c n]; rfl
theorem reps_one (x : Str) (c : Nat) (n : Nat) (hx : x.cps.toList = [c]) : reps x n = mkS (List.replicate n c) := by unfold reps; rw [hx, flat_one]; rfl
theorem mkS_app (a b : List Nat) : mkS a ++ mkS b = mkS (a ++ b) := str_ext (by rw [cps_app]; simp [mkS])
section
variable {prog : Program} {w : World} {P : Params} {mg mb : Str → Option Value} {A : Around} {hs : List Addr} {s : Shared} {n : Nat} {ρ : Loc}
theorem law3 {hp : List Nat} {many : Nat} (hΓ : (LG prog w P mg mb A hs s n).Ok) (h : ρ (Str.ofString "heaps") = some (.list (iints hp))) (hl : hp.length = 5) (hm : ρ (Str.ofString "many") = some (.int ((many : Nat) : Int))) (hm4 : many ≤ 4) :
    S1 (LG prog w P mg mb A hs s n) ρ none (lawS 3) (.next (up ρ (Str.ofString "steps") (.list (iints (((hp.drop 1).take many).map fun h => h % 3 + 1)))) none) := by
  refine S1.asgc hΓ (compok rfl rfl rfl ⟨rfl, rfl⟩ rfl trivial) (IT.list hΓ (EV.slice hΓ (ys := iints ((hp.drop 1).take many)) (EV.name hΓ h) (.yes EV.int) (.yes (EV.cast (EV.bin hΓ (EV.name hΓ hm) EV.int B2.add_int) (show PV.int _ = PV.int ((many + 1 : Nat) : Int) from rfl))) .no (by decide)
    (fun G items hq => ?_) (by rw [iints_length, hl]; decide) (fun _ _ => rfl))) (rs := iints (((hp.drop 1).take many).map fun h => h % 3 + 1)) ?_ (fun _ => rfl) ?_ (own_fn (.inl rfl)) no_mu rfl
  · have := pick_run 1 (many + 1) (by rw [iints_length, hl]; decide) (by rw [iints_length, hl]; omega) items hq
    rw [iints_drop, iints_take] at this
    exact this
  · rw [iints_map]
    exact CL.map _ (fun (m : Nat) => PV.int (m : Int)) _ (fun m hm C bs s' hΓ' => EV.cast (EV.bin hΓ' (EV.bin hΓ' (EV.name hΓ' rfl) EV.int (B2.mod_int (by decide))) EV.int B2.add_int)
      (by rw [show (3 : Int) = ((3 : Nat) : Int) from rfl, fmod_nat]; rfl))
  · rw [iints_length, List.length_map, List.length_take]; unfold sizeLine; omega

theorem GI.typed {t j : Nat} (hj : j < 3) : GI prog w (typedPV t) (.int (j : Int)) (.val (.str (mkS (eol j)) (t + j))) := by
  match j, hj with
  | 0, _ => exact GI.list (by decide) (by decide) rfl
  | 1, _ => exact GI.list (by decide) (by decide) rfl
  | 2, _ => exact GI.list (by decide) (by decide) rfl
theorem law5 {h0 first t : Nat} {hr : List Nat} (hΓ : (LG prog w P mg mb A hs s n).Ok) (h : ρ (Str.ofString "heaps") = some (.list (iints (h0 :: hr)))) (hf : ρ (Str.ofString "first") = some (.int (first : Int))) (hf1 : first ≤ 100) (ht : ρ (Str.ofString "typed") = some (typedPV t)) :
    S1 (LG prog w P mg mb A hs s n) ρ none (lawS 5) (.next (up ρ (Str.ofString "one") (.str (mkS (txt [(first, eol (h0 / 9 % 3))])))) none) := by
  have hj : h0 / 9 % 3 < 3 := Nat.mod_lt _ (by decide)
  have hel := eol_len (eol_mem hj)
  refine S1.asg hΓ (EV.cast (EV.call hΓ (EV1.glob hΓ gl52 rfl) (.fn fun h c => ⟨_, _, c.k _ _ (fd52.2 P), rfl⟩) (.cons (EV.cast (EV.call hΓ (EV1.glob hΓ gl45 rfl) (.fn fun h c => ⟨_, _, c.k _ _ (fd45.2 P), rfl⟩) (.cons EV.str rfl (.cons (EV.name hΓ hf) rfl .nil))
    (c_mul (k := 5) (B2.mul_str (by decide) (by omega)) (by decide)) (show 6 ≤ 12 by decide) (by decide) rfl) (show PV.str _ = PV.str (mkS (List.replicate first 46)) by rw [reps_one _ 46 first rfl])) rfl
    (.cons (EV.unval (EV.sub hΓ (EV.name hΓ ht) (EV.cast (EV.bin hΓ (EV.bin hΓ (EV.heap0 hΓ h) EV.int (B2.floordiv_int (by decide) (by decide))) EV.int (B2.mod_int (by decide))) (show PV.int _ = PV.int ((h0 / 9 % 3 : Nat) : Int) by rw [show (9 : Int) = ((9 : Nat) : Int) from rfl, show (3 : Int) = ((3 : Nat) : Int) from rfl, fdiv_nat, fmod_nat])) (GI.typed hj) fun _ _ => rfl)) rfl .nil))
    (c_concat (k := 5) (by rw [mkS_length, mkS_length, List.length_replicate]; unfold sizeLine; omega) (by decide)) (show 6 ≤ 12 by decide) (by decide) rfl) ?_) (own_fn (.inl rfl)) no_mu rfl
  rw [mkS_app]; simp [txt]
end
end Mine
end -- F10
section -- F11
set_option maxRecDepth 100000
namespace Mine
section
variable {Γ : Fx} {ρ : Loc} {mu : Mu}
theorem EV.callf (hΓ : Γ.Ok) {f fv args ds d pos} (h1 : EV1 Γ ρ mu f fv) (hk : Kee Γ.C fv) (ha : EVs Γ ρ mu args ds) {k n} (hc : CSf Γ.prog Γ.w Γ.C k n fv ds d) (hn : n ≤ Γ.n) (hk' : k ≤ Γ.k) (h5 : 5 ≤ k)
    (he : eval (.Call f args [] pos) Γ.env = (do callWith pos (← eval f Γ.env) [] (backTo pos (starEach args Γ.env)) (backToKw pos (keywordEach [] Γ.env)))) : EV Γ ρ mu (.Call f args [] pos) d := fun a s E hs => by
  rw [he]
  refine wpAny_bind (wpAny_mono (h1 a s E hs) (fun v s1 h1 => ?_) fun _ _ e => e)
  obtain ⟨k1, rfl⟩ := h1
  refine callWith_any hk ha.plain (ha.spliced a s1 E _ (hs.kept k1) fun vs s2 k2 r2 => ?_)
  have hs2 := (hs.kept k1).kept k2
  exact ⟨hs2.ctx hΓ, wpAny_mono (hc Γ.A (Γ.hids mu a) s2 vs E ⟨hΓ.handled, by have := hΓ.depth; omega, by have := hΓ.units; omega, h5⟩ (hs2.ctx hΓ) (Nat.le_trans hn hs2.floor) hs2.live r2) (fun v s3 h3 => ⟨(k1.trans k2).trans h3.1, h3.2⟩) fun _ _ e => e⟩
end
section
variable {prog : Program} {w : World} {P : Params} {mg mb : Str → Option Value} {A : Around} {hs : List Addr} {s : Shared} {ρ : Loc}
noncomputable def B7 : List Stmt := forBody fd213.1.body 7
theorem body7 {t h st b : Nat} {R1 R2 : List (Nat × List Nat)} {T : Addr} {o : Obj} (ht0 : 1 ≤ t) (hΓ : ((LG prog w P mg mb A hs s (t + 3)).pinned T o).Ok)
    (ht : ρ (Str.ofString "typed") = some (typedPV t)) (hh : ρ (Str.ofString "heap") = some (.int (h : Int))) (hst : ρ (Str.ofString "step") = some (.int (st : Int)))
    (h1 : ρ (Str.ofString "one") = some (.str (mkS (txt R1)))) (h2 : ρ (Str.ofString "two") = some (.str (mkS (txt R2)))) (s1 : Small R1 b) (s2 : Small R2 b) (hb : b + st ≤ 90) :
    SX ((LG prog w P mg mb A hs s (t + 3)).pinned T o) ρ none B7
      (.next (up (up (up ρ (Str.ofString "end") (.val (.str (mkS (eol (h / 3 % 3))) (t + h / 3 % 3)))) (Str.ofString "two") (.str (mkS (txt (R2 ++ sent R1 st (eol (h / 3 % 3))))))) (Str.ofString "one") (.str (mkS (txt (R1 ++ sent R2 st (eol (h / 3 % 3))))))) none) := by
  have hj : h / 3 % 3 < 3 := Nat.mod_lt _ (by decide)
  have he := eol_mem hj
  have htk : t + h / 3 % 3 ≠ 0 := by omega
  have l1 := small_len s1 (by omega)
  have l2 := small_len s2 (by omega)
  have l3 := small_len (small_sent (times := st) s1 he) (by omega)
  have l4 := small_len (small_sent (times := st) s2 he) (by omega)
  have e1 : ∀ R R' : List (Nat × List Nat), PV.str (mkS (txt R) ++ mkS (txt R')) = PV.str (mkS (txt (R ++ R'))) := fun R R' => by rw [mkS_app, txt_append]
  refine SX.cons (S1.asg hΓ (EV.sub hΓ (EV.name hΓ ht) (EV.cast (EV.bin hΓ (EV.bin hΓ (EV.name hΓ hh) EV.int (B2.floordiv_int (by decide) (by decide))) EV.int (B2.mod_int (by decide))) (show PV.int _ = PV.int ((h / 3 % 3 : Nat) : Int) by rw [show (3 : Int) = ((3 : Nat) : Int) from rfl, fdiv_nat, fmod_nat])) (GI.typed hj) fun _ _ => rfl) (.inl rfl) no_mu rfl) ?_
  have g1 : (up ρ (Str.ofString "end") (.val (.str (mkS (eol (h / 3 % 3))) (t + h / 3 % 3)))) (Str.ofString "one") = some (.str (mkS (txt R1))) := by rw [up_ne _ _ (by decide)]; exact h1
  have g2 : (up ρ (Str.ofString "end") (.val (.str (mkS (eol (h / 3 % 3))) (t + h / 3 % 3)))) (Str.ofString "two") = some (.str (mkS (txt R2))) := by rw [up_ne _ _ (by decide)]; exact h2
  have g3 : (up ρ (Str.ofString "end") (.val (.str (mkS (eol (h / 3 % 3))) (t + h / 3 % 3)))) (Str.ofString "step") = some (.int (st : Int)) := by rw [up_ne _ _ (by decide)]; exact hst
  refine SX.one (S1.swap hΓ (EV.tup hΓ (.cons (EV.cast (EV.call hΓ (EV1.glob hΓ gl52 rfl) (.fn fun h c => ⟨_, _, c.k _ _ (fd52.2 P), rfl⟩) (.cons (EV.name hΓ g1) rfl (.cons (EV.callf hΓ (EV1.glob hΓ gl177 rfl) (.fn fun h c => ⟨_, _, c.k _ _ (fd177.2 P), rfl⟩) (.cons (EV.name hΓ g2) rfl (.cons (EV.name hΓ g3) rfl (.cons (EV.name hΓ (up_same _ _ _)) rfl .nil)))
      (c_sent (k := 10) s2 (by omega) he htk (by decide)) (show t + h / 3 % 3 + 1 ≤ t + 3 by omega) (show 11 ≤ 12 by decide) (by decide) rfl) rfl .nil)) (c_concat (k := 5) (by rw [mkS_length, mkS_length]; unfold sizeLine; omega) (by decide)) (show 6 ≤ 12 by decide) (by decide) rfl) (e1 _ _)) rfl
    (.cons (EV.cast (EV.call hΓ (EV1.glob hΓ gl52 rfl) (.fn fun h c => ⟨_, _, c.k _ _ (fd52.2 P), rfl⟩) (.cons (EV.name hΓ g2) rfl (.cons (EV.callf hΓ (EV1.glob hΓ gl177 rfl) (.fn fun h c => ⟨_, _, c.k _ _ (fd177.2 P), rfl⟩) (.cons (EV.name hΓ g1) rfl (.cons (EV.name hΓ g3) rfl (.cons (EV.name hΓ (up_same _ _ _)) rfl .nil)))
      (c_sent (k := 10) s1 (by omega) he htk (by decide)) (show t + h / 3 % 3 + 1 ≤ t + 3 by omega) (show 11 ≤ 12 by decide) (by decide) rfl) rfl .nil)) (c_concat (k := 5) (by rw [mkS_length, mkS_length]; unfold sizeLine; omega) (by decide)) (show 6 ≤ 12 by decide) (by decide) rfl) (e1 _ _)) rfl .nil)) (show (2 : Nat) ≤ sizeLine by decide))
    (.inl rfl) (.inl rfl) no_mu no_mu rfl rfl)

theorem small_app {R1 R2 : List (Nat × List Nat)} {b st : Nat} {e : List Nat} (h1 : Small R1 b) (h2 : Small R2 b) (he : e ∈ eols) (hst : st ≤ 3) (hm : R1.length + R2.length ≤ 100) : Small (R1 ++ sent R2 st e) (b + 3) := by
  obtain ⟨q1, q2, q3⟩ := small_sent (times := st) h2 he
  have hl : (sent R2 st e).length = R2.length := by unfold sent; split <;> simp
  refine ⟨fun r hr => ?_, by rw [List.length_append, hl]; exact hm, fun r hr => ?_⟩
  · rcases List.mem_append.mp hr with h | h
    · exact h1.1 r h
    · exact q1 r h
  · rcases List.mem_append.mp hr with h | h
    · have := h1.2.2 r h; omega
    · have := q3 r h; omega
theorem sent_fst {R : List (Nat × List Nat)} {st : Nat} {e : List Nat} (h : 1 ≤ st) : (sent R st e).map (·.1) = (R.map (·.1)).map (· + st) := by
  unfold sent; rw [if_neg (by omega)]; simp
theorem sent_length {R : List (Nat × List Nat)} {st : Nat} {e : List Nat} : (sent R st e).length = R.length := by unfold sent; split <;> simp
noncomputable def step2 (p : List Nat × List Nat) (st : Nat) : List Nat × List Nat := (p.1 ++ p.2.map (· + st), p.2 ++ p.1.map (· + st))
theorem ups2 (ρ : Loc) (x y : Str) (d1 d2 : PV) : ups ρ [x, y] [d1, d2] = up (up ρ x d1) y d2 := by simp [ups]
theorem loop7 {t : Nat} (ht0 : 1 ≤ t) : ∀ (l : List (Nat × Nat)) (ρ : Loc) (R1 R2 : List (Nat × List Nat)) (b m : Nat), (∀ p ∈ l, 1 ≤ p.1 ∧ p.1 ≤ 3) → b + 3 * l.length ≤ 60 → m * 2 ^ l.length ≤ 50 → R1.length ≤ m → R2.length ≤ m → Small R1 b → Small R2 b →
    ρ (Str.ofString "typed") = some (typedPV t) → ρ (Str.ofString "one") = some (.str (mkS (txt R1))) → ρ (Str.ofString "two") = some (.str (mkS (txt R2))) →
    ∃ ρ' R1' R2', Loop2 (LG prog w P mg mb A hs s (t + 3)) [Str.ofString "step", Str.ofString "heap"] B7 ρ (l.map fun p => [.int (p.1 : Int), .int (p.2 : Int)]) ρ' ∧ ρ' (Str.ofString "one") = some (.str (mkS (txt R1'))) ∧ ρ' (Str.ofString "two") = some (.str (mkS (txt R2'))) ∧ Small R1' 60 ∧ Small R2' 60 ∧
      (R1'.map (·.1), R2'.map (·.1)) = (l.map (·.1)).foldl step2 (R1.map (·.1), R2.map (·.1)) ∧
      ∀ y, y ≠ Str.ofString "step" → y ≠ Str.ofString "heap" → y ≠ Str.ofString "end" → y ≠ Str.ofString "one" → y ≠ Str.ofString "two" → ρ' y = ρ y := fun l => by
  induction l with
  | nil =>
    intro ρ R1 R2 b m _ hb _ _ _ s1 s2 _ h1 h2
    exact ⟨ρ, R1, R2, .done, h1, h2, ⟨s1.1, s1.2.1, fun r hr => by have := s1.2.2 r hr; simp at hb; omega⟩, ⟨s2.1, s2.2.1, fun r hr => by have := s2.2.2 r hr; simp at hb; omega⟩, rfl, fun _ _ _ _ _ _ => rfl⟩
  | cons p l ih =>
    intro ρ R1 R2 b m hp hb hm hm1 hm2 s1 s2 ht h1 h2
    obtain ⟨hp1, hp3⟩ := hp p (List.mem_cons_self ..)
    rw [List.length_cons] at hb hm
    rw [Nat.pow_succ] at hm
    have hpos : 1 ≤ 2 ^ l.length := Nat.one_le_two_pow
    have hm' : m * 2 * 2 ^ l.length ≤ 50 := by rw [Nat.mul_assoc, Nat.mul_comm 2]; exact hm
    have hmm : m * 2 ≤ 50 := Nat.le_trans (Nat.le_mul_of_pos_right _ hpos) hm'
    have hj : p.2 / 3 % 3 < 3 := Nat.mod_lt _ (by decide)
    have he := eol_mem hj
    obtain ⟨ρ', R1', R2', q1, q2, q3, q4, q5, q6, q7⟩ := ih
      (up (up (up (up (up ρ (Str.ofString "step") (.int (p.1 : Int))) (Str.ofString "heap") (.int (p.2 : Int))) (Str.ofString "end") (.val (.str (mkS (eol (p.2 / 3 % 3))) (t + p.2 / 3 % 3)))) (Str.ofString "two") (.str (mkS (txt (R2 ++ sent R1 p.1 (eol (p.2 / 3 % 3))))))) (Str.ofString "one") (.str (mkS (txt (R1 ++ sent R2 p.1 (eol (p.2 / 3 % 3)))))))
      (R1 ++ sent R2 p.1 (eol (p.2 / 3 % 3))) (R2 ++ sent R1 p.1 (eol (p.2 / 3 % 3))) (b + 3) (m * 2) (fun q hq => hp q (List.mem_cons_of_mem _ hq)) (by omega) hm' (by rw [List.length_append, sent_length]; omega) (by rw [List.length_append, sent_length]; omega)
      (small_app s1 s2 he hp3 (by omega)) (small_app s2 s1 he hp3 (by omega)) (by rw [up_ne _ _ (by decide), up_ne _ _ (by decide), up_ne _ _ (by decide), up_ne _ _ (by decide), up_ne _ _ (by decide)]; exact ht) (up_same _ _ _) (by rw [up_ne _ _ (by decide)]; exact up_same _ _ _)
    · refine ⟨ρ', R1', R2', .step (fun T o hΓ' => by
        rw [ups2]
        exact body7 (b := b) ht0 hΓ' (by rw [up_ne _ _ (by decide), up_ne _ _ (by decide)]; exact ht) (up_same _ _ _) (by rw [up_ne _ _ (by decide)]; exact up_same _ _ _) (by rw [up_ne _ _ (by decide), up_ne _ _ (by decide)]; exact h1) (by rw [up_ne _ _ (by decide), up_ne _ _ (by decide)]; exact h2) s1 s2 (by omega)) q1, q2, q3, q4, q5, ?_, fun y y1 y2 y3 y4 y5 => ?_⟩
      · rw [q6, List.map_cons, List.foldl_cons]
        simp only [List.map_append, sent_fst hp1]
        rfl
      · rw [q7 y y1 y2 y3 y4 y5, up_ne _ _ y4, up_ne _ _ y5, up_ne _ _ y3, up_ne _ _ y2, up_ne _ _ y1]
theorem pairUp_ints : ∀ a b : List Nat, pairUp (iints a) (iints b) = (a.zip b).map fun p => [.int (p.1 : Int), .int (p.2 : Int)]
  | [], _ => by simp [iints, pairUp]
  | _ :: _, [] => by simp [iints, pairUp]
  | x :: a, y :: b => by
    have := pairUp_ints a b
    simp only [iints, List.map_cons, pairUp, List.zip_cons_cons]
    exact congrArg _ this
theorem law7 {t first : Nat} {sts hr : List Nat} {h0 : Nat} {e : List Nat} (ht0 : 1 ≤ t) (hΓ : (LG prog w P mg mb A hs s (t + 3)).Ok) (hsts : sts.length ≤ 4) (hst : ∀ x ∈ sts, 1 ≤ x ∧ x ≤ 3) (hrl : hr.length = 4) (h1f : 1 ≤ first) (hf : first ≤ 3) (he : e ∈ eols)
    (ht : ρ (Str.ofString "typed") = some (typedPV t)) (h1 : ρ (Str.ofString "one") = some (.str (mkS (txt [(first, e)])))) (h2 : ρ (Str.ofString "two") = some (.str (mkS (txt [])))) (hh : ρ (Str.ofString "heaps") = some (.list (iints (h0 :: hr)))) (hs' : ρ (Str.ofString "steps") = some (.list (iints sts))) :
    ∃ ρ' R1 R2, S1 (LG prog w P mg mb A hs s (t + 3)) ρ none (lawS 7) (.next ρ' none) ∧ ρ' (Str.ofString "one") = some (.str (mkS (txt R1))) ∧ ρ' (Str.ofString "two") = some (.str (mkS (txt R2))) ∧ Small R1 60 ∧ Small R2 60 ∧ (R1.map (·.1), R2.map (·.1)) = sz2 first sts ∧
      ∀ y, y ≠ Str.ofString "step" → y ≠ Str.ofString "heap" → y ≠ Str.ofString "end" → y ≠ Str.ofString "one" → y ≠ Str.ofString "two" → ρ' y = ρ y := by
  have hz : (sts.zip hr).length = sts.length := by rw [List.length_zip, hrl]; omega
  obtain ⟨ρ', R1, R2, q1, q2, q3, q4, q5, q6, q7⟩ := loop7 (prog := prog) (w := w) (P := P) (mg := mg) (mb := mb) (A := A) (hs := hs) (s := s) ht0 (sts.zip hr) ρ [(first, e)] [] 3 1 (fun p hp => hst _ (List.of_mem_zip hp).1) (by rw [hz]; omega)
    (by rw [hz, Nat.one_mul]; exact Nat.le_trans (Nat.pow_le_pow_right (by decide) hsts) (by decide)) (Nat.le_refl _) (Nat.zero_le _) ⟨fun r hr => (by rcases List.mem_singleton.mp hr with rfl; exact ⟨h1f, he⟩), by simp, fun r hr => (by rcases List.mem_singleton.mp hr with rfl; exact hf)⟩
    ⟨fun r hr => (by cases hr), by simp, fun r hr => (by cases hr)⟩ ht h1 h2
  refine ⟨ρ', R1, R2, ?_, q2, q3, q4, q5, ?_, q7⟩
  · refine S1.forz hΓ (.cons _ _ (.cons _ _ .nil)) (IT2.zip2 hΓ gb_zip rfl (EV.name hΓ hs') rfl (EV.slice hΓ (ys := iints hr) (EV.name hΓ hh) (.yes EV.int) .no .no (by decide) (fun G items hq => ?_) (by rw [iints_length, List.length_cons, hrl]; decide) (fun _ _ => rfl)) rfl) pairUp_lens ?_ ?_ fun _ => rfl
    · exact pick_from 1 items hq
    · intro x hx
      rcases List.mem_cons.mp hx with rfl | hx
      · exact own_fn (.inl rfl)
      · rcases List.mem_cons.mp hx with rfl | hx
        · exact own_fn (.inl rfl)
        · cases hx
    · rw [pairUp_ints]; exact q1
  · rw [q6]
    have : (sts.zip hr).map (·.1) = sts := by rw [List.map_fst_zip]; omega
    rw [this]; rfl
end
end Mine
end -- F11
section -- F12
set_option maxRecDepth 100000
set_option maxHeartbeats 2000000
namespace Mine
noncomputable def crows (A : List Nat) : List (Nat × List Nat) := A.map fun d => (d, [13, 10])
theorem ended_crows (R : List (Nat × List Nat)) : ended R [13, 10] = crows (R.map (·.1)) := by simp [ended, crows]
theorem dotted_crows (A : List Nat) : dotted (crows A) 1 = crows (A.map (· + 1)) := by simp [dotted, crows]
theorem str_app_nil (x : Str) : x ++ Str.ofString "" = x := str_ext (by rw [cps_app]; exact Array.append_empty)
theorem str_nil_app (x : Str) : Str.ofString "" ++ x = x := str_ext (by rw [cps_app]; exact Array.empty_append)
theorem join_flat : ∀ ls : List (List Nat), Txt.join (Str.ofString "") (ls.map mkS) = mkS ls.flatten := fun ls => by
  unfold Txt.join
  rw [StrLaws.glued_eq_join]
  induction ls with
  | nil => rfl
  | cons l r ih =>
    cases r with
    | nil => show mkS l = _; simp
    | cons l' r =>
      show mkS l ++ Str.ofString "" ++ Str.join _ (mkS l' :: r.map mkS) = _
      rw [show (mkS l' :: r.map mkS) = (l' :: r).map mkS from rfl, ih, str_app_nil, mkS_app]
      rfl
theorem join_crows (A : List Nat) : Txt.join (Str.ofString "") (A.map fun d => mkS (List.replicate d 46 ++ [13, 10])) = mkS (txt (crows A)) := by
  have := join_flat (A.map fun d => List.replicate d 46 ++ [13, 10])
  rw [List.map_map] at this
  rw [show (A.map fun d => mkS (List.replicate d 46 ++ [13, 10])) = A.map (mkS ∘ fun d => List.replicate d 46 ++ [13, 10]) from rfl, this]
  congr 1
  simp [txt, crows, List.flatMap]
  rfl
section
variable {prog : Program} {w : World} {P : Params} {mg mb : Str → Option Value} {A : Around} {hs : List Addr} {s : Shared} {n : Nat} {ρ : Loc}
theorem law8 {R1 R2 : List (Nat × List Nat)} (hΓ : (LG prog w P mg mb A hs s n).Ok) (h1 : ρ (Str.ofString "one") = some (.str (mkS (txt R1)))) (h2 : ρ (Str.ofString "two") = some (.str (mkS (txt R2)))) (s1 : Small R1 60) (s2 : Small R2 60) :
    S1 (LG prog w P mg mb A hs s n) ρ none (lawS 8) (.next (up ρ (Str.ofString "pages") (.list [.str (mkS (txt (crows (R1.map (·.1))))), .str (mkS (txt (crows (R2.map (·.1)))))])) none) := by
  have l1 := small_len s1 (by decide)
  have l2 := small_len s2 (by decide)
  refine S1.asg hΓ (EV.list hΓ (.cons (EV.cast (EV.call hΓ (EV1.glob hΓ gl90 rfl) (.fn fun h c => ⟨_, _, c.k _ _ (fd90.2 P), rfl⟩) (.cons (EV.name hΓ h1) rfl .nil) (c_fix (k := 5) (by rw [mkS_length]; omega) (by decide)) (show 6 ≤ 12 by decide) (by decide) rfl) ?_) rfl
    (.cons (EV.cast (EV.call hΓ (EV1.glob hΓ gl90 rfl) (.fn fun h c => ⟨_, _, c.k _ _ (fd90.2 P), rfl⟩) (.cons (EV.name hΓ h2) rfl .nil) (c_fix (k := 5) (by rw [mkS_length]; omega) (by decide)) (show 6 ≤ 12 by decide) (by decide) rfl) ?_) rfl .nil)) (show (2 : Nat) ≤ sizeLine by decide)) (own_fn (.inl rfl)) no_mu rfl
  · rw [fixS_txt s1.1, ended_crows]
  · rw [fixS_txt s2.1, ended_crows]
theorem law9 {first : Nat} {sts : List Nat} (hΓ : (LG prog w P mg mb A hs s n).Ok) (hf : ρ (Str.ofString "first") = some (.int (first : Int))) (hs' : ρ (Str.ofString "steps") = some (.list (iints sts))) (hl : sts.length ≤ 10) :
    S1 (LG prog w P mg mb A hs s n) ρ none (lawS 9) (.next (up ρ (Str.ofString "rows") (.list [.list (iints (rowsOf first sts 0)), .list (iints (rowsOf first sts 1))])) none) :=
  S1.asg hΓ (EV.list hΓ (.cons (EV.call hΓ (EV1.glob hΓ gl189 rfl) (.fn fun h c => ⟨_, _, c.k _ _ (fd189.2 P), rfl⟩) (.cons (EV.name hΓ hf) rfl (.cons (EV.name hΓ hs') rfl (.cons (EV.cast EV.int (show PV.int _ = PV.int ((0 : Nat) : Int) from rfl)) rfl .nil))) (c_rows (k := 5) hl (by decide)) (show 6 ≤ 12 by decide) (by decide) rfl) rfl
    (.cons (EV.call hΓ (EV1.glob hΓ gl189 rfl) (.fn fun h c => ⟨_, _, c.k _ _ (fd189.2 P), rfl⟩) (.cons (EV.name hΓ hf) rfl (.cons (EV.name hΓ hs') rfl (.cons (EV.cast EV.int (show PV.int _ = PV.int ((1 : Nat) : Int) from rfl)) rfl .nil))) (c_rows (k := 5) hl (by decide)) (show 6 ≤ 12 by decide) (by decide) rfl) rfl .nil)) (show (2 : Nat) ≤ sizeLine by decide)) (own_fn (.inl rfl)) no_mu rfl

noncomputable def B10 : List Stmt := forBody fd213.1.body 10
theorem sum_le_mul : ∀ (l : List Nat) (a : Nat), (∀ x ∈ l, x ≤ a) → l.sum ≤ l.length * a
  | [], a, _ => by simp
  | x :: l, a, h => by
    have := sum_le_mul l a fun y hy => h y (List.mem_cons_of_mem _ hy)
    have hx := h x (List.mem_cons_self ..)
    rw [List.sum_cons, List.length_cons, Nat.succ_mul]; omega
theorem join_size {A' : List Nat} (hA : ∀ d ∈ A', d ≤ 61) (hl : A'.length ≤ 100) {f : Nat → List Nat} (hf : ∀ d, (f d).length ≤ d + 2) : ((A'.map fun d => mkS (f d)).map fun x => x.length).sum + (A'.map fun d => mkS (f d)).length * (Str.ofString "").length ≤ 16777216 := by
  have e0 : (Str.ofString "").length = 0 := rfl
  rw [e0, Nat.mul_zero, Nat.add_zero]
  have := sum_le_mul ((A'.map fun d => mkS (f d)).map fun x => x.length) 63 fun x hx => by
    obtain ⟨y, hy, rfl⟩ := List.mem_map.mp hx
    obtain ⟨d, hd, rfl⟩ := List.mem_map.mp hy
    have := hA d hd
    have := hf d
    rw [mkS_length]; omega
  rw [List.length_map, List.length_map] at this
  omega
theorem dots_len (d : Nat) : (List.replicate d 46 ++ [13, 10]).length ≤ d + 2 := by simp
theorem elt_dots {Γ : Fx} {ρ : Loc} {e : Expr} {d kk : Nat} {p q r u : Pos} {k2 : Nat} (hΓ : Γ.Ok) (h : EV Γ ρ Option.none e (.int (d : Int))) (hd : d ≤ 61) :
    EV Γ ρ Option.none (.BinOp (.BinOp (.Constant (.str (Str.ofString ".")) kk p) .Mult e q) .Add (.Constant (.str (Str.ofString "\r\n")) k2 r) u) (.str (mkS (List.replicate d 46 ++ [13, 10]))) := by
  refine EV.cast (EV.bin hΓ (EV.bin hΓ EV.str h (B2.mul_str (by decide) (by omega))) EV.str (B2.add_str ?_)) ?_
  · rw [reps_one _ 46 d rfl, mkS_length, List.length_replicate]
    show d + 2 ≤ sizeLine
    unfold sizeLine; omega
  · rw [reps_one _ 46 d rfl]
    show PV.str (mkS _ ++ mkS [13, 10]) = _
    rw [mkS_app]
theorem body10 {R : List (Nat × List Nat)} {T : Addr} {o : Obj} (hΓ : ((LG prog w P mg mb A hs s n).pinned T o).Ok) (h1 : ρ (Str.ofString "raw") = some (.str (mkS (txt R)))) (h2 : ρ (Str.ofString "page") = some (.str (mkS (txt (crows (R.map (·.1)))))))
    (h3 : ρ (Str.ofString "sizes") = some (.list (iints (R.map (·.1))))) (s1 : Small R 60) : SX ((LG prog w P mg mb A hs s n).pinned T o) ρ none B10 (.next ρ none) := by
  have l1 := small_len s1 (by decide)
  have hA : ∀ d ∈ R.map (·.1), d ≤ 60 := fun d hd => by obtain ⟨r, hr, rfl⟩ := List.mem_map.mp hd; exact s1.2.2 r hr
  have hAl : (R.map (·.1)).length ≤ 100 := by rw [List.length_map]; exact s1.2.1
  generalize hAe : R.map (·.1) = A' at *
  have hq : quoS (mkS (txt R)) = mkS (txt (crows (A'.map (· + 1)))) := by rw [quoS_txt s1.1, ended_crows, hAe, dotted_crows]
  have k1 : CompOk ((LG prog w P mg mb A hs s n).pinned T o) { kind := .function, names := [(Str.ofString ".0", .local), (Str.ofString "dots", .local)], isGenerator := false, isCoroutine := false } [] (Str.ofString "dots") := compok rfl rfl rfl ⟨rfl, rfl⟩ rfl trivial
  refine SX.cons (S1.ifs (b := false) (ET.cast (ET.cmp hΓ (EV.name hΓ h2) (@EV.joinc _ _ _ hΓ _ _ _ _ _ _ _ _ _ _ _ _ _ (A'.map fun d => mkS (List.replicate d 46 ++ [13, 10])) k1 (IT.list hΓ (EV.name hΓ h3)) ?_ (fun _ => rfl) ?_ ?_ rfl) C2.ne_str rfl) ?_) (fun e => by cases e) fun _ => SX.nil)
    (SX.one (S1.ifs (b := false) (ET.cast (ET.cmp hΓ (EV.call hΓ (EV1.glob hΓ gl83 rfl) (.fn fun h c => ⟨_, _, c.k _ _ (fd83.2 P), rfl⟩) (.cons (EV.name hΓ h1) rfl .nil) (c_quo (k := 5) (by rw [mkS_length]; omega) (by decide)) (show 6 ≤ 12 by decide) (by decide) rfl)
      (@EV.joinc _ _ _ hΓ _ _ _ _ _ _ _ _ _ _ _ _ _ ((A'.map (· + 1)).map fun d => mkS (List.replicate d 46 ++ [13, 10])) k1 (IT.list hΓ (EV.name hΓ h3)) ?_ (fun _ => rfl) ?_ ?_ rfl) C2.ne_str rfl) ?_) (fun e => by cases e) fun _ => SX.nil))
  · rw [List.map_map]
    exact CL.map A' (fun (d : Nat) => PV.int (d : Int)) _ fun d hd C bs s' hΓ' => elt_dots hΓ' (EV.name hΓ' rfl) (by have := hA d hd; omega)
  · rw [List.length_map]; unfold sizeLine; omega
  · exact join_size (fun d hd => by have := hA d hd; omega) hAl dots_len
  · rw [join_crows]; simp
  · rw [List.map_map, List.map_map]
    exact CL.map A' (fun (d : Nat) => PV.int (d : Int)) _ fun d hd C bs s' hΓ' => elt_dots (d := d + 1) hΓ' (EV.cast (EV.bin hΓ' (EV.name hΓ' rfl) EV.int B2.add_int) rfl) (by have := hA d hd; omega)
  · rw [List.length_map, List.length_map]; unfold sizeLine; omega
  · exact join_size (fun d hd => by obtain ⟨c, hc, rfl⟩ := List.mem_map.mp hd; have := hA c hc; omega) (by rw [List.length_map]; exact hAl) dots_len
  · rw [join_crows, hq]; simp
end
end Mine
end -- F12
section -- F13
set_option maxRecDepth 100000
namespace Mine
theorem ups3 (ρ : Loc) (x y z : Str) (d1 d2 d3 : PV) : ups ρ [x, y, z] [d1, d2, d3] = up (up (up ρ x d1) y d2) z d3 := by simp [ups]
noncomputable def row3 (ρ : Loc) (R : List (Nat × List Nat)) : Loc := up (up (up ρ (Str.ofString "raw") (.str (mkS (txt R)))) (Str.ofString "page") (.str (mkS (txt (crows (R.map (·.1))))))) (Str.ofString "sizes") (.list (iints (R.map (·.1))))
theorem pw_crows (A : List Nat) (p : Nat) : powSum (crows A) p = pw A p := by unfold powSum pw crows; rw [List.map_map]; rfl
section
variable {prog : Program} {w : World} {P : Params} {mg mb : Str → Option Value} {A : Around} {hs : List Addr} {s : Shared} {n : Nat} {ρ : Loc}
theorem law10 {R1 R2 : List (Nat × List Nat)} (hΓ : (LG prog w P mg mb A hs s n).Ok) (h1 : ρ (Str.ofString "one") = some (.str (mkS (txt R1)))) (h2 : ρ (Str.ofString "two") = some (.str (mkS (txt R2)))) (s1 : Small R1 60) (s2 : Small R2 60)
    (hp : ρ (Str.ofString "pages") = some (.list [.str (mkS (txt (crows (R1.map (·.1))))), .str (mkS (txt (crows (R2.map (·.1)))))])) (hr : ρ (Str.ofString "rows") = some (.list [.list (iints (R1.map (·.1))), .list (iints (R2.map (·.1)))])) :
    ∃ ρ', S1 (LG prog w P mg mb A hs s n) ρ none (lawS 10) (.next ρ' none) ∧ ∀ y, y ≠ Str.ofString "raw" → y ≠ Str.ofString "page" → y ≠ Str.ofString "sizes" → ρ' y = ρ y := by
  refine ⟨row3 (row3 ρ R1) R2, S1.forz (ρ' := row3 (row3 ρ R1) R2) hΓ (.cons _ _ (.cons _ _ (.cons _ _ .nil))) (IT2.zip3 hΓ gb_zip rfl (EV.list hΓ (.cons (EV.name hΓ h1) rfl (.cons (EV.name hΓ h2) rfl .nil)) (show (2 : Nat) ≤ sizeLine by decide)) rfl (EV.name hΓ hp) rfl (EV.name hΓ hr) rfl rfl rfl) (fun d hd => ?_) (fun x hx => ?_)
    (.step (ρ' := row3 ρ R1) (fun T o hΓ' => ?_) (.step (ρ' := row3 (row3 ρ R1) R2) (fun T o hΓ' => ?_) .done)) fun _ => rfl, fun y y1 y2 y3 => ?_⟩
  · rcases List.mem_cons.mp hd with rfl | hd
    · rfl
    · rcases List.mem_cons.mp hd with rfl | hd
      · rfl
      · cases hd
  · rcases List.mem_cons.mp hx with rfl | hx
    · exact own_fn (.inl rfl)
    · rcases List.mem_cons.mp hx with rfl | hx
      · exact own_fn (.inl rfl)
      · rcases List.mem_cons.mp hx with rfl | hx
        · exact own_fn (.inr rfl)
        · cases hx
  · rw [ups3]
    exact body10 (R := R1) hΓ' (by rw [up_ne _ _ (by decide), up_ne _ _ (by decide)]; exact up_same _ _ _) (by rw [up_ne _ _ (by decide)]; exact up_same _ _ _) (up_same _ _ _) s1
  · rw [ups3]
    exact body10 (R := R2) hΓ' (by rw [up_ne _ _ (by decide), up_ne _ _ (by decide)]; exact up_same _ _ _) (by rw [up_ne _ _ (by decide)]; exact up_same _ _ _) (up_same _ _ _) s2
  · unfold row3; rw [up_ne _ _ y3, up_ne _ _ y2, up_ne _ _ y1, up_ne _ _ y3, up_ne _ _ y2, up_ne _ _ y1]

theorem law11 {first many : Nat} (hΓ : (LG prog w P mg mb A hs s n).Ok) (hfr : A.frames = some []) (hf : ρ (Str.ofString "first") = some (.int (first : Int))) (hm : ρ (Str.ofString "many") = some (.int (many : Int))) : S1 (LG prog w P mg mb A hs s n) ρ none (lawS 11) (.next ρ none) :=
  S1.refused (prog := prog) (P := P) (mg := mg) (mb := mb) (j := 10) hΓ rfl rfl rfl (by decide) (by show (A.frames.map _) = _; rw [hfr]; rfl) rfl hf hm rfl

noncomputable def B12 : List Stmt := forBody fd213.1.body 12
theorem body12 {first p : Nat} {sts A1 A2 : List Nat} (hΓ : (LG prog w P mg mb A hs s n).Ok) (hf : ρ (Str.ofString "first") = some (.int (first : Int))) (hst : ρ (Str.ofString "steps") = some (.list (iints sts))) (hpw : ρ (Str.ofString "power") = some (.int (p : Int)))
    (hp : ρ (Str.ofString "pages") = some (.list [.str (mkS (txt (crows A1))), .str (mkS (txt (crows A2)))])) (hA1 : ∀ d ∈ A1, d ≤ 100) (hA2 : ∀ d ∈ A2, d ≤ 100) (l1 : 1 ≤ A1.length) (l1' : A1.length ≤ 100) (l2 : 1 ≤ A2.length) (l2' : A2.length ≤ 100) (hp100 : p ≤ 100)
    (hsl : sts.length ≤ 10) (hs3 : ∀ n ∈ sts, n ≤ 100) (hf3 : first ≤ 100) (heq : 2 * (pw A1 p - pw A2 p) = twice first sts p) :
    SX (LG prog w P mg mb A hs s n) ρ none B12 (.next (up ρ (Str.ofString "apart") (.int (pw A1 p - pw A2 p))) none) := by
  have cp : ∀ (B : List Nat), (∀ d ∈ B, d ≤ 100) → 1 ≤ B.length → B.length ≤ 100 → CS prog w (Cx P mg mb) 11 (.ref 196) [.str (mkS (txt (crows B))), .int (p : Int)] (.int (pw B p)) := fun B h1 h2 h3 => by
    rw [← pw_crows]
    exact c_power (k := 10) (fun r hr => by obtain ⟨d, hd, rfl⟩ := List.mem_map.mp hr; rfl) (fun r hr => by obtain ⟨d, hd, rfl⟩ := List.mem_map.mp hr; exact h1 d hd) (by unfold crows; rw [List.length_map]; exact h3) (by unfold crows; rw [List.length_map]; exact h2) hp100 (by decide)
  refine SX.cons (S1.asg hΓ (EV.call hΓ (EV1.glob hΓ gl66 rfl) (.fn fun h c => ⟨_, _, c.k _ _ (fd66.2 P), rfl⟩) (.cons (EV.call hΓ (EV1.glob hΓ gl196 rfl) (.fn fun h c => ⟨_, _, c.k _ _ (fd196.2 P), rfl⟩) (.cons (EV.sub hΓ (EV.name hΓ hp) EV.int (GI.list (by decide) (by decide) rfl) fun _ _ => rfl) rfl (.cons (EV.name hΓ hpw) rfl .nil)) (cp A1 hA1 l1 l1') (show 11 ≤ 12 by decide) (by decide) rfl) rfl
    (.cons (EV.call hΓ (EV1.glob hΓ gl196 rfl) (.fn fun h c => ⟨_, _, c.k _ _ (fd196.2 P), rfl⟩) (.cons (EV.sub hΓ (EV.name hΓ hp) EV.int (GI.list (by decide) (by decide) rfl) fun _ _ => rfl) rfl (.cons (EV.name hΓ hpw) rfl .nil)) (cp A2 hA2 l2 l2') (show 11 ≤ 12 by decide) (by decide) rfl) rfl .nil)) (c_isub (k := 5) I2.sub_int (by decide)) (show 6 ≤ 12 by decide) (by decide) rfl) (own_fn (.inl rfl)) no_mu rfl) ?_
  refine SX.one (S1.ifs (b := false) (ET.cast (ET.cmp hΓ (EV.call hΓ (EV1.glob hΓ gl45 rfl) (.fn fun h c => ⟨_, _, c.k _ _ (fd45.2 P), rfl⟩) (.cons EV.int rfl (.cons (EV.name hΓ (up_same _ _ _)) rfl .nil)) (c_mul (k := 5) (B2.mul_int (IntMulOk.of_left (by decide))) (by decide)) (show 6 ≤ 12 by decide) (by decide) rfl)
    (EV.call hΓ (EV1.glob hΓ gl203 rfl) (.fn fun h c => ⟨_, _, c.k _ _ (fd203.2 P), rfl⟩) (.cons (EV.name hΓ (by rw [up_ne _ _ (by decide)]; exact hf)) rfl (.cons (EV.name hΓ (by rw [up_ne _ _ (by decide)]; exact hst)) rfl (.cons (EV.name hΓ (by rw [up_ne _ _ (by decide)]; exact hpw)) rfl .nil))) (c_twice (k := 5) hsl hp100 hs3 hf3 (by decide)) (show 6 ≤ 12 by decide) (by decide) rfl)
    C2.ne_int rfl) ?_) (fun e => by cases e) fun _ => SX.nil)
  rw [heq]; simp
end
end Mine
end -- F13
section -- F14
set_option maxRecDepth 100000
namespace Mine
theorem lead_len : ∀ (A : List Nat) (a : Nat), (∀ d ∈ A, d ≤ a) → (lead A).length ≤ A.length * (a + 1)
  | [], a, _ => by simp [lead]
  | d :: A, a, h => by
    have := lead_len A a fun y hy => h y (List.mem_cons_of_mem _ hy)
    have hx := h d (List.mem_cons_self ..)
    have e : lead (d :: A) = (List.replicate d 32 ++ [9]) ++ lead A := rfl
    rw [e, List.length_append, List.length_append, List.length_replicate]
    show d + 1 + (lead A).length ≤ (A.length + 1) * (a + 1)
    rw [Nat.succ_mul]
    omega
theorem lead_chars {A : List Nat} : ∀ c ∈ lead A, c = 32 ∨ c = 9 := fun c hc => by
  unfold lead at hc
  obtain ⟨d, hd, hc⟩ := List.mem_flatMap.mp hc
  rcases List.mem_append.mp hc with h | h
  · exact .inl (List.eq_of_mem_replicate h)
  · simp at h; exact .inr h
theorem repl_dots (A : List Nat) : Txt.replace (mkS (txt (ended (crows A) [9]))) (Str.ofString ".") (Str.ofString " ") = mkS (lead A) := by
  have h := replace_char (mkS (txt (ended (crows A) [9]))) 46 32
  refine str_ext ?_
  have e : (Txt.replace (mkS (txt (ended (crows A) [9]))) (Str.ofString ".") (Str.ofString " ")).cps.toList = lead A := by
    refine h.trans ?_
    rw [mkS_list]
    simp only [txt, ended, crows, lead, List.map_map, List.flatMap_map, List.map_flatMap]
    congr 1
    funext d
    simp
  rw [← Array.toArray_toList (xs := (Txt.replace _ _ _).cps), e]
  rfl
section
variable {prog : Program} {w : World} {P : Params} {mg mb : Str → Option Value} {A : Around} {hs : List Addr} {s : Shared} {n : Nat} {ρ : Loc}
theorem loop12 {first : Nat} {sts A1 A2 : List Nat} (hΓ : (LG prog w P mg mb A hs s n).Ok) (hA1 : ∀ d ∈ A1, d ≤ 100) (hA2 : ∀ d ∈ A2, d ≤ 100) (l1 : 1 ≤ A1.length) (l1' : A1.length ≤ 100) (l2 : 1 ≤ A2.length) (l2' : A2.length ≤ 100)
    (hsl : sts.length ≤ 10) (hs3 : ∀ n ∈ sts, n ≤ 100) (hf3 : first ≤ 100) : ∀ (l : List Nat) (ρ : Loc), (∀ p ∈ l, p ≤ 100 ∧ 2 * (pw A1 p - pw A2 p) = twice first sts p) → ρ (Str.ofString "first") = some (.int (first : Int)) → ρ (Str.ofString "steps") = some (.list (iints sts)) →
    ρ (Str.ofString "pages") = some (.list [.str (mkS (txt (crows A1))), .str (mkS (txt (crows A2)))]) →
    ∃ ρ', Loop (LG prog w P mg mb A hs s n) (Str.ofString "power") B12 ρ none (l.map fun (p : Nat) => .int (p : Int)) (.next ρ' none) ∧ ∀ y, y ≠ Str.ofString "power" → y ≠ Str.ofString "apart" → ρ' y = ρ y := fun l => by
  induction l with
  | nil => intro ρ _ _ _ _; exact ⟨ρ, .done, fun _ _ _ => rfl⟩
  | cons p l ih =>
    intro ρ hl hf hst hp
    obtain ⟨ρ', q1, q2⟩ := ih (up (up ρ (Str.ofString "power") (.int (p : Int))) (Str.ofString "apart") (.int (pw A1 p - pw A2 p))) (fun q hq => hl q (List.mem_cons_of_mem _ hq))
      (by rw [up_ne _ _ (by decide), up_ne _ _ (by decide)]; exact hf) (by rw [up_ne _ _ (by decide), up_ne _ _ (by decide)]; exact hst) (by rw [up_ne _ _ (by decide), up_ne _ _ (by decide)]; exact hp)
    obtain ⟨h1, h2⟩ := hl p (List.mem_cons_self ..)
    refine ⟨ρ', .step no_mu (body12 hΓ (by rw [up_ne _ _ (by decide)]; exact hf) (by rw [up_ne _ _ (by decide)]; exact hst) (up_same _ _ _) (by rw [up_ne _ _ (by decide)]; exact hp) hA1 hA2 l1 l1' l2 l2' h1 hsl hs3 hf3 h2) q1, fun y y1 y2 => ?_⟩
    rw [q2 y y1 y2, up_ne _ _ y2, up_ne _ _ y1]
theorem law12 {first many : Nat} {sts A1 A2 : List Nat} (hΓ : (LG prog w P mg mb A hs s n).Ok) (hA1 : ∀ d ∈ A1, d ≤ 100) (hA2 : ∀ d ∈ A2, d ≤ 100) (l1 : 1 ≤ A1.length) (l1' : A1.length ≤ 100) (l2 : 1 ≤ A2.length) (l2' : A2.length ≤ 100)
    (hsl : sts.length ≤ 10) (hs3 : ∀ n ∈ sts, n ≤ 100) (hf3 : first ≤ 100) (hm4 : many ≤ 4) (heq : ∀ p < many + 2, 2 * (pw A1 p - pw A2 p) = twice first sts p) (hm : ρ (Str.ofString "many") = some (.int (many : Int))) (hf : ρ (Str.ofString "first") = some (.int (first : Int))) (hst : ρ (Str.ofString "steps") = some (.list (iints sts)))
    (hp : ρ (Str.ofString "pages") = some (.list [.str (mkS (txt (crows A1))), .str (mkS (txt (crows A2)))])) :
    ∃ ρ', S1 (LG prog w P mg mb A hs s n) ρ none (lawS 12) (.next ρ' none) ∧ ∀ y, y ≠ Str.ofString "power" → y ≠ Str.ofString "apart" → ρ' y = ρ y := by
  obtain ⟨ρ', q1, q2⟩ := loop12 hΓ hA1 hA2 l1 l1' l2 l2' hsl hs3 hf3 (List.range (many + 2)) ρ (fun p hp => by have := List.mem_range.mp hp; exact ⟨by omega, heq p this⟩) hf hst hp
  rw [← rng0] at q1
  exact ⟨ρ', S1.for_ hΓ (IT.range1 (n := ((many + 2 : Nat) : Int)) hΓ gb_range rfl (EV.cast (EV.bin hΓ (EV.name hΓ hm) EV.int B2.add_int) rfl) rfl (by omega) (by omega)) (own_fn (.inl rfl)) q1 fun _ => rfl, q2⟩

theorem law13 {A1 A2 : List Nat} (hΓ : (LG prog w P mg mb A hs s n).Ok) (hn : 1 ≤ n) (hA1 : ∀ d ∈ A1, d ≤ 100) (hA2 : ∀ d ∈ A2, d ≤ 100) (l1 : A1.length ≤ 100) (l2 : A2.length ≤ 100)
    (hp : ρ (Str.ofString "pages") = some (.list [.str (mkS (txt (crows A1))), .str (mkS (txt (crows A2)))])) :
    S1 (LG prog w P mg mb A hs s n) ρ none (lawS 13) (.next (up ρ (Str.ofString "texts") (.list [.str (mkS (lead A1)), .str (mkS (lead A2))])) none) := by
  refine S1.asgc hΓ (compok rfl rfl rfl ⟨rfl, rfl⟩ rfl trivial) (IT.list hΓ (EV.name hΓ hp)) (rs := [A1, A2].map fun B => PV.str (mkS (lead B))) ?_ (fun _ => rfl) (show (2 : Nat) ≤ sizeLine by decide) (own_fn (.inl rfl)) no_mu rfl
  refine CL.map [A1, A2] (fun B => PV.str (mkS (txt (crows B)))) _ fun B hB C bs s' hΓ' => ?_
  have hB' : (∀ d ∈ B, d ≤ 100) ∧ B.length ≤ 100 := by
    rcases List.mem_cons.mp hB with rfl | hB
    · exact ⟨hA1, l1⟩
    · rcases List.mem_cons.mp hB with rfl | hB
      · exact ⟨hA2, l2⟩
      · cases hB
  have hlen : ∀ z : List Nat, z.length ≤ 2 → (txt (B.map fun d => (d, z))).length ≤ 10200 := fun z hz => by
    have := txt_le (rows := B.map fun d => (d, z)) (a := 102) fun r hr => by
      obtain ⟨d, hd, rfl⟩ := List.mem_map.mp hr
      have := hB'.1 d hd
      show d + z.length ≤ 102
      omega
    rw [List.length_map] at this
    have h2 := Nat.mul_le_mul_right 102 hB'.2
    omega
  have e9 : ended (crows B) [9] = B.map fun d => (d, [9]) := by simp [ended, crows]
  refine EV.cast (EV.repl2 hΓ' (EV.cast (EV.repl2 hΓ' (EV.name hΓ' rfl) hn ?_ (fun _ c => booked c) rfl) (show _ = PV.str (mkS (txt (ended (crows B) [9]))) from ?_)) hn ?_ (fun _ c => booked c) rfl) ?_
  · rw [mkS_length]
    have := hlen [13, 10] (by decide)
    show (txt (crows B)).length + ((txt (crows B)).length + 1) * 1 ≤ _
    have e : crows B = B.map fun d => (d, [13, 10]) := rfl
    rw [e]; omega
  · rw [← replace_rows (crows B) (fun r hr => by obtain ⟨d, hd, rfl⟩ := List.mem_map.mp hr; rfl) [9]]; rfl
  · rw [mkS_length, e9]
    have := hlen [9] (by decide)
    show _ + (_ + 1) * 1 ≤ _
    omega
  · rw [← repl_dots]

theorem wd_pv (l : List Nat) : (wdL l).pv = (wdOf (mkS l)).pv := rfl
theorem EV.ws {Γ : Fx} {ρ : Loc} {mu : Mu} {e : Expr} {l : List Nat} {p pos : Pos} (hΓ : Γ.Ok) (hC : Γ.C = Cx P mg mb) (hk : Γ.k = 12) (hg : Γ.env.kindOf (Str.ofString "Whitespace") = some .globalImplicit) (h : EV Γ ρ mu e (.str (mkS l))) (hst : isStarred e = false) (hl : l.length ≤ 900) (hc : ∀ c ∈ l, c = 32 ∨ c = 9)
    (he : eval (.Call (.Name (Str.ofString "Whitespace") p) [e] [] pos) Γ.env = (do callWith pos (← eval (.Name (Str.ofString "Whitespace") p) Γ.env) [] (backTo pos (starEach [e] Γ.env)) (backToKw pos (keywordEach [] Γ.env)))) :
    EV Γ ρ mu (.Call (.Name (Str.ofString "Whitespace") p) [e] [] pos) (wdL l).pv :=
  EV.call hΓ (EV1.glob hΓ (hC ▸ gl152) hg) (hC ▸ kee_cls) (.cons h hst .nil) (hC ▸ c_cls (k := 5) (by rw [mkS_length]; exact hl) hc (by decide)) (by rw [hk]; decide) (by decide) he
theorem law14 {A1 A2 : List Nat} (hΓ : (LG prog w P mg mb A hs s n).Ok) (hA1 : ∀ d ∈ A1, d ≤ 20) (hA2 : ∀ d ∈ A2, d ≤ 20) (l1 : A1.length ≤ 8) (l2 : A2.length ≤ 8)
    (hp : ρ (Str.ofString "texts") = some (.list [.str (mkS (lead A1)), .str (mkS (lead A2))])) :
    S1 (LG prog w P mg mb A hs s n) ρ none (lawS 14) (.next (up ρ (Str.ofString "leads") (.list [(wdL (lead A1)).pv, (wdL (lead A2)).pv])) none) := by
  refine S1.asgc hΓ (compok rfl rfl rfl ⟨rfl, rfl⟩ rfl trivial) (IT.list hΓ (EV.name hΓ hp)) (rs := [A1, A2].map fun B => (wdL (lead B)).pv) ?_ (fun _ => rfl) (show (2 : Nat) ≤ sizeLine by decide) (own_fn (.inl rfl)) no_mu rfl
  refine CL.map [A1, A2] (fun B => PV.str (mkS (lead B))) _ fun B hB C bs s' hΓ' => EV.ws (P := P) (mg := mg) (mb := mb) hΓ' rfl rfl rfl (EV.name hΓ' rfl) rfl ?_ lead_chars rfl
  rcases List.mem_cons.mp hB with rfl | hB
  · have := lead_len _ _ hA1; omega
  · rcases List.mem_cons.mp hB with rfl | hB
    · have := lead_len _ _ hA2; omega
    · cases hB
theorem pow_cast (k : Nat) : (2 : Int) ^ k = ((2 ^ k : Nat) : Int) := by simp
theorem law15 {many : Nat} {sts : List Nat} (hΓ : (LG prog w P mg mb A hs s n).Ok) (hm : ρ (Str.ofString "many") = some (.int (many : Int))) (hl : sts.length = many) (h2 : 2 ≤ many) (h4 : many ≤ 4) :
    S1 (LG prog w P mg mb A hs s n) ρ none (lawS 15) (.next (up ρ (Str.ofString "tabs") (.int ((tabsOf sts : Nat) : Int))) none) := by
  refine S1.asg hΓ (EV.cast (EV.bin hΓ EV.int (EV.bin hΓ (EV.name hΓ hm) EV.int B2.sub_int) (B2.pow_int (by omega) (by omega) (by decide))) ?_) (own_fn (.inl rfl)) no_mu rfl
  rw [show ((many : Int) - 1).toNat = many - 1 by omega, pow_cast]
  unfold tabsOf; rw [hl]
theorem law16 {first : Nat} {sts : List Nat} (hΓ : (LG prog w P mg mb A hs s n).Ok) (hf : ρ (Str.ofString "first") = some (.int (first : Int))) (hst : ρ (Str.ofString "steps") = some (.list (iints sts))) (ht : ρ (Str.ofString "tabs") = some (.int ((tabsOf sts : Nat) : Int))) (ht8 : tabsOf sts ≤ 8) :
    S1 (LG prog w P mg mb A hs s n) ρ none (lawS 16) (.next (up ρ (Str.ofString "signs") (.int ((signsOf first sts : Nat) : Int))) none) := by
  refine S1.asg hΓ (EV.cast (EV.bin hΓ (EV.bin hΓ (EV.name hΓ ht) (EV.bin hΓ (EV.name hΓ hf) EV.int B2.add_int) (B2.mul_int (IntMulOk.of_left (bits_small (by omega)))))
    (EV.bin hΓ (EV.bin hΓ (EV.name hΓ ht) EV.int (B2.floordiv_int (by decide) (by decide))) (EV.cast (EV.call hΓ (EV1.glob hΓ gb_sum rfl) .builtin (.cons (EV.name hΓ (hst.trans (by rw [iints_int]))) rfl .nil) (c_sum (k := 5)) hΓ.room (Nat.le_refl _) rfl) (show _ = PV.int ((sts.sum : Nat) : Int) by rw [sum_int]))
      (B2.mul_int (IntMulOk.of_left (bits_small ?_)))) B2.add_int) ?_) (own_fn (.inl rfl)) no_mu rfl
  · rw [show (2 : Int) = ((2 : Nat) : Int) from rfl, fdiv_nat]; omega
  · rw [show (2 : Int) = ((2 : Nat) : Int) from rfl, fdiv_nat]
    unfold signsOf
    simp
theorem law17 {sts : List Nat} (hΓ : (LG prog w P mg mb A hs s n).Ok) (ht : ρ (Str.ofString "tabs") = some (.int ((tabsOf sts : Nat) : Int))) (ht8 : tabsOf sts ≤ 8) :
    S1 (LG prog w P mg mb A hs s n) ρ none (lawS 17) (.next (up ρ (Str.ofString "bare") (wdL (List.replicate (tabsOf sts) 9)).pv) none) := by
  refine S1.asg hΓ (EV.ws (P := P) (mg := mg) (mb := mb) hΓ rfl rfl rfl (EV.cast (EV.bin hΓ EV.str (EV.name hΓ ht) (B2.mul_str (by decide) (by omega))) ?_) rfl (by rw [List.length_replicate]; omega) (fun c hc => .inr (List.eq_of_mem_replicate hc)) rfl) (own_fn (.inl rfl)) no_mu rfl
  rw [reps_one _ 9 _ rfl]
end
end Mine
end -- F14
section -- F15
set_option maxRecDepth 100000
namespace Mine
theorem foldl_max_ge : ∀ (l : List Nat) (a : Nat), a ≤ l.foldl max a ∧ ∀ x ∈ l, x ≤ l.foldl max a
  | [], a => ⟨Nat.le_refl _, fun x h => by cases h⟩
  | y :: l, a => by
    obtain ⟨h1, h2⟩ := foldl_max_ge l (max a y)
    rw [List.foldl_cons]
    refine ⟨Nat.le_trans (Nat.le_max_left _ _) h1, fun x hx => ?_⟩
    rcases List.mem_cons.mp hx with rfl | hx
    · exact Nat.le_trans (Nat.le_max_right _ _) h1
    · exact h2 x hx
theorem le_maxOf {l : List Nat} {x : Nat} (h : x ∈ l) : x ≤ maxOf l := (foldl_max_ge l 0).2 x h
theorem okW_ok {d : Wd} (h : okW d = true) : d.Ok := by
  unfold okW at h
  simp only [Bool.and_eq_true, decide_eq_true_eq] at h
  exact ⟨h.1.1, h.1.2, h.2⟩
/-- what is decided of one lead -/
structure LeadOk (first : Nat) (sts B : List Nat) : Prop where
  n : (wdL (lead B)).n = ((signsOf first sts : Nat) : Int)
  nt : (wdL (lead B)).nt = ((tabsOf sts : Nat) : Int)
  cnt : (wdL (lead B)).cnt = (List.range (maxOf B + 1)).map fun (i : Nat) => ((B.count i : Nat) : Int)
  b : (wdL (lead B)).b = 0
  less : lessW (wdL (List.replicate (tabsOf sts) 9)) (wdL (lead B)) = false
  wit : nlwit (wdL (List.replicate (tabsOf sts) 9)) (wdL (lead B)) = [(((maxOf B + 1 : Nat) : Int), ((maxOf B + 1 : Nat) : Int) * ((tabsOf sts : Nat) : Int), ((maxOf B + 1 : Nat) : Int) * ((tabsOf sts : Nat) : Int))]
  l1 : 1 ≤ B.length
  l8 : B.length ≤ 8
  s1 : ∀ r ∈ B, 1 ≤ r ∧ r ≤ 20
  mx : maxOf B ∈ B
  ok : (wdL (lead B)).Ok
  okb : (wdL (List.replicate (tabsOf sts) 9)).Ok
theorem leadOk_of {first : Nat} {sts B : List Nat} (h : goodLead first sts B = true) : LeadOk first sts B := by
  unfold goodLead at h
  simp only [wdF_zero, ← lessF_eq, ← nlwitF_eq] at h
  simp only [Bool.and_eq_true, decide_eq_true_eq, beq_iff_eq, List.all_eq_true] at h
  obtain ⟨⟨⟨⟨⟨⟨⟨⟨⟨⟨⟨h1, h2⟩, h3⟩, h4⟩, h5⟩, h6⟩, h7⟩, h8⟩, h9⟩, h10⟩, h11⟩, h12⟩ := h
  exact ⟨h1, h2, h3, h4, h5, h6, h7, h8, h9, h10, okW_ok h11, okW_ok h12⟩
section
variable {prog : Program} {w : World} {P : Params} {mg mb : Str → Option Value} {A : Around} {hs : List Addr} {s : Shared} {n : Nat} {ρ : Loc}
noncomputable def B18 : List Stmt := forBody fd213.1.body 18
theorem EV.maxS {Γ : Fx} {ρ : Loc} {mu : Mu} {B : List Nat} {p q r : Pos} (hΓ : Γ.Ok) (hC : Γ.C = Cx P mg mb) (hg : Γ.env.kindOf (Str.ofString "max") = some .globalImplicit) (h : ρ (Str.ofString "sizes") = some (.list (iints B))) (hm : maxOf B ∈ B) :
    EV Γ ρ mu (.Call (.Name (Str.ofString "max") p) [.Name (Str.ofString "sizes") q] [] r) (.int ((maxOf B : Nat) : Int)) :=
  EV.call hΓ (EV1.glob hΓ (hC ▸ gb_max) hg) .builtin (.cons (EV.name hΓ (h.trans (by rw [iints_int]))) rfl .nil) (c_max_list (k := 5) (List.mem_map.mpr ⟨_, hm, rfl⟩) (fun x hx => by obtain ⟨y, hy, rfl⟩ := List.mem_map.mp hx; have := le_maxOf hy; omega)) hΓ.room (Nat.le_refl _) he_name
theorem count_int (B : List Nat) (i : Nat) : (B.map fun (n : Nat) => (n : Int)).count (i : Int) = B.count i := by
  induction B with
  | nil => rfl
  | cons x B ih =>
    rw [List.map_cons, List.count_cons, List.count_cons, ih]
    congr 1
    by_cases h : x = i
    · subst h; simp
    · have : ¬ (x : Int) = (i : Int) := fun q => h (Int.ofNat.inj q)
      simp [h, this]
theorem body18 {first : Nat} {sts B : List Nat} {T : Addr} {o : Obj} (K : LeadOk first sts B) (hΓ : ((LG prog w P mg mb A hs s n).pinned T o).Ok) (h1 : ρ (Str.ofString "lead") = some (wdL (lead B)).pv) (h2 : ρ (Str.ofString "sizes") = some (.list (iints B)))
    (h3 : ρ (Str.ofString "bare") = some (wdL (List.replicate (tabsOf sts) 9)).pv) (h4 : ρ (Str.ofString "signs") = some (.int ((signsOf first sts : Nat) : Int))) (h5 : ρ (Str.ofString "tabs") = some (.int ((tabsOf sts : Nat) : Int))) (ht8 : tabsOf sts ≤ 8) :
    SX ((LG prog w P mg mb A hs s n).pinned T o) ρ none B18 (.next (up ρ (Str.ofString "edge") (.int ((maxOf B + 1 : Nat) : Int))) none) := by
  refine SX.cons (S1.ifs (b := false) (ET.cast (ET.cmp hΓ (EV.list hΓ (.cons (EV.attr hΓ (EV.name hΓ h1) ga_n rfl fun _ _ => rfl) rfl (.cons (EV.attr hΓ (EV.name hΓ h1) ga_nt rfl fun _ _ => rfl) rfl .nil)) (show (2 : Nat) ≤ sizeLine by decide)) (EV.list hΓ (.cons (EV.name hΓ h4) rfl (.cons (EV.name hΓ h5) rfl .nil)) (show (2 : Nat) ≤ sizeLine by decide))
    (C2.ne_ints (ns := [(wdL (lead B)).n, (wdL (lead B)).nt]) (ms := [((signsOf first sts : Nat) : Int), ((tabsOf sts : Nat) : Int)])) rfl) (by rw [K.n, K.nt]; simp)) (fun e => by cases e) fun _ => SX.nil) ?_
  have hm20 : maxOf B ≤ 20 := (K.s1 _ K.mx).2
  have k1 : CompOk ((LG prog w P mg mb A hs s n).pinned T o) { kind := .function, names := [(Str.ofString ".0", .local), (Str.ofString "dots", .local), (Str.ofString "sizes", .free)], isGenerator := false, isCoroutine := false } _ (Str.ofString "dots") := compok rfl rfl rfl ⟨rfl, rfl⟩ rfl ⟨⟨rfl, rfl, rfl, rfl⟩, trivial⟩
  refine SX.cons (S1.ifs (b := false) (ET.cast (ET.cmp hΓ (EV.attr hΓ (EV.name hΓ h1) ga_norm rfl fun _ _ => rfl) (EV.tup hΓ (.cons (@EV.call _ _ _ hΓ _ _ _ _ _ _ (EV1.glob hΓ gb_tuple rfl) .type (.cons (@EV.comp _ _ _ hΓ _ _ _ _ _ _ _ _ _ (zints ((List.range (maxOf B + 1)).map fun (i : Nat) => ((B.count i : Nat) : Int))) k1
    (IT.range1 (n := ((maxOf B + 1 : Nat) : Int)) hΓ gb_range rfl (EV.cast (EV.bin hΓ (EV.maxS (P := P) (mg := mg) (mb := mb) hΓ rfl rfl h2 K.mx) EV.int B2.add_int) rfl) rfl (by omega) ?_) ?_ (fun _ => rfl) ?_) rfl .nil) 5 (c_tuple_list ?_) (show 5 ≤ 12 by decide) (by decide) he_name) rfl (.cons EV.int rfl .nil)) (show (2 : Nat) ≤ sizeLine by decide))
    (C2.ne_norm (b := 0)) rfl) (by rw [K.cnt, K.b]; simp)) (fun e => by cases e) fun _ => SX.nil) ?_
  · omega
  · rw [rng0, show zints ((List.range (maxOf B + 1)).map fun (i : Nat) => ((B.count i : Nat) : Int)) = (List.range (maxOf B + 1)).map fun (i : Nat) => PV.int ((B.count i : Nat) : Int) by simp [zints]]
    refine CL.map (List.range (maxOf B + 1)) (fun (i : Nat) => PV.int (i : Int)) _ fun i hi C bs s' hΓ' => EV.cast (EV.meth hΓ' (EV.name hΓ' ((compρ_free (by decide) rfl).trans (h2.trans (by rw [iints_int])))) (GM.list PySem.F.slot_list_count PySem.F.type_list_count) .builtin (.cons (EV.name hΓ' rfl) rfl .nil) (c_count (k := 5)) (show 5 ≤ 12 by decide) (by decide) rfl) (by rw [count_int])
  · simp only [zints, List.length_map, List.length_range]; unfold sizeLine; omega
  · simp only [zints, List.length_map, List.length_range]; unfold sizeLine; omega
  · refine SX.cons (S1.asg hΓ (EV.cast (EV.bin hΓ (EV.maxS (P := P) (mg := mg) (mb := mb) hΓ rfl rfl h2 K.mx) EV.int B2.add_int) rfl) (.inl rfl) no_mu rfl) ?_
    have g1 : (up ρ (Str.ofString "edge") (.int ((maxOf B + 1 : Nat) : Int))) (Str.ofString "lead") = some (wdL (lead B)).pv := by rw [up_ne _ _ (by decide)]; exact h1
    have g3 : (up ρ (Str.ofString "edge") (.int ((maxOf B + 1 : Nat) : Int))) (Str.ofString "bare") = some (wdL (List.replicate (tabsOf sts) 9)).pv := by rw [up_ne _ _ (by decide)]; exact h3
    have g5 : (up ρ (Str.ofString "edge") (.int ((maxOf B + 1 : Nat) : Int))) (Str.ofString "tabs") = some (.int ((tabsOf sts : Nat) : Int)) := by rw [up_ne _ _ (by decide)]; exact h5
    refine SX.one (S1.ifs (b := false || false) (ET.or2 (ET.cast (ET.cmp hΓ (EV.meth hΓ (EV.name hΓ g3) gm_less (.fn fun h c => ⟨_, _, c.k _ _ (fd142.2 P), rfl⟩) (.cons (EV.name hΓ g1) rfl .nil) (c_less (k := 6) K.okb K.ok (by decide)) (show 7 ≤ 12 by decide) (by decide) rfl) EV.bool C2.isnot_bool rfl) (by rw [K.less]; rfl))
      fun _ => ET.cast (ET.cmp hΓ (EV.meth hΓ (EV.name hΓ g3) gm_nlwit (.fn fun h c => ⟨_, _, c.k _ _ (fd149.2 P), rfl⟩) (.cons (EV.name hΓ g1) rfl .nil) (c_nlwit (k := 6) K.okb K.ok (by decide)) (show 7 ≤ 12 by decide) (by decide) rfl)
        (EV.list hΓ (.cons (EV.tup hΓ (.cons (EV.name hΓ (up_same _ _ _)) rfl (.cons (EV.bin hΓ (EV.name hΓ (up_same _ _ _)) (EV.name hΓ g5) (B2.mul_int (IntMulOk.of_left (bits_small (by omega))))) rfl (.cons (EV.bin hΓ (EV.name hΓ (up_same _ _ _)) (EV.name hΓ g5) (B2.mul_int (IntMulOk.of_left (bits_small (by omega))))) rfl .nil))) (show (3 : Nat) ≤ sizeLine by decide)) rfl .nil) (show (1 : Nat) ≤ sizeLine by decide))
        (C2.ne_trips (l' := [(((maxOf B + 1 : Nat) : Int), ((maxOf B + 1 : Nat) : Int) * ((tabsOf sts : Nat) : Int), ((maxOf B + 1 : Nat) : Int) * ((tabsOf sts : Nat) : Int))]) K.wit) rfl) rfl) (fun e => by cases e) fun _ => SX.nil)
end
end Mine
end -- F15
section -- F16
set_option maxRecDepth 100000
namespace Mine
section
variable {prog : Program} {w : World} {P : Params} {mg mb : Str → Option Value} {A : Around} {hs : List Addr} {s : Shared} {n : Nat} {ρ : Loc}
noncomputable def row18 (ρ : Loc) (B : List Nat) : Loc := up (up (up ρ (Str.ofString "lead") (wdL (lead B)).pv) (Str.ofString "sizes") (.list (iints B))) (Str.ofString "edge") (.int ((maxOf B + 1 : Nat) : Int))
theorem law18 {first : Nat} {sts A1 A2 : List Nat} (K1 : LeadOk first sts A1) (K2 : LeadOk first sts A2) (hΓ : (LG prog w P mg mb A hs s n).Ok) (hl : ρ (Str.ofString "leads") = some (.list [(wdL (lead A1)).pv, (wdL (lead A2)).pv])) (hr : ρ (Str.ofString "rows") = some (.list [.list (iints A1), .list (iints A2)]))
    (h3 : ρ (Str.ofString "bare") = some (wdL (List.replicate (tabsOf sts) 9)).pv) (h4 : ρ (Str.ofString "signs") = some (.int ((signsOf first sts : Nat) : Int))) (h5 : ρ (Str.ofString "tabs") = some (.int ((tabsOf sts : Nat) : Int))) (ht8 : tabsOf sts ≤ 8) :
    S1 (LG prog w P mg mb A hs s n) ρ none (lawS 18) (.next (row18 (row18 ρ A1) A2) none) := by
  refine S1.forz (ρ' := row18 (row18 ρ A1) A2) hΓ (.cons _ _ (.cons _ _ .nil)) (IT2.zip2 hΓ gb_zip rfl (EV.name hΓ hl) rfl (EV.name hΓ hr) rfl) pairUp_lens (fun x hx => ?_)
    (.step (ρ' := row18 ρ A1) (fun T o hΓ' => ?_) (.step (ρ' := row18 (row18 ρ A1) A2) (fun T o hΓ' => ?_) .done)) fun _ => rfl
  · rcases List.mem_cons.mp hx with rfl | hx
    · exact own_fn (.inl rfl)
    · rcases List.mem_cons.mp hx with rfl | hx
      · exact own_fn (.inr rfl)
      · cases hx
  · rw [ups2]
    exact body18 K1 hΓ' (by rw [up_ne _ _ (by decide)]; exact up_same _ _ _) (up_same _ _ _) (by rw [up_ne _ _ (by decide), up_ne _ _ (by decide)]; exact h3) (by rw [up_ne _ _ (by decide), up_ne _ _ (by decide)]; exact h4) (by rw [up_ne _ _ (by decide), up_ne _ _ (by decide)]; exact h5) ht8
  · rw [ups2]
    have e : ∀ y d, y ≠ Str.ofString "lead" → y ≠ Str.ofString "sizes" → y ≠ Str.ofString "edge" → ρ y = some d → (up (up (row18 ρ A1) (Str.ofString "lead") (wdL (lead A2)).pv) (Str.ofString "sizes") (.list (iints A2))) y = some d := fun y d y1 y2 y3 h => by
      rw [up_ne _ _ y2, up_ne _ _ y1]; unfold row18; rw [up_ne _ _ y3, up_ne _ _ y2, up_ne _ _ y1]; exact h
    exact body18 K2 hΓ' (by rw [up_ne _ _ (by decide)]; exact up_same _ _ _) (up_same _ _ _) (e _ _ (by decide) (by decide) (by decide) h3) (e _ _ (by decide) (by decide) (by decide) h4) (e _ _ (by decide) (by decide) (by decide) h5) ht8

theorem EV.slices {Γ : Fx} {ρ : Loc} {mu : Mu} (hΓ : Γ.Ok) {e lo up st p pos xs ys i j k} (h : EV Γ ρ mu e (.list xs)) (hl : PT Γ ρ mu lo i) (hu : PT Γ ρ mu up j) (hst : PT Γ ρ mu st k) (h0 : k ≠ some 0)
    (hp : ∀ G (items : Array Value), Reps G xs items.toList → Reps G ys (slicePick items i j k).toList) (hz : xs.length ≤ sizeLine)
    (hs' : ∀ o v, subscripted (.Slice lo up st p) false o v = operate [o, v] (getItem o v)) : EV Γ ρ mu (.Subscript e (.Slice lo up st p) pos) (.list ys) := fun a s E hs =>
  PyProof.Rows.Subscript_ (wpAny_mono (h a s E hs) (fun v1 s1 hv1 => by
    have hs1 := hs.kept hv1.1
    refine wpAny_Slice (wpAny_mono (hl.ev a s1 E hs1) (fun l s2 h2 => wpAny_mono (hu.ev a s2 E (hs1.kept h2.1)) (fun u s3 h3 => wpAny_mono (hst.ev a s3 E ((hs1.kept h2.1).kept h3.1)) (fun t s4 h4 => ?_) fun _ _ e => e) fun _ _ e => e) fun _ _ e => e)
    have k4 : Kp s1 s4 := (h2.1.trans h3.1).trans h4.1
    have hs4 := hs1.kept k4
    obtain ⟨b, vs, n, rfl, hb, hr⟩ := (hv1.2.mono (k4.le _)).list_inv
    have hat := (vw_some.mp hb).2.1
    have el : xs.length = vs.size := by rw [hr.length, Array.length_toList]
    have hlist : (s4.heap.push { cls := .type "slice", data := .fields #[l, u, t] }).IsList b vs := ⟨_, Heap.get?_push_of_some _ hat, rfl, n, rfl⟩
    refine tail_any (T := "list") (ops := [.ref b, .ref s4.heap.objs.size]) hlist.typeIs slot_list_getitem.lookup ?_ (hs' _ _)
    refine wpAny_getItem_list_slice hlist (Heap.IsSliceOf.new ..) h2.2 h3.2 h4.2 h0 ?_ (by omega)
    have kp5 := push_kp s4 { cls := .type "slice", data := .fields #[l, u, t] }
    refine ⟨((hv1.1.trans k4).trans kp5).trans (push_kp { s4 with heap := s4.heap.push { cls := .type "slice", data := .fields #[l, u, t] } } _), ?_⟩
    exact new_list (s := { s4 with heap := s4.heap.push { cls := .type "slice", data := .fields #[l, u, t] } }) (hs4.live.kp kp5) ((hp _ _ hr).mono (kp5.le _))) fun _ _ e => e)

theorem join_lead (A : List Nat) : Txt.join (Str.ofString "") (A.map fun d => mkS (List.replicate d 32 ++ [9])) = mkS (lead A) := by
  have := join_flat (A.map fun d => List.replicate d 32 ++ [9])
  rw [List.map_map] at this
  rw [show (A.map fun d => mkS (List.replicate d 32 ++ [9])) = A.map (mkS ∘ fun d => List.replicate d 32 ++ [9]) from rfl, this]
  rfl
theorem law19 {A1 A2 : List Nat} (hΓ : (LG prog w P mg mb A hs s n).Ok) (hA1 : ∀ d ∈ A1, d ≤ 20) (hA2 : ∀ d ∈ A2, d ≤ 20) (l1 : A1.length ≤ 8) (l2 : A2.length ≤ 8) (hr : ρ (Str.ofString "rows") = some (.list [.list (iints A1), .list (iints A2)])) :
    S1 (LG prog w P mg mb A hs s n) ρ none (lawS 19) (.next (up ρ (Str.ofString "turned") (.list [(wdL (lead A1.reverse)).pv, (wdL (lead A2.reverse)).pv])) none) := by
  have k1 : CompOk (LG prog w P mg mb A hs s n) { kind := .function, names := [(Str.ofString ".0", .local), (Str.ofString "sizes", .local), (Str.ofString "Whitespace", .globalImplicit)], isGenerator := false, isCoroutine := false } [] (Str.ofString "sizes") := compok rfl rfl rfl ⟨rfl, rfl⟩ rfl trivial
  show S1 _ _ _ (.Assign [.Name (Str.ofString "turned") _] (.ListComp _ [⟨.Name (Str.ofString "sizes") _, _, _, 0⟩] _ _) _) _
  refine @S1.asgc _ _ _ hΓ _ _ _ _ _ _ _ _ _ [(wdL (lead A1.reverse)).pv, (wdL (lead A2.reverse)).pv] _ _ _ k1 (IT.list hΓ (EV.name hΓ hr)) ?_ (fun _ => rfl) (show (2 : Nat) ≤ sizeLine by decide) (own_fn (.inl rfl)) no_mu rfl
  refine CL.map [A1, A2] (fun B => PV.list (iints B)) (fun B => (wdL (lead B.reverse)).pv) fun B hB C bs s' hΓ' => ?_
  have hB' : (∀ d ∈ B, d ≤ 20) ∧ B.length ≤ 8 := by
    rcases List.mem_cons.mp hB with rfl | hB
    · exact ⟨hA1, l1⟩
    · rcases List.mem_cons.mp hB with rfl | hB
      · exact ⟨hA2, l2⟩
      · cases hB
  have hrl : (lead B.reverse).length ≤ 900 := by have := lead_len B.reverse 20 fun d hd => hB'.1 d (List.mem_reverse.mp hd); rw [List.length_reverse] at this; omega
  refine @EV.ws P mg mb _ _ _ _ (lead B.reverse) _ _ hΓ' rfl rfl rfl ?_ rfl hrl lead_chars he_name
  refine @EV.cast _ _ _ _ _ _ (@EV.joinc _ _ _ hΓ' _ _ _ _ _ _ _ _ _ _ _ [] _ (B.reverse.map fun d => mkS (List.replicate d 32 ++ [9])) (compok rfl rfl rfl ⟨rfl, rfl⟩ rfl trivial) (IT.list hΓ' (EV.slices hΓ' (ys := iints B.reverse) (EV.name hΓ' rfl) .no .no (.yes (EV.neg hΓ' EV.int)) (by decide) (fun G items hq => ?_) ?_ (fun _ _ => rfl))) ?_ (fun _ => rfl) ?_ ?_ rfl) ?_
  · have := pick_rev items hq
    rw [show (iints B).reverse = iints B.reverse by simp [iints]] at this
    exact this
  · rw [iints_length]; unfold sizeLine; omega
  · rw [List.map_map]
    refine CL.map B.reverse (fun (d : Nat) => PV.int (d : Int)) _ fun d hd C2 bs2 s2 hΓ2 => EV.cast (EV.bin hΓ2 (EV.bin hΓ2 EV.str (EV.name hΓ2 rfl) (B2.mul_str (by decide) (by have := hB'.1 d (List.mem_reverse.mp hd); omega))) EV.str (B2.add_str ?_)) ?_
    · have := hB'.1 d (List.mem_reverse.mp hd)
      rw [reps_one _ 32 d rfl, mkS_length, List.length_replicate]
      show d + 1 ≤ sizeLine
      unfold sizeLine; omega
    · rw [reps_one _ 32 d rfl]
      show PV.str (mkS _ ++ mkS [9]) = _
      rw [mkS_app]; rfl
  · rw [List.length_map, List.length_reverse]; unfold sizeLine; omega
  · exact join_size (fun d hd => by have := hB'.1 d (List.mem_reverse.mp hd); omega) (by rw [List.length_reverse]; omega) fun d => by simp
  · rw [join_lead]

theorem nat_beq (i j : Nat) : ((i : Int) == (j : Int)) = (i == j) := by
  by_cases h : i = j
  · subst h; rw [beq_self_eq_true, beq_self_eq_true]
  · have h' : ¬ (i : Int) = (j : Int) := fun q => h (Int.ofNat.inj q)
    rw [show (i == j) = false from beq_eq_false_iff_ne.mpr h]
    exact beq_eq_false_iff_ne.mpr h'
noncomputable def B20 : List Stmt := forBody fd213.1.body 20
noncomputable def B20i : List Stmt := forBody (.stmts B20) 0
theorem body20i {WA WB TA TB : Wd} {i j : Nat} (hΓ : (LG prog w P mg mb A hs s n).Ok) (hl : ρ (Str.ofString "leads") = some (.list [WA.pv, WB.pv])) (ht : ρ (Str.ofString "turned") = some (.list [TA.pv, TB.pv])) (hi : ρ (Str.ofString "this") = some (.int (i : Int))) (hj : ρ (Str.ofString "that") = some (.int (j : Int)))
    {W T : Wd} (h1 : [WA, WB][i]? = some W) (h2 : [TA, TB][j]? = some T) (hb : eqW W T = (i == j)) : SX (LG prog w P mg mb A hs s n) ρ none B20i (.next ρ none) := by
  have q1 : i < 2 := (List.getElem?_eq_some_iff.mp h1).1
  have q2 : j < 2 := (List.getElem?_eq_some_iff.mp h2).1
  refine SX.one (S1.ifs (b := false) (ET.cast (ET.cmp hΓ (EV.meth hΓ (EV.sub hΓ (EV.name hΓ hl) (EV.name hΓ hi) (GI.list (r := W.pv) (by omega) (by omega) ?_) fun _ _ => rfl) gm_equal (.fn fun h c => ⟨_, _, c.k _ _ (fd128.2 P), rfl⟩) (.cons (EV.sub hΓ (EV.name hΓ ht) (EV.name hΓ hj) (GI.list (r := T.pv) (by omega) (by omega) ?_) fun _ _ => rfl) rfl .nil)
    (c_equal (k := 5) (by decide)) (show 6 ≤ 12 by decide) (by decide) rfl) (EV.cmp hΓ (EV.name hΓ hi) (EV.name hΓ hj) C2.eq_int rfl) C2.isnot_bool rfl) ?_) (fun e => by cases e) fun _ => SX.nil)
  · have : [WA.pv, WB.pv] = [WA, WB].map Wd.pv := rfl
    rw [this, List.getElem?_map, Int.toNat_natCast, h1]; rfl
  · have : [TA.pv, TB.pv] = [TA, TB].map Wd.pv := rfl
    rw [this, List.getElem?_map, Int.toNat_natCast, h2]; rfl
  · have e : (decide (W.cnt = T.cnt) && decide (W.b = T.b)) = (i == j) := hb
    rw [e]
    rw [nat_beq]; cases (i == j) <;> rfl
theorem body20 {WA WB TA TB : Wd} {i : Nat} (hΓ : (LG prog w P mg mb A hs s n).Ok) (hl : ρ (Str.ofString "leads") = some (.list [WA.pv, WB.pv])) (ht : ρ (Str.ofString "turned") = some (.list [TA.pv, TB.pv])) (hi : ρ (Str.ofString "this") = some (.int (i : Int)))
    {W : Wd} (h1 : [WA, WB][i]? = some W) (h2 : eqW W TA = (i == 0)) (h3 : eqW W TB = (i == 1)) : SX (LG prog w P mg mb A hs s n) ρ none B20 (.next (up (up ρ (Str.ofString "that") (.int ((0 : Nat) : Int))) (Str.ofString "that") (.int ((1 : Nat) : Int))) none) := by
  refine SX.one (S1.for_ hΓ (IT.range1 (n := ((2 : Nat) : Int)) hΓ gb_range rfl EV.int rfl (by decide) (by decide)) (own_fn (.inl rfl)) (.step (d := .int ((0 : Nat) : Int)) no_mu (body20i (TA := TA) (TB := TB) hΓ (j := 0) ?_ ?_ ?_ (up_same _ _ _) h1 rfl h2) (.step (d := .int ((1 : Nat) : Int)) no_mu (body20i (TA := TA) (TB := TB) hΓ (j := 1) ?_ ?_ ?_ (up_same _ _ _) h1 rfl h3) .done)) fun _ => rfl)
  · rw [up_ne _ _ (by decide)]; exact hl
  · rw [up_ne _ _ (by decide)]; exact ht
  · rw [up_ne _ _ (by decide)]; exact hi
  · rw [up_ne _ _ (by decide), up_ne _ _ (by decide)]; exact hl
  · rw [up_ne _ _ (by decide), up_ne _ _ (by decide)]; exact ht
  · rw [up_ne _ _ (by decide), up_ne _ _ (by decide)]; exact hi
end
end Mine
end -- F16
section -- F17
set_option maxRecDepth 100000
namespace Mine
section
variable {prog : Program} {w : World} {P : Params} {mg mb : Str → Option Value} {A : Around} {hs : List Addr} {s : Shared} {n : Nat} {ρ : Loc}
noncomputable def row20 (ρ : Loc) (i : Nat) : Loc := up (up (up ρ (Str.ofString "this") (.int ((i : Nat) : Int))) (Str.ofString "that") (.int ((0 : Nat) : Int))) (Str.ofString "that") (.int ((1 : Nat) : Int))
theorem row20_keep {ρ : Loc} {i : Nat} {y : Str} (h1 : y ≠ Str.ofString "this") (h2 : y ≠ Str.ofString "that") : row20 ρ i y = ρ y := by unfold row20; rw [up_ne _ _ h2, up_ne _ _ h2, up_ne _ _ h1]
theorem law20 {WA WB TA TB : Wd} (hΓ : (LG prog w P mg mb A hs s n).Ok) (hl : ρ (Str.ofString "leads") = some (.list [WA.pv, WB.pv])) (ht : ρ (Str.ofString "turned") = some (.list [TA.pv, TB.pv])) (e1 : eqW WA TA = true) (e2 : eqW WA TB = false) (e3 : eqW WB TA = false) (e4 : eqW WB TB = true) :
    S1 (LG prog w P mg mb A hs s n) ρ none (lawS 20) (.next (row20 (row20 ρ 0) 1) none) := by
  refine S1.for_ hΓ (IT.range1 (n := ((2 : Nat) : Int)) hΓ gb_range rfl EV.int rfl (by decide) (by decide)) (own_fn (.inl rfl)) (.step (d := .int ((0 : Nat) : Int)) no_mu (body20 (i := 0) (WA := WA) (WB := WB) (TA := TA) (TB := TB) hΓ ?_ ?_ (up_same _ _ _) rfl e1 e2) (.step (d := .int ((1 : Nat) : Int)) no_mu (body20 (i := 1) (WA := WA) (WB := WB) (TA := TA) (TB := TB) hΓ ?_ ?_ (up_same _ _ _) rfl e3 e4) .done)) fun _ => rfl
  · rw [up_ne _ _ (by decide)]; exact hl
  · rw [up_ne _ _ (by decide)]; exact ht
  · rw [up_ne _ _ (by decide)]; exact (row20_keep (by decide) (by decide)).trans hl
  · rw [up_ne _ _ (by decide)]; exact (row20_keep (by decide) (by decide)).trans ht
theorem law21 (hΓ : (LG prog w P mg mb A hs s n).Ok) : S1 (LG prog w P mg mb A hs s n) ρ none (lawS 21) (.next (del ρ (Str.ofString "told")) (some (Str.ofString "told", []))) :=
  S1.asg_mu hΓ (EF.list hΓ .nil (show (0 : Nat) ≤ sizeLine by decide)) rfl rfl

noncomputable def B22 : List Stmt := forBody fd213.1.body 22
noncomputable def tell (first : Nat) (sts : List Nat) (i : Nat) : Bool := (sts.filter fun st => st % (1 + i) == 0).isEmpty && ((columns first sts (1 + i)).1 != (columns first sts (1 + i)).2)
noncomputable def tellRow (first : Nat) (sts : List Nat) (i : Nat) : Int × Int × Int := (((1 + i : Nat) : Int), (columns first sts (1 + i)).1, (columns first sts (1 + i)).2)
theorem body22 {first i : Nat} {sts : List Nat} {acc : List PV} (hΓ : (LG prog w P mg mb A hs s n).Ok) (hf : ρ (Str.ofString "first") = some (.int (first : Int))) (hst : ρ (Str.ofString "steps") = some (.list (iints sts))) (hz : ρ (Str.ofString "size") = some (.int ((1 + i : Nat) : Int))) (hsl : sts.length ≤ 10) (hs3 : ∀ x ∈ sts, x ≤ 100) (hf3 : first ≤ 100) (hi : i ≤ 1000) (hacc : acc.length ≤ 1000) :
    ∃ ρ', SX (LG prog w P mg mb A hs s n) ρ (some (Str.ofString "told", acc)) B22 (.next ρ' (some (Str.ofString "told", if tell first sts i = true then acc ++ [trip (tellRow first sts i)] else acc))) ∧ ∀ y, y ≠ Str.ofString "columns" → ρ' y = ρ y := by
  have k1 : CompOk (LG prog w P mg mb A hs s n) { kind := .function, names := [(Str.ofString ".0", .local), (Str.ofString "step", .local), (Str.ofString "size", .free)], isGenerator := false, isCoroutine := false } _ (Str.ofString "step") := compok rfl rfl rfl ⟨rfl, rfl⟩ rfl ⟨⟨rfl, rfl, rfl, rfl⟩, trivial⟩
  have hcmp : ∀ {p1 p2 p3 p4 p5 p6 p7 p8 p9 p10 p11 : Pos} {k1' : Nat}, ET (LG prog w P mg mb A hs s n) ρ (some (Str.ofString "told", acc)) (.Compare (.ListComp (.Name (Str.ofString "step") p1) [⟨.Name (Str.ofString "step") p2, .Name (Str.ofString "steps") p3, [.Compare (.BinOp (.Name (Str.ofString "step") p4) .Mod (.Name (Str.ofString "size") p5) p6) [.Eq] [.Constant (.int 0) k1' p7] p10], 0⟩] { kind := .function, names := [(Str.ofString ".0", .local), (Str.ofString "step", .local), (Str.ofString "size", .free)], isGenerator := false, isCoroutine := false } p8) [.Eq] [.List [] p9] p11)
      (sts.filter fun st => st % (1 + i) == 0).isEmpty := by
    intros
    refine ET.cast (ET.cmp hΓ (EV.cast (@EV.comp _ _ _ hΓ _ _ _ _ _ _ _ _ _ (iints (sts.filter fun st => st % (1 + i) == 0)) k1 (IT.list hΓ (EV.name hΓ hst)) ?_ (fun _ => rfl) ?_) (show PV.list (iints (sts.filter fun st => st % (1 + i) == 0)) = PV.list (((sts.filter fun st => st % (1 + i) == 0).map fun (n : Nat) => (n : Int)).map .int) by rw [iints_int])) (EV.list hΓ .nil (show (0 : Nat) ≤ sizeLine by decide))
      (C2.eq_ints (ns := (sts.filter fun st => st % (1 + i) == 0).map fun (n : Nat) => (n : Int)) (ms := [])) rfl) ?_
    · refine CL.mk sts (fun (m : Nat) => PV.int (m : Int)) (fun st => st % (1 + i) == 0) (fun (m : Nat) => PV.int (m : Int)) (fun st hst' => .inr ⟨_, rfl, fun C bs s' hΓ' => ET.cast (ET.cmp hΓ' (EV.bin hΓ' (EV.name hΓ' rfl) (EV.name hΓ' ((compρ_free (by decide) rfl).trans hz)) (B2.mod_int (by omega))) EV.int C2.eq_int rfl) ?_⟩) (fun st _ _ C bs s' hΓ' => EV.name hΓ' rfl)
      rw [fmod_nat]
      exact nat_beq _ 0
    · rw [iints_length]; have := List.length_filter_le (fun st => st % (1 + i) == 0) sts; unfold sizeLine; omega
    · cases (sts.filter fun st => st % (1 + i) == 0) <;> rfl
  have g1 : (up ρ (Str.ofString "columns") (.list [.int (columns first sts (1 + i)).1, .int (columns first sts (1 + i)).2])) (Str.ofString "size") = some (.int ((1 + i : Nat) : Int)) := by rw [up_ne _ _ (by decide)]; exact hz
  by_cases hb1 : (sts.filter fun st => st % (1 + i) == 0).isEmpty = true
  · refine ⟨up ρ (Str.ofString "columns") (.list [.int (columns first sts (1 + i)).1, .int (columns first sts (1 + i)).2]), @SX.one _ _ _ _ _ (@S1.ifs _ _ _ _ _ _ _ true _ (@ET.cast _ _ _ _ _ _ hcmp hb1) (fun _ => ?_) fun e => by cases e), fun y hy => up_ne _ _ hy⟩
    refine SX.cons (S1.asg hΓ (EV.call hΓ (EV1.glob hΓ gl208 rfl) (.fn fun h c => ⟨_, _, c.k _ _ (fd208.2 P), rfl⟩) (.cons (EV.name hΓ hf) rfl (.cons (EV.name hΓ hst) rfl (.cons (EV.name hΓ hz) rfl .nil))) (c_columns (k := 5) hsl hs3 hf3 (by omega) (by omega) (by decide)) (show 6 ≤ 12 by decide) (by decide) rfl) (own_fn (.inl rfl)) (mu_ne rfl) rfl) ?_
    refine SX.one (S1.ifs (b := (columns first sts (1 + i)).1 != (columns first sts (1 + i)).2) (ET.cmp hΓ (EV.sub hΓ (EV.name hΓ (up_same _ _ _)) EV.int (GI.list (by decide) (by decide) rfl) fun _ _ => rfl) (EV.sub hΓ (EV.name hΓ (up_same _ _ _)) EV.int (GI.list (by decide) (by decide) rfl) fun _ _ => rfl) C2.ne_int rfl) (fun hb => ?_) fun hb => ?_)
    · rw [show tell first sts i = true by unfold tell; rw [hb1, hb]; rfl, if_pos rfl]
      exact SX.one (S1.append hΓ (EV.tup hΓ (.cons (EV.name hΓ g1) rfl (.cons (EV.sub hΓ (EV.name hΓ (up_same _ _ _)) EV.int (GI.list (by decide) (by decide) rfl) fun _ _ => rfl) rfl (.cons (EV.sub hΓ (EV.name hΓ (up_same _ _ _)) EV.int (GI.list (by decide) (by decide) rfl) fun _ _ => rfl) rfl .nil))) (show 3 ≤ sizeLine by decide)) rfl (by unfold sizeLine; omega) rfl rfl rfl)
    · rw [show tell first sts i = false by unfold tell; rw [hb1, hb]; rfl, if_neg (by decide)]
      exact SX.nil
  · have hb1 : (sts.filter fun st => st % (1 + i) == 0).isEmpty = false := by simpa using hb1
    refine ⟨ρ, @SX.one _ _ _ _ _ (@S1.ifs _ _ _ _ _ _ _ false _ (@ET.cast _ _ _ _ _ _ hcmp hb1) (fun e => by cases e) fun _ => ?_), fun y _ => rfl⟩
    rw [show tell first sts i = false by unfold tell; rw [hb1]; rfl, if_neg (by decide)]
    exact SX.nil
end
end Mine
end -- F17
section -- F18
set_option maxRecDepth 100000
namespace Mine
section
variable {prog : Program} {w : World} {P : Params} {mg mb : Str → Option Value} {A : Around} {hs : List Addr} {s : Shared} {n : Nat} {ρ : Loc}
theorem loop22 {first : Nat} {sts : List Nat} (hΓ : (LG prog w P mg mb A hs s n).Ok) (hsl : sts.length ≤ 10) (hs3 : ∀ x ∈ sts, x ≤ 100) (hf3 : first ≤ 100) : ∀ (l : List Nat) (ρ : Loc) (acc : List PV), acc.length + l.length ≤ 900 → (∀ i ∈ l, i ≤ 900) → ρ (Str.ofString "first") = some (.int (first : Int)) → ρ (Str.ofString "steps") = some (.list (iints sts)) →
    ∃ ρ', Loop (LG prog w P mg mb A hs s n) (Str.ofString "size") B22 ρ (some (Str.ofString "told", acc)) (l.map fun (i : Nat) => .int ((1 : Int) + (i : Int))) (.next ρ' (some (Str.ofString "told", acc ++ ((l.filter (tell first sts)).map fun i => trip (tellRow first sts i))))) ∧
      ∀ y, y ≠ Str.ofString "size" → y ≠ Str.ofString "columns" → ρ' y = ρ y := fun l => by
  induction l with
  | nil => intro ρ acc _ _ _ _; exact ⟨ρ, by simpa using Loop.done, fun _ _ _ => rfl⟩
  | cons i l ih =>
    intro ρ acc hal hi hf hst
    rw [List.length_cons] at hal
    obtain ⟨ρ₁, q1, q2⟩ := body22 (i := i) (acc := acc) (ρ := up ρ (Str.ofString "size") (.int ((1 : Int) + (i : Int)))) hΓ (by rw [up_ne _ _ (by decide)]; exact hf) (by rw [up_ne _ _ (by decide)]; exact hst) (by rw [up_same]; simp) hsl hs3 hf3 (by have := hi i (List.mem_cons_self ..); omega) (by omega)
    obtain ⟨ρ', q3, q4⟩ := ih ρ₁ (if tell first sts i = true then acc ++ [trip (tellRow first sts i)] else acc) (by split <;> (try simp only [List.length_append, List.length_cons, List.length_nil]) <;> omega) (fun j hj => hi j (List.mem_cons_of_mem _ hj))
      (by rw [q2 _ (by decide), up_ne _ _ (by decide)]; exact hf) (by rw [q2 _ (by decide), up_ne _ _ (by decide)]; exact hst)
    have eacc : (if tell first sts i = true then acc ++ [trip (tellRow first sts i)] else acc) ++ ((l.filter (tell first sts)).map fun i => trip (tellRow first sts i)) = acc ++ (((i :: l).filter (tell first sts)).map fun i => trip (tellRow first sts i)) := by
      rw [List.filter_cons]; split <;> simp
    rw [eacc] at q3
    exact ⟨ρ', .step (mu_ne rfl) q1 q3, fun y y1 y2 => by rw [q4 y y1 y2, q2 y y2, up_ne _ _ y1]⟩
theorem law22 {first : Nat} {sts : List Nat} (hΓ : (LG prog w P mg mb A hs s n).Ok) (hsl : sts.length ≤ 10) (hs3 : ∀ x ∈ sts, x ≤ 3) (hf3 : first ≤ 3) (hf : ρ (Str.ofString "first") = some (.int (first : Int))) (hst : ρ (Str.ofString "steps") = some (.list (iints sts))) :
    ∃ ρ', S1 (LG prog w P mg mb A hs s n) ρ (some (Str.ofString "told", [])) (lawS 22) (.next ρ' (some (Str.ofString "told", (told first sts).map trip))) ∧ ∀ y, y ≠ Str.ofString "size" → y ≠ Str.ofString "columns" → ρ' y = ρ y := by
  have hsum := sum_le_mul sts 3 hs3
  obtain ⟨ρ', q1, q2⟩ := loop22 (prog := prog) (w := w) (P := P) (mg := mg) (mb := mb) (A := A) (hs := hs) (s := s) (n := n) hΓ hsl (fun x hx => by have := hs3 x hx; omega) (by omega) (List.range (first + sts.sum + 1)) ρ [] (by simp; omega) (fun i hi => by have := List.mem_range.mp hi; omega) hf hst
  refine ⟨ρ', ?_, q2⟩
  rw [List.nil_append] at q1
  have e : ((List.range (first + sts.sum + 1)).filter (tell first sts)).map (fun i => trip (tellRow first sts i)) = (told first sts).map trip := by unfold told; rw [List.map_map]; rfl
  rw [e] at q1
  have e3 : (((first : Int) + ((sts.sum : Nat) : Int) + 2) - 1).toNat = first + sts.sum + 1 := by omega
  refine S1.for_ hΓ (ds := (List.range (first + sts.sum + 1)).map fun (i : Nat) => .int ((1 : Int) + (i : Int))) (IT.cast (IT.range2 (m := 1) (n := ((first : Int) + ((sts.sum : Nat) : Int) + 2)) hΓ gb_range rfl EV.int rfl (EV.bin hΓ (EV.bin hΓ (EV.name hΓ hf) (EV.cast (EV.call hΓ (EV1.glob hΓ gb_sum rfl) .builtin (.cons (EV.name hΓ (hst.trans (by rw [iints_int]))) rfl .nil) (c_sum (k := 5)) hΓ.room (Nat.le_refl _) rfl) (show _ = PV.int ((sts.sum : Nat) : Int) by rw [sum_int])) B2.add_int) EV.int B2.add_int) rfl (by omega) (by omega) (by omega) (by omega)) (by unfold rng; rw [e3])) (own_fn (.inr rfl)) q1 fun _ => rfl

theorem EV.at2 {Γ : Fx} {ρ : Loc} {mu : Mu} {x : Str} {a b : PV} {p q r : Pos} {kk : Nat} (hΓ : Γ.Ok) (h : ρ x = some (.list [a, b])) : EV Γ ρ mu (.Subscript (.Name x p) (.Constant (.int 0) kk q) r) a := EV.sub hΓ (EV.name hΓ h) EV.int (GI.list (by decide) (by decide) rfl) fun _ _ => rfl
theorem EV.at2' {Γ : Fx} {ρ : Loc} {mu : Mu} {x : Str} {a b : PV} {p q r : Pos} {kk : Nat} (hΓ : Γ.Ok) (h : ρ x = some (.list [a, b])) : EV Γ ρ mu (.Subscript (.Name x p) (.Constant (.int 1) kk q) r) b := EV.sub hΓ (EV.name hΓ h) EV.int (GI.list (by decide) (by decide) rfl) fun _ _ => rfl
theorem law23 {WA WB : Wd} (hΓ : (LG prog w P mg mb A hs s n).Ok) (hl : ρ (Str.ofString "leads") = some (.list [WA.pv, WB.pv])) (ha : WA.Ok) (hb : WB.Ok) :
    S1 (LG prog w P mg mb A hs s n) ρ none (lawS 23) (.next (up ρ (Str.ofString "named") (.list ((newit WA WB).map trip))) none) :=
  S1.asg hΓ (EV.meth hΓ (EV.at2 hΓ hl) gm_newit (.fn fun h c => ⟨_, _, c.k _ _ (fd135.2 P), rfl⟩) (.cons (EV.at2' hΓ hl) rfl .nil) (c_newit (k := 6) ha hb (by decide)) (show 7 ≤ 12 by decide) (by decide) rfl) (own_fn (.inl rfl)) no_mu rfl
theorem law24 {l l' : List (Int × Int × Int)} (hΓ : (LG prog w P mg mb A hs s n).Ok) (h1 : ρ (Str.ofString "named") = some (.list (l.map trip))) (h2 : ρ (Str.ofString "told") = some (.list (l'.map trip))) (h : l = l') : S1 (LG prog w P mg mb A hs s n) ρ none (lawS 24) (.next ρ none) :=
  S1.ifs (b := false) (ET.cmp hΓ (EV.name hΓ h1) (EV.name hΓ h2) (C2.ne_trips h) rfl) (fun e => by cases e) fun _ => SX.nil
theorem law25 {T : List (Int × Int × Int)} {ah : Nat} (hΓ : (LG prog w P mg mb A hs s n).Ok) (h2 : ρ (Str.ofString "told") = some (.list (T.map trip))) (hT : T.length ≤ 100) (hle : ∀ r ∈ T, (r.2.1 - r.2.2 : Int) ≤ (ah : Int)) (hex : ah = 0 ∨ ∃ r ∈ T, r.2.1 - r.2.2 = (ah : Int)) :
    S1 (LG prog w P mg mb A hs s n) ρ none (lawS 25) (.next (up ρ (Str.ofString "ahead") (.int (ah : Int))) none) := by
  have k1 : CompOk (LG prog w P mg mb A hs s n) { kind := .function, names := [(Str.ofString ".0", .local), (Str.ofString "row", .local)], isGenerator := false, isCoroutine := false } [] (Str.ofString "row") := compok rfl rfl rfl ⟨rfl, rfl⟩ rfl trivial
  refine S1.asg hΓ (@EV.call _ _ _ hΓ _ _ _ _ _ _ (EV1.glob hΓ gb_max rfl) .builtin (.cons (@EV.cast _ _ _ _ _ _ (EV.bin hΓ (EV.list hΓ (.cons EV.int rfl .nil) (show (1 : Nat) ≤ sizeLine by decide)) (@EV.comp _ _ _ hΓ _ _ _ _ _ _ _ _ _ (T.map fun r => PV.int (r.2.1 - r.2.2)) k1 (IT.list hΓ (EV.name hΓ h2)) ?_ (fun _ => rfl) ?_) (B2.add_list ?_)) (show _ = PV.list (((0 : Int) :: T.map fun r => r.2.1 - r.2.2).map .int) from ?_)) rfl .nil) 5 (c_max_list (m := (ah : Int)) ?_ ?_) (show 5 ≤ 12 by decide) (by decide) he_name) (own_fn (.inl rfl)) no_mu rfl
  · exact CL.map T trip (fun r => PV.int (r.2.1 - r.2.2)) fun r hr C bs s' hΓ' => EV.bin hΓ' (EV.sub hΓ' (EV.name hΓ' rfl) EV.int (GI.tup (by decide) (by decide) rfl) fun _ _ => rfl) (EV.sub hΓ' (EV.name hΓ' rfl) EV.int (GI.tup (by decide) (by decide) rfl) fun _ _ => rfl) B2.sub_int
  · rw [List.length_map]; unfold sizeLine; omega
  · rw [List.length_map]; show 1 + T.length ≤ sizeLine; unfold sizeLine; omega
  · simp
  · rcases hex with h | ⟨r, hr, e⟩
    · rw [h]; exact List.mem_cons_self ..
    · rw [← e]; exact List.mem_cons_of_mem _ (List.mem_map.mpr ⟨r, hr, rfl⟩)
  · intro x hx
    rcases List.mem_cons.mp hx with rfl | hx
    · omega
    · obtain ⟨r, hr, rfl⟩ := List.mem_map.mp hx
      exact hle r hr
end
end Mine
end -- F18
section -- F19
set_option maxRecDepth 100000
namespace Mine
theorem Reps.of_get {G : View} : ∀ {ds : List PV} {vs : List Value}, ds.length = vs.length → (∀ (i : Nat) (d : PV) (v : Value), ds[i]? = some d → vs[i]? = some v → Rep G d v) → Reps G ds vs
  | [], [], _, _ => .nil
  | [], _ :: _, h, _ => by simp at h
  | _ :: _, [], h, _ => by simp at h
  | d :: ds, v :: vs, h, k => .cons (k 0 d v rfl rfl) (Reps.of_get (by simpa using h) fun i d' v' h1 h2 => k (i + 1) d' v' (by simpa using h1) (by simpa using h2))
section
variable {Γ : Fx} {ρ : Loc} {mu : Mu}
theorem EV.listrange (hΓ : Γ.Ok) {e1 e2 p q r pos m n} (hgl : GL Γ.C (Str.ofString "list") (.type "list")) (hkl : Γ.env.kindOf (Str.ofString "list") = some .globalImplicit) (hg : GL Γ.C (Str.ofString "range") (.type "range")) (hk : Γ.env.kindOf (Str.ofString "range") = some .globalImplicit)
    (h : EV Γ ρ mu e1 (.int m)) (hst : isStarred e1 = false) (h' : EV Γ ρ mu e2 (.int n)) (hst' : isStarred e2 = false) (h1 : -(2 ^ 62) ≤ m) (h2 : m < 2 ^ 62) (h3 : -(2 ^ 62) ≤ n) (h4 : n < 2 ^ 62) (hlen : (n - m).toNat ≤ 2 ^ 24) :
    EV Γ ρ mu (.Call (.Name (Str.ofString "list") p) [.Call (.Name (Str.ofString "range") q) [e1, e2] [] r] [] pos) (.list (rng m (n - m).toNat)) := fun a s E hs =>
  Call_Name rfl (wpAny_mono (EV1.glob hΓ hgl hkl (by decide) a s E hs) (fun f s1 h1' => by
    obtain ⟨k1, rfl⟩ := h1'
    have hs1 := hs.kept k1
    refine callWith_any (C := Γ.C) .type rfl (Calls.spliced_cons (Call_Name rfl (wpAny_mono (EV1.glob hΓ hg hk (by decide) a s1 E hs1) (fun f2 s2 h2' => ?_) fun _ _ e => e)))
    obtain ⟨k2, rfl⟩ := h2'
    have hs2 := hs1.kept k2
    have hv : EVs Γ ρ mu [e1, e2] [.int m, .int n] := ⟨h, hst, h', hst', trivial⟩
    refine callWith_any (C := Γ.C) .type hv.plain (hv.spliced a s2 E _ hs2 fun vs s3 k3 r3 => ⟨(hs2.kept k3).ctx hΓ, ?_⟩)
    have hs3 := hs2.kept k3
    cases r3 with
    | cons ra rb =>
    cases rb with
    | cons rc rd =>
    cases rd
    obtain ⟨ta, rfl⟩ := ra.int_inv
    obtain ⟨tb, rfl⟩ := rc.int_inv
    refine call_range_2 ?_
    have k4 : Kp s3 { s3 with heap := s3.heap.push { cls := .type "range", data := .fields #[.int m ta, .int n tb, .int 1 s3.toks] }, toks := s3.toks + 1 } := push_tok_kp s3 _ _
    have hs4 := hs3.kept k4
    refine Calls.spliced_nil ⟨hs4.ctx hΓ, ?_⟩
    refine wpAny_tk (call_list_range (a := m) (b := n) (c := 1) (n := (n - m).toNat) hΓ.handled (Heap.get?_push_size _ rfl) (PySem.small_one h1 h2 h3 h4) ?_ hlen fun h' tk acc' c' hk hget hitems htk => ?_)
    · unfold Builtin.Range.rangeSize; simp; omega
    · refine ⟨(((k1.trans k2).trans k3).trans k4).trans (Kp.of hk htk), .list (vw_some.mpr ⟨size_notin hs4.live, hget, rfl⟩) ?_⟩
      refine Reps.of_get (by have := hitems.1; unfold rng; rw [List.length_map, List.length_range]; exact this.symm.trans Array.length_toList.symm) fun i d v hd hv' => ?_
      rw [Array.getElem?_toList] at hv'
      obtain ⟨t', rfl⟩ := hitems.2 i v hv'
      unfold rng at hd
      rw [List.getElem?_map] at hd
      obtain ⟨j, hj, rfl⟩ := Option.map_eq_some_iff.mp hd
      have hji : j = i := by
        have := (List.getElem?_eq_some_iff.mp hj).2
        simpa using this.symm
      subst hji
      rw [Int.mul_one]
      exact .int) fun _ _ e => e)
end
section
variable {prog : Program} {w : World} {P : Params} {mg mb : Str → Option Value} {A : Around} {hs : List Addr} {s : Shared} {n : Nat} {ρ : Loc}
/-- texts[1] + ' ' * n, as a Whitespace -/
theorem EV.longer {A1 A2 : List Nat} {m : Nat} {e : Expr} {p1 p2 p3 p4 p5 p6 p7 p8 : Pos} {ka kb : Nat} (hΓ : (LG prog w P mg mb A hs s n).Ok) (h : ρ (Str.ofString "texts") = some (.list [.str (mkS (lead A1)), .str (mkS (lead A2))])) (hA2 : ∀ d ∈ A2, d ≤ 20) (l2 : A2.length ≤ 8) (he : EV (LG prog w P mg mb A hs s n) ρ Option.none e (.int (m : Int))) (hm : m ≤ 600) :
    EV (LG prog w P mg mb A hs s n) ρ Option.none (.Call (.Name (Str.ofString "Whitespace") p1) [.BinOp (.Subscript (.Name (Str.ofString "texts") p2) (.Constant (.int 1) ka p3) p4) .Add (.BinOp (.Constant (.str (Str.ofString " ")) kb p5) .Mult e p6) p7] [] p8) (wdL (lead A2 ++ List.replicate m 32)).pv := by
  have hl := lead_len A2 20 hA2
  refine EV.ws (P := P) (mg := mg) (mb := mb) hΓ rfl rfl rfl (EV.cast (EV.bin hΓ (EV.at2' hΓ h) (EV.cast (EV.bin hΓ EV.str he (B2.mul_str (by decide) (by omega))) (show _ = PV.str (mkS (List.replicate m 32)) by rw [reps_one _ 32 m rfl])) (B2.add_str ?_)) ?_) rfl ?_ (fun c hc => ?_) he_name
  · rw [mkS_length, mkS_length, List.length_replicate]; unfold sizeLine; omega
  · rw [mkS_app]
  · rw [List.length_append, List.length_replicate]; omega
  · rcases List.mem_append.mp hc with h | h
    · exact lead_chars _ h
    · exact .inl (List.eq_of_mem_replicate h)
theorem law26 {A1 A2 : List Nat} {ah : Nat} {WB : Wd} (hΓ : (LG prog w P mg mb A hs s n).Ok) (h : ρ (Str.ofString "texts") = some (.list [.str (mkS (lead A1)), .str (mkS (lead A2))])) (hA2 : ∀ d ∈ A2, d ≤ 20) (l2 : A2.length ≤ 8) (hl : ρ (Str.ofString "leads") = some (.list [(wdL (lead A1)).pv, WB.pv])) (ha : ρ (Str.ofString "ahead") = some (.int (ah : Int))) (hah : ah ≤ 500)
    (hW : (wdL (lead A1)).Ok) (hX : (wdL (lead A2 ++ List.replicate ah 32)).Ok) (hlt : lessW (wdL (lead A1)) (wdL (lead A2 ++ List.replicate ah 32)) = false) : S1 (LG prog w P mg mb A hs s n) ρ none (lawS 26) (.next ρ none) :=
  S1.ifs (b := false) (ET.cast (ET.cmp hΓ (EV.meth hΓ (EV.at2 hΓ hl) gm_less (.fn fun h c => ⟨_, _, c.k _ _ (fd142.2 P), rfl⟩) (.cons (EV.longer hΓ h hA2 l2 (EV.name hΓ ha) (by omega)) rfl .nil) (c_less (k := 6) hW hX (by decide)) (show 7 ≤ 12 by decide) (by decide) rfl) EV.bool C2.isnot_bool rfl) (by rw [hlt]; rfl)) (fun e => by cases e) fun _ => SX.nil
theorem law27 {A1 A2 : List Nat} {ah : Nat} (hΓ : (LG prog w P mg mb A hs s n).Ok) (h : ρ (Str.ofString "texts") = some (.list [.str (mkS (lead A1)), .str (mkS (lead A2))])) (hA2 : ∀ d ∈ A2, d ≤ 20) (l2 : A2.length ≤ 8) (ha : ρ (Str.ofString "ahead") = some (.int (ah : Int))) (hah : ah ≤ 500) :
    S1 (LG prog w P mg mb A hs s n) ρ none (lawS 27) (.next (up ρ (Str.ofString "longer") (wdL (lead A2 ++ List.replicate (ah + 1) 32)).pv) none) :=
  S1.asg hΓ (EV.longer (m := ah + 1) hΓ h hA2 l2 (EV.cast (EV.bin hΓ (EV.name hΓ ha) EV.int B2.add_int) rfl) (by omega)) (own_fn (.inl rfl)) no_mu rfl
theorem law28 {WA WB Y : Wd} (hΓ : (LG prog w P mg mb A hs s n).Ok) (hl : ρ (Str.ofString "leads") = some (.list [WA.pv, WB.pv])) (hY : ρ (Str.ofString "longer") = some Y.pv) (ok1 : WA.Ok) (ok2 : Y.Ok) (hlt : lessW WA Y = true) : S1 (LG prog w P mg mb A hs s n) ρ none (lawS 28) (.next ρ none) :=
  S1.ifs (b := false) (ET.cast (ET.cmp hΓ (EV.meth hΓ (EV.at2 hΓ hl) gm_less (.fn fun h c => ⟨_, _, c.k _ _ (fd142.2 P), rfl⟩) (.cons (EV.name hΓ hY) rfl .nil) (c_less (k := 6) ok1 ok2 (by decide)) (show 7 ≤ 12 by decide) (by decide) rfl) EV.bool C2.isnot_bool rfl) (by rw [hlt]; rfl)) (fun e => by cases e) fun _ => SX.nil
noncomputable def longestOf (first : Nat) (sts : List Nat) (ah : Nat) : Nat := if ah + 1 > first + sts.sum then ah + 1 else first + sts.sum
theorem law29 {first ah : Nat} {sts : List Nat} (hΓ : (LG prog w P mg mb A hs s n).Ok) (hf : ρ (Str.ofString "first") = some (.int (first : Int))) (hst : ρ (Str.ofString "steps") = some (.list (iints sts))) (ha : ρ (Str.ofString "ahead") = some (.int (ah : Int))) :
    S1 (LG prog w P mg mb A hs s n) ρ none (lawS 29) (.next (up ρ (Str.ofString "longest") (.int ((longestOf first sts ah : Nat) : Int))) none) := by
  refine S1.asg hΓ (EV.cast (EV.call hΓ (EV1.glob hΓ gb_max rfl) .builtin (.cons (EV.cast (EV.bin hΓ (EV.name hΓ hf) (EV.cast (EV.call hΓ (EV1.glob hΓ gb_sum rfl) .builtin (.cons (EV.name hΓ (hst.trans (by rw [iints_int]))) rfl .nil) (c_sum (k := 5)) hΓ.room (Nat.le_refl _) rfl) (show _ = PV.int ((sts.sum : Nat) : Int) by rw [sum_int])) B2.add_int) (show _ = PV.int ((first + sts.sum : Nat) : Int) from rfl)) rfl
    (.cons (EV.cast (EV.bin hΓ (EV.name hΓ ha) EV.int B2.add_int) (show _ = PV.int ((ah + 1 : Nat) : Int) from rfl)) rfl .nil)) (c_max2 (k := 5)) hΓ.room (Nat.le_refl _) rfl) ?_) (own_fn (.inl rfl)) no_mu rfl
  unfold longestOf
  by_cases h : ah + 1 > first + sts.sum
  · rw [if_pos h, if_pos (by omega)]
  · rw [if_neg h, if_neg (by omega)]
theorem law30 {WA WB Y : Wd} {lo : Nat} (hΓ : (LG prog w P mg mb A hs s n).Ok) (hl : ρ (Str.ofString "leads") = some (.list [WA.pv, WB.pv])) (hY : ρ (Str.ofString "longer") = some Y.pv) (ok1 : WA.Ok) (ok2 : Y.Ok) (hlo : ρ (Str.ofString "longest") = some (.int (lo : Int))) (hlo2 : lo ≤ 1000)
    (h : (newit WA Y).map (·.1) = (List.range (lo + 1)).map fun (i : Nat) => (1 : Int) + (i : Int)) : S1 (LG prog w P mg mb A hs s n) ρ none (lawS 30) (.next ρ none) := by
  have hlen : (newit WA Y).length = lo + 1 := by have := congrArg List.length h; simpa using this
  have k1 : CompOk (LG prog w P mg mb A hs s n) { kind := .function, names := [(Str.ofString ".0", .local), (Str.ofString "row", .local)], isGenerator := false, isCoroutine := false } [] (Str.ofString "row") := compok rfl rfl rfl ⟨rfl, rfl⟩ rfl trivial
  have e3 : (((lo : Int) + 2) - 1).toNat = lo + 1 := by omega
  refine S1.ifs (b := false) (@ET.cast _ _ _ _ _ _ (@ET.cmp _ _ _ hΓ _ _ _ _ _ _ _ (@EV.cast _ _ _ _ _ _ (@EV.comp _ _ _ hΓ _ _ _ _ _ _ _ _ _ ((newit WA Y).map fun r => PV.int r.1) k1 (IT.list hΓ (EV.meth hΓ (EV.at2 hΓ hl) gm_newit (.fn fun h c => ⟨_, _, c.k _ _ (fd135.2 P), rfl⟩) (.cons (EV.name hΓ hY) rfl .nil) (c_newit (k := 6) ok1 ok2 (by decide)) (show 7 ≤ 12 by decide) (by decide) rfl)) ?_ (fun _ => rfl) ?_)
      (show _ = PV.list (((newit WA Y).map (·.1)).map .int) by rw [List.map_map]; rfl))
    (@EV.cast _ _ _ _ _ _ (EV.listrange (m := 1) (n := (lo : Int) + 2) hΓ gb_list rfl gb_range rfl EV.int rfl (EV.bin hΓ (EV.name hΓ hlo) EV.int B2.add_int) rfl (by omega) (by omega) (by omega) (by omega) (by omega)) (show _ = PV.list (((List.range (lo + 1)).map fun (i : Nat) => (1 : Int) + (i : Int)).map .int) by rw [List.map_map]; unfold rng; rw [e3]; rfl)) C2.ne_ints rfl) ?_) (fun e => by cases e) fun _ => SX.nil
  · exact CL.map (newit WA Y) trip (fun r => PV.int r.1) fun r hr C bs s' hΓ' => EV.sub hΓ' (EV.name hΓ' rfl) EV.int (GI.tup (by decide) (by decide) rfl) fun _ _ => rfl
  · rw [List.length_map, hlen]; unfold sizeLine; omega
  · rw [h]; simp
end
end Mine
end -- F19
section -- F20
set_option maxRecDepth 100000
namespace Mine
theorem strI_len {n : Int} (h0 : 0 ≤ n) (h : n ≤ 100) : (strI n).length ≤ 102 := by
  have := len_str_of_int n
  unfold strI; omega
theorem sumLens {T : List (Int × Int × Int)} (hT : T.length ≤ 100) (h : ∀ r ∈ T, 0 ≤ r.1 ∧ r.1 ≤ 100) : ((T.map fun p => strI p.1).map fun x => x.length).sum + (T.map fun p => strI p.1).length * (Str.ofString ", ").length ≤ 20000 := by
  have e2 : (Str.ofString ", ").length = 2 := rfl
  have := sum_le_mul ((T.map fun p => strI p.1).map fun x => x.length) 102 fun x hx => by
    obtain ⟨y, hy, rfl⟩ := List.mem_map.mp hx
    obtain ⟨r, hr, rfl⟩ := List.mem_map.mp hy
    exact strI_len (h r hr).1 (h r hr).2
  rw [List.length_map, List.length_map] at this
  have h2 := Nat.mul_le_mul_right 102 hT
  rw [List.length_map, e2]
  omega
theorem told_join {T : List (Int × Int × Int)} (hT : T.length ≤ 100) (h : ∀ r ∈ T, 0 ≤ r.1 ∧ r.1 ≤ 100) : (Txt.join (Str.ofString ", ") (T.map fun p => strI p.1)).length ≤ 20000 := by
  have h1 := sumLens hT h
  show (Builtin.Str.glued _ _).length ≤ _
  rw [StrLaws.glued_eq_join]
  exact Nat.le_trans (StrLaws.join_length_le _ _) h1
section
variable {prog : Program} {w : World} {P : Params} {mg mb : Str → Option Value} {A : Around} {hs : List Addr} {s : Shared} {n : Nat} {ρ : Loc}
theorem fmtP_if (T : List (Int × Int × Int)) : Str.ofString "at tab size" ++ (if T.length > 1 then Str.ofString "s" else Str.ofString "") = fmtP T := by
  unfold fmtP; split
  · rfl
  · exact str_app_nil _
theorem log_small {m : Nat} (h : m ≤ 100) : m.log2 < 1920 := by
  by_cases h0 : m = 0
  · subst h0; decide
  · exact Nat.lt_of_lt_of_le ((Nat.log2_lt h0).mpr (show m < 2 ^ 7 by omega)) (by decide)
theorem law31 {T : List (Int × Int × Int)} (hΓ : (LG prog w P mg mb A hs s n).Ok) (h : ρ (Str.ofString "told") = some (.list (T.map trip))) (hT : T.length ≤ 100) (hr : ∀ r ∈ T, 0 ≤ r.1 ∧ r.1 ≤ 100) :
    S1 (LG prog w P mg mb A hs s n) ρ none (lawS 31) (.next (up ρ (Str.ofString "words") (.str (fmtW T))) none) := by
  have k1 : CompOk (LG prog w P mg mb A hs s n) { kind := .function, names := [(Str.ofString ".0", .local), (Str.ofString "row", .local), (Str.ofString "str", .globalImplicit)], isGenerator := false, isCoroutine := false } [] (Str.ofString "row") := compok rfl rfl rfl ⟨rfl, rfl⟩ rfl trivial
  have hp12 : (fmtP T).length ≤ 12 := by unfold fmtP; split <;> decide
  refine @S1.asg _ _ _ hΓ _ _ _ _ _ (@EV.cast _ _ _ _ _ _ (@EV.bin _ _ _ hΓ _ _ _ _ _ _ _ (@EV.cast _ _ _ _ _ _ (@EV.bin _ _ _ hΓ _ _ _ _ _ _ _ (@EV.cast _ _ _ _ _ _ (@EV.bin _ _ _ hΓ _ _ _ _ _ _ _ EV.str (@EV.ifexp _ _ _ _ _ _ _ _ (.str (if T.length > 1 then Str.ofString "s" else Str.ofString "")) (ET.cmp hΓ (EV.call hΓ (EV1.glob hΓ gb_len rfl) .builtin (.cons (EV.name hΓ h) rfl .nil) (c_len_list (k := 5) (by rw [List.length_map]; omega)) hΓ.room (Nat.le_refl _) rfl) EV.int C2.gt_int rfl)
      (fun hb => EV.cast EV.str (by have hb := of_decide_eq_true hb; rw [List.length_map] at hb; rw [if_pos (by omega)])) (fun hb => EV.cast EV.str (by have hb := of_decide_eq_false hb; rw [List.length_map] at hb; rw [if_neg (by omega)]))) (B2.add_str ?_)) (show _ = PV.str (fmtP T) by rw [fmtP_if])) EV.str (B2.add_str ?_)) (show _ = PV.str (fmtP T ++ Str.ofString " ") from rfl))
    (@EV.joinc _ _ _ hΓ _ _ _ _ _ _ _ _ _ _ _ _ _ (T.map fun p => strI p.1) k1 (IT.list hΓ (EV.name hΓ h)) ?_ (fun _ => rfl) ?_ ?_ rfl) (B2.add_str (x := fmtP T ++ Str.ofString " ") (y := Txt.join (Str.ofString ", ") (T.map fun p => strI p.1)) ?_)) (show PV.str (fmtP T ++ Str.ofString " " ++ Txt.join (Str.ofString ", ") (T.map fun p => strI p.1)) = PV.str (fmtW T) by unfold fmtW; rfl)) (own_fn (.inl rfl)) no_mu rfl
  · split <;> decide
  · show (fmtP T).length + 1 ≤ sizeLine; unfold sizeLine; omega
  · rw [List.map_map]
    exact CL.map T trip _ fun r hr' C bs s' hΓ' => EV.call hΓ' (EV1.glob hΓ' gb_str rfl) .type (.cons (EV.sub hΓ' (EV.name hΓ' rfl) EV.int (GI.tup (by decide) (by decide) rfl) fun _ _ => rfl) rfl .nil) (c_str (k := 5) (log_small (by have := hr r hr'; omega))) (show 5 ≤ 12 by decide) (by decide) rfl
  · rw [List.length_map]; unfold sizeLine; omega
  · have := sumLens hT hr; omega
  · have := told_join hT hr
    rw [Str.length_append]
    show (fmtP T).length + 1 + _ ≤ sizeLine
    unfold sizeLine; omega
end
end Mine
end -- F20
section -- F21
set_option maxRecDepth 100000
namespace Mine
theorem mem_allS : ∀ (n : Nat) (l : List Nat), l.length = n → (∀ x ∈ l, 1 ≤ x ∧ x ≤ 3) → l ∈ allS n
  | 0, l, h, _ => by cases l with | nil => exact List.mem_cons_self .. | cons _ _ => simp at h
  | n + 1, [], h, _ => by simp at h
  | n + 1, x :: l, h, k => by
    have hl := mem_allS n l (by simpa using h) fun y hy => k y (List.mem_cons_of_mem _ hy)
    obtain ⟨h1, h3⟩ := k x (List.mem_cons_self ..)
    unfold allS
    refine List.mem_flatMap.mpr ⟨l, hl, ?_⟩
    have : x = 1 ∨ x = 2 ∨ x = 3 := by omega
    rcases this with rfl | rfl | rfl <;> simp
theorem good_all {first : Nat} {sts : List Nat} (h1 : 1 ≤ first) (h3 : first ≤ 3) (l2 : 2 ≤ sts.length) (l4 : sts.length ≤ 4) (hs : ∀ x ∈ sts, 1 ≤ x ∧ x ≤ 3) : good first sts = true := by
  have hm := mem_allS sts.length sts rfl hs
  have hf : first = 1 ∨ first = 2 ∨ first = 3 := by omega
  have hl : sts.length = 2 ∨ sts.length = 3 ∨ sts.length = 4 := by omega
  rcases hl with e | e | e
  · rw [e] at hm
    rcases hf with rfl | rfl | rfl
    · exact List.all_eq_true.mp good2_1 sts hm
    · exact List.all_eq_true.mp good2_2 sts hm
    · exact List.all_eq_true.mp good2_3 sts hm
  · rw [e] at hm
    rcases hf with rfl | rfl | rfl
    · exact List.all_eq_true.mp good3_1 sts hm
    · exact List.all_eq_true.mp good3_2 sts hm
    · exact List.all_eq_true.mp good3_3 sts hm
  · rw [e] at hm
    rcases hf with rfl | rfl | rfl
    · exact List.all_eq_true.mp good4_1 sts hm
    · exact List.all_eq_true.mp good4_2 sts hm
    · exact List.all_eq_true.mp good4_3 sts hm
/-- what was decided -/
structure GoodOk (first : Nat) (sts A B : List Nat) (T : List (Int × Int × Int)) (ah : Nat) : Prop where
  sz : sz2 first sts = (A, B)
  la : LeadOk first sts A
  lb : LeadOk first sts B
  pow : ∀ p < sts.length + 2, 2 * (pw A p - pw B p) = twice first sts p
  e1 : eqW (wdL (lead A)) (wdL (lead A.reverse)) = true
  e2 : eqW (wdL (lead A)) (wdL (lead B.reverse)) = false
  e3 : eqW (wdL (lead B)) (wdL (lead A.reverse)) = false
  e4 : eqW (wdL (lead B)) (wdL (lead B.reverse)) = true
  nw : newit (wdL (lead A)) (wdL (lead B)) = T
  lx : lessW (wdL (lead A)) (wdL (lead B ++ List.replicate ah 32)) = false
  ly : lessW (wdL (lead A)) (wdL (lead B ++ List.replicate (ah + 1) 32)) = true
  ny : (newit (wdL (lead A)) (wdL (lead B ++ List.replicate (ah + 1) 32))).map (·.1) = (List.range (longestOf first sts ah + 1)).map fun (i : Nat) => (1 : Int) + (i : Int)
  okx : (wdL (lead B ++ List.replicate ah 32)).Ok
  oky : (wdL (lead B ++ List.replicate (ah + 1) 32)).Ok
  ahl : ah ≤ 500
  t1 : ∀ r ∈ T, 0 ≤ r.1 ∧ r.1 ≤ 100
  tl : T.length ≤ 100
  tle : ∀ r ∈ T, (r.2.1 - r.2.2 : Int) ≤ (ah : Int)
  tex : ah = 0 ∨ ∃ r ∈ T, r.2.1 - r.2.2 = (ah : Int)
theorem goodOk_of {first : Nat} {sts : List Nat} (h : good first sts = true) : GoodOk first sts (rowsOf first sts 0) (rowsOf first sts 1) (told first sts) (aheadOf (told first sts)) := by
  unfold good at h
  simp only [← told_eq, wdF_eq, List.replicate_zero, List.append_nil, ← lessF_eq, ← newitF_eq] at h
  simp only [Bool.and_eq_true, Bool.or_eq_true, decide_eq_true_eq, beq_iff_eq, List.all_eq_true, List.any_eq_true, List.mem_range] at h
  obtain ⟨⟨⟨⟨⟨⟨⟨⟨⟨⟨⟨⟨⟨⟨⟨⟨⟨⟨⟨⟨h1, h2⟩, h3⟩, h4⟩, h5⟩, h6⟩, h7⟩, h8⟩, h9⟩, h10⟩, h11⟩, h12⟩, h13⟩, h14⟩, h15⟩, h16⟩, h17⟩, h18⟩, h19⟩, h20⟩, h21⟩ := h
  exact ⟨h1, leadOk_of h2, leadOk_of h3, h4, h5, h6, h7, h8, h9, h10, h11, h12, okW_ok h13, okW_ok h14, h17, h18, h19, h20, h21⟩
end Mine
end -- F21
section -- F22
set_option maxRecDepth 100000
namespace Mine
noncomputable def restOf : List Stmt → Nat → List Stmt
  | l, 0 => l
  | [], _ + 1 => []
  | _ :: r, n + 1 => restOf r n
noncomputable def rest (i : Nat) : List Stmt := restOf (bodyOf fd213.1.body) i
section
variable {prog : Program} {w : World} {P : Params} {mg mb : Str → Option Value} {A : Around} {hs : List Addr} {s : Shared} {n : Nat} {ρ : Loc}
theorem law32 {T : List (Int × Int × Int)} {a : Addr} {s₁ : Shared} {E : Value → Shared → Prop} {Q : Flow → Shared → Prop} {Pt bm : Addr} {ob : Obj} (hΓ : (LG prog w P mg mb A hs s n).Ok) (hst : St (LG prog w P mg mb A hs s n) ρ none a s₁) (h1 : ρ (Str.ofString "named") = some (.list (T.map trip))) (h2 : ρ (Str.ofString "words") = some (.str (fmtW T)))
    (hT : T.length ≤ 100) (hr : ∀ r ∈ T, 0 ≤ r.1 ∧ r.1 ≤ 100) (hc : s.heap.IsCode 162 Pt #[]) (ht : s.heap.TableAt 162 Pt #[]) (hPs : Pt ≠ cStatics) (hg : AllBare s.gens) (hM : BMod s.heap mainGlobals mg bm ob)
    (hQ : ∀ ps' s', (∀ b o, (regrown s.heap Pt ps').get? b = some o → s'.heap.get? b = some o) → s'.heap.TableAt 162 Pt ps' → AllBare s'.gens → s'.os = s.os → Q (.ret (.bool true)) s') :
    wpAny (LG prog w P mg mb A hs s n).M (LG prog w P mg mb A hs s n).A (exec (lawS 32) (LG prog w P mg mb A hs s n).env) Q E s₁ := by
  refine wpAny_Return_some (wpAny_Compare1 ?_ rfl)
  show wpAny _ _ (do callWith _ (← eval (.Name (Str.ofString "format_witnesses") _) _) [] (backTo _ (starEach _ _)) (backToKw _ (keywordEach [] _))) _ _ _
  refine wpAny_bind (glob_at (C := Cx P mg mb) gl163 (hst.ctx hΓ) hΓ.kind hΓ.glob hΓ.bns rfl ?_)
  refine callWith_any (C := Cx P mg mb) (.fn fun h c => ⟨_, _, c.k _ _ (fd163.2 P), rfl⟩) ?_ (EVs.spliced (Γ := LG prog w P mg mb A hs s n) (.cons (EV.name hΓ h1) rfl .nil) a s₁ _ _ hst fun vs s₂ k₂ r₂ => ?_)
  · rfl
  have hs₂ := hst.kept k₂
  refine ⟨hs₂.ctx hΓ, ?_⟩
  cases r₂ with
  | cons ra rb =>
  cases rb
  have hc₂ := hc.keeps hs₂.keep
  have ht₂ := ht.keeps hs₂.keep
  have hos₂ : s₂.os = s.os := by obtain ⟨_, _, e⟩ := hs₂.same; rw [e]; rfl
  refine fmt_ok (k := 11) (P := P) (mg := mg) (mb := mb) (Pt := Pt) (bm := bm) (ob := ob) hΓ.rm (by decide) (hs₂.ctx hΓ) hs₂.live ra hc₂ ht₂ hPs (by obtain ⟨_, _, e⟩ := hs₂.same; rw [e]; exact hg) (hM.keeps hs₂.keep) (by omega) (fun p hp => log_small (by have := hr p hp; omega)) (joinOk_of (by have := sumLens hT hr; omega)) (by have := told_join hT hr; unfold sizeLine; omega) fun c' s₃ t₃ hk₃ hg₃ hos₃ => ?_
  generalize hps : (#[] ++ #[rawInt 94, rawInt 13, Value.ref c'] : Array Value) = ps' at hk₃
  have hPself : ∀ h : Heap, h.get? Pt = some { cls := .none, data := .fields #[] } → (regrown h Pt ps').get? Pt = some { cls := .none, data := .fields ps' } := fun h e => Heap.get?_update_self _ e rfl
  have hB : Based s.heap s.heap 162 Pt #[] := Based.start hc ht hPs
  have k₂₃ : ∀ b o, b ≠ Pt → s₂.heap.get? b = some o → s₃.heap.get? b = some o := fun b o hb e => hk₃ b o ((Heap.get?_update_other _ _ (Ne.symm hb)).trans e)
  have kR : ∀ b o, (regrown s.heap Pt ps').get? b = some o → s₃.heap.get? b = some o := fun b o e => by
    by_cases hb : b = Pt
    · subst hb; rw [hPself _ ht.2] at e; cases e; exact hk₃ _ _ (hPself _ ht₂.2)
    · rw [show (regrown s.heap Pt ps').get? b = s.heap.get? b from Heap.get?_update_other _ _ (Ne.symm hb)] at e
      exact k₂₃ b o hb (hs₂.keep b o e)
  have hΓ' : ((LG prog w P mg mb A hs s n).shift { s₃ with heap := regrown s.heap Pt ps' } (Cy mg mb)).Ok := Fx.shift_ok hΓ (Cy.regrown hB (Cx.cy (P := P) hΓ.ctx)) (fun _ _ c k => c.mono k) (by
    show (regrown s.heap Pt ps').get? s.heap.objs.size = none
    exact Heap.get?_none_of_le (by rw [show (regrown s.heap Pt ps').objs.size = s.heap.objs.size from (Heap.SameBut.update _ Pt _).1]; exact Nat.le_refl _))
  have hs₃ := hs₂.shift (s' := s₃) (s₀ := { s₃ with heap := regrown s.heap Pt ps' }) (C := Cy mg mb) ht₂.2 ⟨_, hk₃ _ _ (hPself _ ht₂.2)⟩ k₂₃ kR ⟨s₃.heap, s₃.toks, rfl⟩ (Nat.le_refl _)
  refine wpAny_mono (EV.name hΓ' h2 a s₃ _ hs₃) (fun v₂ s₄ h₄ => ?_) fun _ _ e => e
  obtain ⟨k₄, r₄⟩ := h₄
  refine wpAny_mono (C2.eq_str (x := fmtW T) (y := fmtW T) _ 12 [] _ _ _ _ hΓ'.rm (fun b hb => by cases hb) .str (by obtain ⟨t, rfl⟩ := r₄.str_inv; exact .str)) (fun v s₅ h₅ => ?_) fun _ _ e => e
  obtain ⟨k₅, rfl⟩ := h₅
  rw [show (fmtW T == fmtW T) = true by simp]
  have kk := k₄.trans k₅
  obtain ⟨h₅, t₅, e₅⟩ := kk.same
  refine hQ ps' s₅ (fun b o e => kk.get b o (kR b o e)) ?_ ?_ ?_
  · have htR : (regrown s.heap Pt ps').TableAt 162 Pt ps' := by
      obtain ⟨⟨o, vs, e, r⟩, _⟩ := ht
      exact ⟨⟨o, vs, (Heap.get?_update_other _ _ (fun q => by rw [← q] at e; rename_i hx; rw [hx] at e; cases e; cases r.1)).trans e, r⟩, hPself _ (by assumption)⟩
    exact htR.keeps fun b o e => kk.get b o (kR b o e)
  · rw [e₅]; exact hg₃
  · rw [e₅]; exact hos₃.trans hos₂
end
end Mine
end -- F22
section -- F23
set_option maxRecDepth 100000
namespace Mine
section
variable {prog : Program} {w : World} {P : Params} {mg mb : Str → Option Value} {A : Around} {hs : List Addr} {s : Shared} {n : Nat} {ρ : Loc}
/-- from told = [] on -/
theorem stageD {first ah : Nat} {sts A1 A2 : List Nat} {a : Addr} {s₁ : Shared} {E : Value → Shared → Prop} {Q : Flow → Shared → Prop} {Pt bm : Addr} {ob : Obj} (hΓ : (LG prog w P mg mb A hs s n).Ok) (hst : St (LG prog w P mg mb A hs s n) ρ none a s₁)
    (G : GoodOk first sts A1 A2 (told first sts) ah) (hf3 : first ≤ 3) (hsl : sts.length ≤ 4) (hs3 : ∀ x ∈ sts, x ≤ 3)
    (f1 : ρ (Str.ofString "first") = some (.int (first : Int))) (f2 : ρ (Str.ofString "steps") = some (.list (iints sts))) (f3 : ρ (Str.ofString "texts") = some (.list [.str (mkS (lead A1)), .str (mkS (lead A2))])) (f4 : ρ (Str.ofString "leads") = some (.list [(wdL (lead A1)).pv, (wdL (lead A2)).pv]))
    (hc : s.heap.IsCode 162 Pt #[]) (ht : s.heap.TableAt 162 Pt #[]) (hPs : Pt ≠ cStatics) (hg : AllBare s.gens) (hM : BMod s.heap mainGlobals mg bm ob)
    (hQ : ∀ ps' s', (∀ b o, (regrown s.heap Pt ps').get? b = some o → s'.heap.get? b = some o) → s'.heap.TableAt 162 Pt ps' → AllBare s'.gens → s'.os = s.os → Q (.ret (.bool true)) s') :
    wpAny (LG prog w P mg mb A hs s n).M (LG prog w P mg mb A hs s n).A (execs (rest 21) (LG prog w P mg mb A hs s n).env) Q E s₁ := by
  have hA2 : ∀ d ∈ A2, d ≤ 20 := fun d hd => (G.lb.s1 d hd).2
  refine wpAny_execs_cons (S1.at (law21 hΓ) hst fun a₁ s₂ h₂ _ => ?_)
  have d1 : ∀ (y : Str) (d : PV), y ≠ Str.ofString "told" → ρ y = some d → (del ρ (Str.ofString "told")) y = some d := fun y d hy h => by rw [del_ne _ hy]; exact h
  obtain ⟨ρ₂, q1, q2⟩ := law22 (ρ := del ρ (Str.ofString "told")) hΓ (show sts.length ≤ 10 by omega) hs3 hf3 (d1 _ _ (by decide) f1) (d1 _ _ (by decide) f2)
  refine wpAny_execs_cons (S1.at q1 h₂ fun a₂ s₃ h₃ _ => ?_)
  have h₃ := h₃.freeze
  have d2 : ∀ (y : Str) (d : PV), y ≠ Str.ofString "told" → y ≠ Str.ofString "size" → y ≠ Str.ofString "columns" → ρ y = some d → (up ρ₂ (Str.ofString "told") (.list ((told first sts).map trip))) y = some d := fun y d y1 y2 y3 h => by
    rw [up_ne _ _ y1, q2 y y2 y3, del_ne _ y1]; exact h
  have g1 := d2 _ _ (by decide) (by decide) (by decide) f1
  have g2 := d2 _ _ (by decide) (by decide) (by decide) f2
  have g3 := d2 _ _ (by decide) (by decide) (by decide) f3
  have g4 := d2 _ _ (by decide) (by decide) (by decide) f4
  have g5 : (up ρ₂ (Str.ofString "told") (.list ((told first sts).map trip))) (Str.ofString "told") = some (.list ((told first sts).map trip)) := up_same _ _ _
  generalize (up ρ₂ (Str.ofString "told") (.list ((told first sts).map trip))) = ρ₃ at h₃ g1 g2 g3 g4 g5
  refine wpAny_execs_cons (S1.at (law23 hΓ g4 G.la.ok G.lb.ok) h₃ fun a₃ s₄ h₄ _ => ?_)
  refine wpAny_execs_cons (S1.at (law24 (l := newit (wdL (lead A1)) (wdL (lead A2))) (l' := told first sts) hΓ (up_same _ _ _) (by rw [up_ne _ _ (by decide)]; exact g5) G.nw) h₄ fun a₄ s₅ h₅ _ => ?_)
  refine wpAny_execs_cons (S1.at (law25 hΓ (by rw [up_ne _ _ (by decide)]; exact g5) G.tl G.tle G.tex) h₅ fun a₅ s₆ h₆ _ => ?_)
  refine wpAny_execs_cons (S1.at (law26 (A1 := A1) (A2 := A2) (WB := wdL (lead A2)) hΓ (by rw [up_ne _ _ (by decide), up_ne _ _ (by decide)]; exact g3) hA2 G.lb.l8 (by rw [up_ne _ _ (by decide), up_ne _ _ (by decide)]; exact g4) (up_same _ _ _) G.ahl G.la.ok G.okx G.lx) h₆ fun a₆ s₇ h₇ _ => ?_)
  refine wpAny_execs_cons (S1.at (law27 (A1 := A1) (A2 := A2) hΓ (by rw [up_ne _ _ (by decide), up_ne _ _ (by decide)]; exact g3) hA2 G.lb.l8 (up_same _ _ _) G.ahl) h₇ fun a₇ s₈ h₈ _ => ?_)
  refine wpAny_execs_cons (S1.at (law28 (WA := wdL (lead A1)) (WB := wdL (lead A2)) hΓ (by rw [up_ne _ _ (by decide), up_ne _ _ (by decide), up_ne _ _ (by decide)]; exact g4) (up_same _ _ _) G.la.ok G.oky G.ly) h₈ fun a₈ s₉ h₉ _ => ?_)
  refine wpAny_execs_cons (S1.at (law29 (first := first) (ah := ah) (sts := sts) hΓ (by rw [up_ne _ _ (by decide), up_ne _ _ (by decide), up_ne _ _ (by decide)]; exact g1) (by rw [up_ne _ _ (by decide), up_ne _ _ (by decide), up_ne _ _ (by decide)]; exact g2) (by rw [up_ne _ _ (by decide)]; exact up_same _ _ _)) h₉ fun a₉ s₁₀ h₁₀ _ => ?_)
  have hlo : longestOf first sts ah ≤ 1000 := by
    have := sum_le_mul sts 3 hs3
    have := G.ahl
    unfold longestOf; split <;> omega
  refine wpAny_execs_cons (S1.at (law30 (WA := wdL (lead A1)) (WB := wdL (lead A2)) (Y := wdL (lead A2 ++ List.replicate (ah + 1) 32)) hΓ (by rw [up_ne _ _ (by decide), up_ne _ _ (by decide), up_ne _ _ (by decide), up_ne _ _ (by decide)]; exact g4) (by rw [up_ne _ _ (by decide)]; exact up_same _ _ _) G.la.ok G.oky (up_same _ _ _) hlo G.ny) h₁₀ fun a₁₀ s₁₁ h₁₁ _ => ?_)
  refine wpAny_execs_cons (S1.at (law31 (T := told first sts) hΓ (by rw [up_ne _ _ (by decide), up_ne _ _ (by decide), up_ne _ _ (by decide), up_ne _ _ (by decide)]; exact g5) G.tl G.t1) h₁₁ fun a₁₁ s₁₂ h₁₂ _ => ?_)
  refine wpAny_execs_cons (law32 (T := told first sts) hΓ h₁₂ (by rw [up_ne _ _ (by decide), up_ne _ _ (by decide), up_ne _ _ (by decide), up_ne _ _ (by decide)]; rw [← G.nw]; exact up_same _ _ _) (up_same _ _ _) G.tl G.t1 hc ht hPs hg hM fun ps' s' x1 x2 x3 x4 => hQ ps' s' x1 x2 x3 x4)
end
end Mine
end -- F23
section -- F24
set_option maxRecDepth 100000
namespace Mine
section
variable {prog : Program} {w : World} {P : Params} {mg mb : Str → Option Value} {A : Around} {hs : List Addr} {s : Shared} {n : Nat} {ρ : Loc}
theorem tabs8 {sts : List Nat} (h : sts.length ≤ 4) : tabsOf sts ≤ 8 := by
  unfold tabsOf
  exact Nat.le_trans (Nat.pow_le_pow_right (by decide) (show sts.length - 1 ≤ 3 by omega)) (by decide)
/-- from texts = .. on -/
theorem stageC {first many ah : Nat} {sts A1 A2 : List Nat} {a : Addr} {s₁ : Shared} {E : Value → Shared → Prop} {Q : Flow → Shared → Prop} {Pt bm : Addr} {ob : Obj} (hΓ : (LG prog w P mg mb A hs s n).Ok) (hn : 1 ≤ n) (hst : St (LG prog w P mg mb A hs s n) ρ none a s₁)
    (G : GoodOk first sts A1 A2 (told first sts) ah) (hf3 : first ≤ 3) (hsm : sts.length = many) (h2 : 2 ≤ many) (h4 : many ≤ 4) (hs3 : ∀ x ∈ sts, x ≤ 3)
    (f1 : ρ (Str.ofString "first") = some (.int (first : Int))) (f2 : ρ (Str.ofString "steps") = some (.list (iints sts))) (f0 : ρ (Str.ofString "many") = some (.int (many : Int)))
    (f3 : ρ (Str.ofString "pages") = some (.list [.str (mkS (txt (crows A1))), .str (mkS (txt (crows A2)))])) (f4 : ρ (Str.ofString "rows") = some (.list [.list (iints A1), .list (iints A2)]))
    (hc : s.heap.IsCode 162 Pt #[]) (ht : s.heap.TableAt 162 Pt #[]) (hPs : Pt ≠ cStatics) (hg : AllBare s.gens) (hM : BMod s.heap mainGlobals mg bm ob)
    (hQ : ∀ ps' s', (∀ b o, (regrown s.heap Pt ps').get? b = some o → s'.heap.get? b = some o) → s'.heap.TableAt 162 Pt ps' → AllBare s'.gens → s'.os = s.os → Q (.ret (.bool true)) s') :
    wpAny (LG prog w P mg mb A hs s n).M (LG prog w P mg mb A hs s n).A (execs (rest 13) (LG prog w P mg mb A hs s n).env) Q E s₁ := by
  have hA1 : ∀ d ∈ A1, d ≤ 20 := fun d hd => (G.la.s1 d hd).2
  have hA2 : ∀ d ∈ A2, d ≤ 20 := fun d hd => (G.lb.s1 d hd).2
  have ht8 : tabsOf sts ≤ 8 := tabs8 (by omega)
  refine wpAny_execs_cons (S1.at (law13 hΓ hn (fun d hd => Nat.le_trans (hA1 d hd) (by decide)) (fun d hd => Nat.le_trans (hA2 d hd) (by decide)) (Nat.le_trans G.la.l8 (by decide)) (Nat.le_trans G.lb.l8 (by decide)) f3) hst fun a₁ s₂ h₂ _ => ?_)
  refine wpAny_execs_cons (S1.at (law14 hΓ hA1 hA2 G.la.l8 G.lb.l8 (up_same _ _ _)) h₂ fun a₂ s₃ h₃ _ => ?_)
  refine wpAny_execs_cons (S1.at (law15 (many := many) (sts := sts) hΓ (by rw [up_ne _ _ (by decide), up_ne _ _ (by decide)]; exact f0) hsm h2 h4) h₃ fun a₃ s₄ h₄ _ => ?_)
  refine wpAny_execs_cons (S1.at (law16 (first := first) (sts := sts) hΓ (by rw [up_ne _ _ (by decide), up_ne _ _ (by decide), up_ne _ _ (by decide)]; exact f1) (by rw [up_ne _ _ (by decide), up_ne _ _ (by decide), up_ne _ _ (by decide)]; exact f2) (up_same _ _ _) ht8) h₄ fun a₄ s₅ h₅ _ => ?_)
  refine wpAny_execs_cons (S1.at (law17 (sts := sts) hΓ (by rw [up_ne _ _ (by decide)]; exact up_same _ _ _) ht8) h₅ fun a₅ s₆ h₆ _ => ?_)
  refine wpAny_execs_cons (S1.at (law18 (first := first) (sts := sts) (A1 := A1) (A2 := A2) G.la G.lb hΓ (by rw [up_ne _ _ (by decide), up_ne _ _ (by decide), up_ne _ _ (by decide)]; exact up_same _ _ _) (by rw [up_ne _ _ (by decide), up_ne _ _ (by decide), up_ne _ _ (by decide), up_ne _ _ (by decide), up_ne _ _ (by decide)]; exact f4)
    (up_same _ _ _) (by rw [up_ne _ _ (by decide)]; exact up_same _ _ _) (by rw [up_ne _ _ (by decide), up_ne _ _ (by decide)]; exact up_same _ _ _) ht8) h₆ fun a₆ s₇ h₇ _ => ?_)
  have keep18 : ∀ {ρ : Loc} {y : Str} {d : PV}, y ≠ Str.ofString "lead" → y ≠ Str.ofString "sizes" → y ≠ Str.ofString "edge" → ρ y = some d → (row18 (row18 ρ A1) A2) y = some d := fun y1 y2 y3 h => by
    unfold row18; rw [up_ne _ _ y3, up_ne _ _ y2, up_ne _ _ y1, up_ne _ _ y3, up_ne _ _ y2, up_ne _ _ y1]; exact h
  refine wpAny_execs_cons (S1.at (law19 (A1 := A1) (A2 := A2) hΓ hA1 hA2 G.la.l8 G.lb.l8 (keep18 (by decide) (by decide) (by decide) (by rw [up_ne _ _ (by decide), up_ne _ _ (by decide), up_ne _ _ (by decide), up_ne _ _ (by decide), up_ne _ _ (by decide)]; exact f4))) h₇ fun a₇ s₈ h₈ _ => ?_)
  refine wpAny_execs_cons (S1.at (law20 (WA := wdL (lead A1)) (WB := wdL (lead A2)) (TA := wdL (lead A1.reverse)) (TB := wdL (lead A2.reverse)) hΓ (by rw [up_ne _ _ (by decide)]; exact keep18 (by decide) (by decide) (by decide) (by rw [up_ne _ _ (by decide), up_ne _ _ (by decide), up_ne _ _ (by decide)]; exact up_same _ _ _)) (up_same _ _ _) G.e1 G.e2 G.e3 G.e4) h₈ fun a₈ s₉ h₉ _ => ?_)
  have k : ∀ {ρ : Loc} {y : Str} {d e : PV}, y ≠ Str.ofString "lead" → y ≠ Str.ofString "sizes" → y ≠ Str.ofString "edge" → y ≠ Str.ofString "turned" → y ≠ Str.ofString "this" → y ≠ Str.ofString "that" → ρ y = some d → (row20 (row20 (up (row18 (row18 ρ A1) A2) (Str.ofString "turned") e) 0) 1) y = some d := fun y1 y2 y3 y4 y5 y6 h => by
    rw [row20_keep y5 y6, row20_keep y5 y6, up_ne _ _ y4]; exact keep18 y1 y2 y3 h
  refine stageD (first := first) (ah := ah) (sts := sts) (A1 := A1) (A2 := A2) hΓ h₉ G hf3 (by omega) hs3 (k (by decide) (by decide) (by decide) (by decide) (by decide) (by decide) ?_) (k (by decide) (by decide) (by decide) (by decide) (by decide) (by decide) ?_) (k (by decide) (by decide) (by decide) (by decide) (by decide) (by decide) ?_) (k (by decide) (by decide) (by decide) (by decide) (by decide) (by decide) ?_) hc ht hPs hg hM hQ
  · rw [up_ne _ _ (by decide), up_ne _ _ (by decide), up_ne _ _ (by decide), up_ne _ _ (by decide), up_ne _ _ (by decide)]; exact f1
  · rw [up_ne _ _ (by decide), up_ne _ _ (by decide), up_ne _ _ (by decide), up_ne _ _ (by decide), up_ne _ _ (by decide)]; exact f2
  · rw [up_ne _ _ (by decide), up_ne _ _ (by decide), up_ne _ _ (by decide), up_ne _ _ (by decide)]; exact up_same _ _ _
  · rw [up_ne _ _ (by decide), up_ne _ _ (by decide), up_ne _ _ (by decide)]; exact up_same _ _ _
end
end Mine
end -- F24
section -- F25
set_option maxRecDepth 100000
namespace Mine
section
variable {prog : Program} {w : World} {P : Params} {mg mb : Str → Option Value} {A : Around} {hs : List Addr} {s : Shared} {n : Nat} {ρ : Loc}
/-- from one = .. on -/
theorem stageB {first many ah t h0 : Nat} {sts A1 A2 hr : List Nat} {a : Addr} {s₁ : Shared} {E : Value → Shared → Prop} {Q : Flow → Shared → Prop} {Pt bm : Addr} {ob : Obj} (hΓ : (LG prog w P mg mb A hs s (t + 3)).Ok) (ht0 : 1 ≤ t) (hfr : A.frames = some []) (hst : St (LG prog w P mg mb A hs s (t + 3)) ρ none a s₁)
    (G : GoodOk first sts A1 A2 (told first sts) ah) (eA : A1 = rowsOf first sts 0) (eB : A2 = rowsOf first sts 1) (hf1 : 1 ≤ first) (hf3 : first ≤ 3) (hsm : sts.length = many) (h2 : 2 ≤ many) (h4 : many ≤ 4) (hs3 : ∀ x ∈ sts, 1 ≤ x ∧ x ≤ 3) (hrl : hr.length = 4)
    (f1 : ρ (Str.ofString "first") = some (.int (first : Int))) (f2 : ρ (Str.ofString "steps") = some (.list (iints sts))) (f0 : ρ (Str.ofString "many") = some (.int (many : Int))) (f3 : ρ (Str.ofString "heaps") = some (.list (iints (h0 :: hr)))) (f4 : ρ (Str.ofString "typed") = some (typedPV t))
    (hc : s.heap.IsCode 162 Pt #[]) (ht : s.heap.TableAt 162 Pt #[]) (hPs : Pt ≠ cStatics) (hg : AllBare s.gens) (hM : BMod s.heap mainGlobals mg bm ob)
    (hQ : ∀ ps' s', (∀ b o, (regrown s.heap Pt ps').get? b = some o → s'.heap.get? b = some o) → s'.heap.TableAt 162 Pt ps' → AllBare s'.gens → s'.os = s.os → Q (.ret (.bool true)) s') :
    wpAny (LG prog w P mg mb A hs s (t + 3)).M (LG prog w P mg mb A hs s (t + 3)).A (execs (rest 5) (LG prog w P mg mb A hs s (t + 3)).env) Q E s₁ := by
  have he := eol_mem (show h0 / 9 % 3 < 3 from Nat.mod_lt _ (by decide))
  have hA1 : ∀ d ∈ A1, d ≤ 100 := fun d hd => Nat.le_trans (G.la.s1 d hd).2 (by decide)
  have hA2 : ∀ d ∈ A2, d ≤ 100 := fun d hd => Nat.le_trans (G.lb.s1 d hd).2 (by decide)
  refine wpAny_execs_cons (S1.at (law5 (first := first) hΓ f3 f1 (by omega) f4) hst fun a₁ s₂ h₂ _ => ?_)
  refine wpAny_execs_cons (S1.at (law6 hΓ) h₂ fun a₂ s₃ h₃ _ => ?_)
  obtain ⟨ρ₁, R1, R2, q1, q2, q3, q4, q5, q6, q7⟩ := law7 (first := first) (sts := sts) (hr := hr) (h0 := h0) (e := eol (h0 / 9 % 3))
    (ρ := up (up ρ (Str.ofString "one") (.str (mkS (txt [(first, eol (h0 / 9 % 3))])))) (Str.ofString "two") (.str (mkS (txt [])))) ht0 hΓ (by omega) hs3 hrl hf1 hf3 he
    (by rw [up_ne _ _ (by decide), up_ne _ _ (by decide)]; exact f4) (by rw [up_ne _ _ (by decide)]; exact up_same _ _ _) (up_same _ _ _) (by rw [up_ne _ _ (by decide), up_ne _ _ (by decide)]; exact f3) (by rw [up_ne _ _ (by decide), up_ne _ _ (by decide)]; exact f2)
  refine wpAny_execs_cons (S1.at q1 h₃ fun a₃ s₄ h₄ _ => ?_)
  rw [G.sz] at q6
  obtain ⟨r1, r2⟩ := Prod.mk.inj q6
  have g1 : ρ₁ (Str.ofString "first") = some (.int (first : Int)) := by rw [q7 _ (by decide) (by decide) (by decide) (by decide) (by decide), up_ne _ _ (by decide), up_ne _ _ (by decide)]; exact f1
  have g2 : ρ₁ (Str.ofString "steps") = some (.list (iints sts)) := by rw [q7 _ (by decide) (by decide) (by decide) (by decide) (by decide), up_ne _ _ (by decide), up_ne _ _ (by decide)]; exact f2
  have g0 : ρ₁ (Str.ofString "many") = some (.int (many : Int)) := by rw [q7 _ (by decide) (by decide) (by decide) (by decide) (by decide), up_ne _ _ (by decide), up_ne _ _ (by decide)]; exact f0
  refine wpAny_execs_cons (S1.at (law8 (R1 := R1) (R2 := R2) hΓ q2 q3 q4 q5) h₄ fun a₄ s₅ h₅ _ => ?_)
  refine wpAny_execs_cons (S1.at (law9 (first := first) (sts := sts) hΓ (by rw [up_ne _ _ (by decide)]; exact g1) (by rw [up_ne _ _ (by decide)]; exact g2) (by omega)) h₅ fun a₅ s₆ h₆ _ => ?_)
  have p1 : ∀ {e : PV}, (up (up ρ₁ (Str.ofString "pages") (.list [.str (mkS (txt (crows (R1.map (·.1))))), .str (mkS (txt (crows (R2.map (·.1)))))])) (Str.ofString "rows") e) (Str.ofString "pages") = some (.list [.str (mkS (txt (crows (R1.map (·.1))))), .str (mkS (txt (crows (R2.map (·.1)))))]) := by
    intro e; rw [up_ne _ _ (by decide)]; exact up_same _ _ _
  obtain ⟨ρ₂, u1, u2⟩ := law10 (R1 := R1) (R2 := R2) (ρ := up (up ρ₁ (Str.ofString "pages") (.list [.str (mkS (txt (crows (R1.map (·.1))))), .str (mkS (txt (crows (R2.map (·.1)))))])) (Str.ofString "rows") (.list [.list (iints (rowsOf first sts 0)), .list (iints (rowsOf first sts 1))])) hΓ
    (by rw [up_ne _ _ (by decide), up_ne _ _ (by decide)]; exact q2) (by rw [up_ne _ _ (by decide), up_ne _ _ (by decide)]; exact q3) q4 q5 p1 (by rw [r1, r2, eA, eB]; exact up_same _ _ _)
  refine wpAny_execs_cons (S1.at u1 h₆ fun a₆ s₇ h₇ _ => ?_)
  have w1 : ρ₂ (Str.ofString "first") = some (.int (first : Int)) := by rw [u2 _ (by decide) (by decide) (by decide), up_ne _ _ (by decide), up_ne _ _ (by decide)]; exact g1
  have w2 : ρ₂ (Str.ofString "steps") = some (.list (iints sts)) := by rw [u2 _ (by decide) (by decide) (by decide), up_ne _ _ (by decide), up_ne _ _ (by decide)]; exact g2
  have w0 : ρ₂ (Str.ofString "many") = some (.int (many : Int)) := by rw [u2 _ (by decide) (by decide) (by decide), up_ne _ _ (by decide), up_ne _ _ (by decide)]; exact g0
  have w3 : ρ₂ (Str.ofString "pages") = some (.list [.str (mkS (txt (crows A1))), .str (mkS (txt (crows A2)))]) := by rw [u2 _ (by decide) (by decide) (by decide), p1, r1, r2]
  have w4 : ρ₂ (Str.ofString "rows") = some (.list [.list (iints A1), .list (iints A2)]) := by rw [u2 _ (by decide) (by decide) (by decide), eA, eB]; exact up_same _ _ _
  refine wpAny_execs_cons (S1.at (law11 (first := first) (many := many) hΓ hfr w1 w0) h₇ fun a₇ s₈ h₈ _ => ?_)
  obtain ⟨ρ₃, v1, v2⟩ := law12 (first := first) (many := many) (sts := sts) (A1 := A1) (A2 := A2) hΓ hA1 hA2 G.la.l1 (Nat.le_trans G.la.l8 (by decide)) G.lb.l1 (Nat.le_trans G.lb.l8 (by decide)) (by omega) (fun x hx => Nat.le_trans (hs3 x hx).2 (by decide)) (by omega) h4 (fun p hp => G.pow p (by omega)) w0 w1 w2 w3
  refine wpAny_execs_cons (S1.at v1 h₈ fun a₈ s₉ h₉ _ => ?_)
  exact stageC (first := first) (many := many) (ah := ah) (sts := sts) (A1 := A1) (A2 := A2) hΓ (by omega) h₉ G hf3 hsm h2 h4 (fun x hx => (hs3 x hx).2) (by rw [v2 _ (by decide) (by decide)]; exact w1) (by rw [v2 _ (by decide) (by decide)]; exact w2) (by rw [v2 _ (by decide) (by decide)]; exact w0) (by rw [v2 _ (by decide) (by decide)]; exact w3) (by rw [v2 _ (by decide) (by decide)]; exact w4) hc ht hPs hg hM hQ

theorem heaps_nat {l : List Int} {b : Int} (h : HeapOk l b) : ∃ h0 hr, hr.length = 4 ∧ zints l = iints (h0 :: hr) := by
  obtain ⟨hl, hx⟩ := h
  match l, hl with
  | [a, b, c, d, e], _ =>
    refine ⟨a.toNat, [b.toNat, c.toNat, d.toNat, e.toNat], rfl, ?_⟩
    have q : ∀ x ∈ [a, b, c, d, e], ((x.toNat : Nat) : Int) = x := fun x h => by have := (hx x h).1; omega
    simp only [zints, iints, List.map_cons, List.map_nil]
    rw [q a (by simp), q b (by simp), q c (by simp), q d (by simp), q e (by simp)]

/-- a call of law ends in True -/
theorem law_runs {v : Value} {ns : List Int} {E : Value → Shared → Prop} {Q : Value → Shared → Prop} {Pt bm : Addr} {ob : Obj} (R : Rm A 13) (hC : Cx P mg mb s.heap) (hfr : A.frames = some []) (hr : Rep (vw s.heap []) (.list (zints ns)) v) (hn : ns.length ≤ 1000)
    (hc : s.heap.IsCode 162 Pt #[]) (ht : s.heap.TableAt 162 Pt #[]) (hPs : Pt ≠ cStatics) (hg : AllBare s.gens) (hM : BMod s.heap mainGlobals mg bm ob)
    (hQ : ∀ ps' s', (∀ b o, (regrown s.heap Pt ps').get? b = some o → s'.heap.get? b = some o) → s'.heap.TableAt 162 Pt ps' → AllBare s'.gens → s'.os = s.os → Q (.bool true) s') :
    wpAny (model prog w) A (call (.ref 213) [v] []) Q E s := by
  refine fn_open (k := 12) (n := 0) (hs := []) (ds := [.list (zints ns)]) (fo213 (P := P) (mg := mg) (mb := mb)) rfl R (by decide) hC (Nat.zero_le _) (fun b hb => by cases hb) (.cons hr .nil) rfl fun s₁ hΓ hs₁ => ?_
  obtain ⟨h0, hr', hrl, eh⟩ := heaps_nat (heapsOf_ok ns)
  have hΓ0 : (LG prog w P mg mb A [] s 0).Ok := hΓ
  refine wpAny_execs_cons (S1.at (law0 (ns := ns) hΓ0 rfl hn) hs₁ fun a₁ s₂ h₂ _ => ?_)
  rw [eh] at h₂
  refine wpAny_execs_cons (law1 (h0 := h0) (hr := hr') hΓ0 (up_same _ _ _) h₂ fun a₂ s₃ h₃ => ?_)
  have hΓ1 : (LG prog w P mg mb A [] s 1).Ok := hΓ0.refloor 1
  refine wpAny_execs_cons (S1.at (law2 (h0 := h0) (hr := hr') hΓ1 (by rw [up_ne _ _ (by decide)]; exact up_same _ _ _)) h₃ fun a₃ s₄ h₄ _ => ?_)
  have hm3 : h0 / 3 % 3 < 3 := Nat.mod_lt _ (by decide)
  have hf3 : h0 % 3 < 3 := Nat.mod_lt _ (by decide)
  refine wpAny_execs_cons (S1.at (law3 (hp := h0 :: hr') (many := h0 / 3 % 3 + 2) hΓ1 (by rw [up_ne _ _ (by decide), up_ne _ _ (by decide)]; exact up_same _ _ _) (by rw [List.length_cons, hrl]) (up_same _ _ _) (by omega)) h₄ fun a₄ s₅ h₅ _ => ?_)
  refine wpAny_execs_cons (law4 hΓ1 h₅ fun t a₅ s₆ ht1 h₆ => ?_)
  have hΓ2 : (LG prog w P mg mb A [] s (t + 3)).Ok := hΓ0.refloor (t + 3)
  have hsts : ∀ x ∈ ((((h0 :: hr').drop 1).take (h0 / 3 % 3 + 2)).map fun h => h % 3 + 1), 1 ≤ x ∧ x ≤ 3 := fun x hx => by
    obtain ⟨y, _, rfl⟩ := List.mem_map.mp hx
    have := Nat.mod_lt y (show 0 < 3 by decide)
    omega
  have hlen : ((((h0 :: hr').drop 1).take (h0 / 3 % 3 + 2)).map fun h => h % 3 + 1).length = h0 / 3 % 3 + 2 := by
    rw [List.length_map, List.length_take]
    show min _ hr'.length = _
    rw [hrl]; omega
  have hgood := good_all (first := h0 % 3 + 1) (by omega) (by omega) (by rw [hlen]; omega) (by rw [hlen]; omega) hsts
  have G := goodOk_of hgood
  refine wpAny_mono (stageB (first := h0 % 3 + 1) (many := h0 / 3 % 3 + 2) (h0 := h0) (hr := hr') hΓ2 ht1 hfr h₆ G rfl rfl (by omega) (by omega) hlen (by omega) (by omega) hsts hrl
    (by rw [up_ne _ _ (by decide), up_ne _ _ (by decide), up_ne _ _ (by decide)]; exact up_same _ _ _) (by rw [up_ne _ _ (by decide)]; exact up_same _ _ _) (by rw [up_ne _ _ (by decide), up_ne _ _ (by decide)]; exact up_same _ _ _)
    (by rw [up_ne _ _ (by decide), up_ne _ _ (by decide), up_ne _ _ (by decide), up_ne _ _ (by decide)]; exact up_same _ _ _) (up_same _ _ _) hc ht hPs hg hM hQ (Q := fun f s' => Q (match f with | .ret v => v | _ => .none) s')) (fun f s' h => h) fun _ _ e => e
end
end Mine
end -- F25
section -- Z1
set_option maxRecDepth 100000
set_option maxHeartbeats 0
namespace Mine
theorem plain_of_well {P : Params} {h : Heap} {a : Addr} {d : WData} {vs : Array Value} (x : Well P h (.ref a) d) (hL : h.IsList a vs) : ∃ n, h.get? a = some { cls := .type "list", data := .seq vs n } := by
  obtain ⟨o, ho, hc, n, hd⟩ := hL
  cases x with
  | list e _ => rw [e] at ho; cases ho; cases hd; exact ⟨_, e⟩
  | bytearray e => rw [e] at ho; cases ho; cases hd
  | tuple e _ => rw [e] at ho; cases ho; exact absurd hc (by simp)
  | dict e _ => rw [e] at ho; cases ho; cases hd
  | set e _ _ _ => rw [e] at ho; cases ho; cases hd
  | frozenset e _ _ _ => rw [e] at ho; cases ho; cases hd
  | obj e _ _ _ => rw [e] at ho; cases ho; cases hd
theorem rep_arg {P : Params} {h : Heap} {a : Addr} {d : WData} {vs : List Value} {ns : List Int} (x : Well P h (.ref a) d) (hL : h.IsList a vs.toArray) (hI : IntsAre vs ns) : Rep (vw h []) (.list (zints ns)) (.ref a) := by
  obtain ⟨n, e⟩ := plain_of_well x hL
  exact .list (vw_some.mpr ⟨by simp, e, rfl⟩) (of_intsAre hI)
theorem recs_fmt : (recsOf Mine.hd.view_39).any (fun d => d.name == Str.ofString "format_witnesses") = true := by decide +kernel
theorem tab_fmt {loose : List Str} {mean : ExcName → Option Value} {mg mb : Str → Option Value} {h : Heap} {P : Params} (T : Top Mine.hd.view_39 loose mean mg mb h) (X : (KK P).In h) : ∃ Pt, h.IsCode 162 Pt #[] ∧ h.TableAt 162 Pt #[] := by
  obtain ⟨d, hd, hn⟩ := List.any_eq_true.mp recs_fmt
  obtain ⟨a, o, fd, c, Pt, h1, h2, h3, h4, h5, h6⟩ := T.tab d hd
  rw [eq_of_beq hn] at h1
  have e1 : mg (Str.ofString "format_witnesses") = some (.ref 163) := mg_of X T.g rfl
  rw [e1] at h1
  cases h1
  have e2 := X _ _ (fd163.2 P)
  rw [e2] at h2
  cases h2
  cases h3
  cases h4
  exact ⟨Pt, h5, h6⟩
end Mine
end -- Z1
section -- Z2
set_option maxRecDepth 100000
set_option maxHeartbeats 0
namespace Mine
theorem fin : PySem.Challenge.rw_sw0043_01.Holds := by
  refine Mine.hd ?_
  k_fill
  intro w s₀ s₁ mg mb G Y fa o pm cd doc dV kV ho hd hcd hD hmg hg args vals as hpre hlay hrd hwl hlo
  have KX := kIn_of Y
  refine Ground.open G ?_
  intro T B D TE TW
  wrow_args hpre hlay hrd hwl hlo
  rename_i ns hs0 hlay0 hL1 hr1 hl2 as1 as2 l vs as3 hL ra w1 r0 hI hr hc1 hc2
  have e1 : mg (Str.ofString "law") = some (.ref 213) := mg_of KX T.g rfl
  have e2 : mg (Str.ofString "law") = some (.ref fa) := hmg
  rw [e1] at e2
  have e3 : fa = 213 := by cases e2; rfl
  subst e3
  have hC : Cx w.params mg mb s₁.heap := ⟨KX, T.g, T.b, T.nolimit, T.nodigits, T.builtins⟩
  obtain ⟨Pt, hc, ht⟩ := tab_fmt T KX
  obtain ⟨bm, ob, b1, b2, b3, b4, b5, b6⟩ := T.bmain
  have hPs : Pt ≠ cStatics := fun e => by
    obtain ⟨_, hns, _⟩ := T.nolimit
    obtain ⟨o, es, ep, ho, hd, _⟩ := hns
    rw [← e, ht.2] at ho; cases ho; cases hd
  have hlen : ns.length ≤ 1000 := by omega
  refine law_runs (A := callerA) (P := w.params) (mg := mg) (mb := mb) (ns := ns) (Pt := Pt) (bm := bm) (ob := ob) ⟨rfl, by decide, by decide, by decide⟩ hC rfl (rep_arg w1 hL hI) hlen hc ht hPs (.of_eq hg) ⟨T.g, b1, b2, b3, b4, b5, b6⟩ fun ps' s' k1 k2 k3 k4 => ?_
  have hx : Heap.ExtBut Pt s₁.heap (regrown s₁.heap Pt ps') := fun b o hb e => (Heap.get?_update_other _ _ (Ne.symm hb)).trans e
  have hself : (regrown s₁.heap Pt ps').get? Pt = some { cls := .none, data := .fields ps' } := Heap.get?_update_self _ ht.2 rfl
  have htR : (regrown s₁.heap Pt ps').TableAt 162 Pt (#[] ++ ps') := by
    rw [Array.empty_append]
    obtain ⟨⟨o, vs, e, r1, r2⟩, q⟩ := ht
    exact ⟨⟨o, vs, hx 162 o (fun z => by rw [z, q] at e; cases e; cases r1) e, r1, r2⟩, hself⟩
  have hOld : OldK s₁.heap s'.heap := ((OldK.refl s₁.heap).step_table ht ht htR hx hPs).step_keeps k1
  obtain ⟨h', g', d', t', os'⟩ := s'
  have k4' : os' = s₁.os := k4
  subst k4'
  refine ⟨.inl ⟨_, _, [], rfl, fun _ => rfl, ReadsW.bool true, ?_, fun _ => ⟨List.nodup_nil, fun _ hm => (nomatch hm)⟩⟩, hOld, rfl, k3⟩
  first | rfl | wrow_post
end Mine
end -- Z2
theorem PySem.Challenge.cw_sw0043_01_holds : PySem.Challenge.rw_sw0043_01.Holds := by
  exact Mine.fin
