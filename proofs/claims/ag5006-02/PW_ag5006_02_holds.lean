import PyProof.Rows.All
import Wide.All
import OpenK.AllK
import Wide.FinOn
import KE.KNestM
import PySem.Challenge.RW_ag5006_02
set_option Elab.async false
section
open PySem PySem.W PyProof.Rows
set_option maxRecDepth 100000
set_option maxHeartbeats 8000000
namespace Mine
open_top hd for PySem.Challenge.rw_ag5006_02
end Mine
end
section
open PySem PySem.W PySem.Calls PyProof.Rows
set_option maxRecDepth 100000
set_option maxHeartbeats 1000000
set_option linter.unusedVariables false
namespace Mine
abbrev PW : Program := PySem.Challenge.pw_ag5006_02
noncomputable abbrev KF : Params → Frag := hd.heap_39

/-! ## partial heaps -/
abbrev PM := Addr → Option Obj
def PM.put (κ : PM) (a : Addr) (o : Obj) : PM := fun b => if b = a then some o else κ b
def PM.le (κ κ' : PM) : Prop := ∀ b o, κ b = some o → κ' b = some o
def un (φ R : PM) : PM := fun b => match φ b with | some o => some o | none => R b
def Dj (φ R : PM) : Prop := ∀ b o, φ b = some o → R b = none

theorem PM.le.rfl {κ : PM} : κ.le κ := fun _ _ e => e
theorem PM.le.trans {a b c : PM} (x : a.le b) (y : b.le c) : a.le c := fun _ _ e => y _ _ (x _ _ e)
theorem PM.put_self (κ : PM) (a : Addr) (o : Obj) : κ.put a o a = some o := by simp [PM.put]
theorem PM.put_ne (κ : PM) {a b : Addr} (o : Obj) (h : b ≠ a) : κ.put a o b = κ b := by simp [PM.put, h]
theorem PM.put_fresh {κ : PM} {a : Addr} (h : κ a = none) (o : Obj) : κ.le (κ.put a o) := fun b o' e => by
  by_cases q : b = a
  · subst q; rw [h] at e; cases e
  · rw [PM.put_ne _ _ q]; exact e
theorem PM.ne_of {κ : PM} {a b : Addr} {o : Obj} (h : κ a = none) (e : κ b = some o) : b ≠ a := fun q => by subst q; rw [h] at e; cases e

structure Sat (κ R : PM) (h : Heap) : Prop where
  k : ∀ b o, κ b = some o → h.get? b = some o
  r : ∀ b o, R b = some o → h.get? b = some o
  d : ∀ b o, κ b = some o → R b = none

theorem Sat.fresh {κ R : PM} {h : Heap} (S : Sat κ R h) {a : Addr} (ha : h.get? a = none) : κ a = none ∧ R a = none := by
  constructor
  · cases e : κ a with
    | none => rfl
    | some o => rw [S.k _ _ e] at ha; cases ha
  · cases e : R a with
    | none => rfl
    | some o => rw [S.r _ _ e] at ha; cases ha
theorem get_size_none (h : Heap) : h.get? h.objs.size = none := by
  cases e : h.get? h.objs.size with
  | none => rfl
  | some o => exact absurd (Heap.lt_size e) (Nat.lt_irrefl _)
theorem Sat.hole {κ R : PM} {h : Heap} (S : Sat κ R h) : κ h.objs.size = none := (S.fresh (get_size_none h)).1
theorem Sat.push {κ R : PM} {h : Heap} (S : Sat κ R h) (o : Obj) (hf : o.isFreed = false := by rfl) : Sat (κ.put h.objs.size o) R (h.push o) := by
  have f := S.fresh (get_size_none h)
  refine ⟨fun b o' e => ?_, fun b o' e => Heap.get?_push_of_some _ (S.r _ _ e), fun b o' e => ?_⟩
  · by_cases q : b = h.objs.size
    · subst q; rw [PM.put_self] at e; cases e; exact Heap.get?_push_size _ hf
    · rw [PM.put_ne _ _ q] at e; exact Heap.get?_push_of_some _ (S.k _ _ e)
  · by_cases q : b = h.objs.size
    · subst q; exact f.2
    · rw [PM.put_ne _ _ q] at e; exact S.d _ _ e
theorem Sat.upd {κ R : PM} {h h' : Heap} (S : Sat κ R h) {a : Addr} {o o' : Obj} (ha : κ a = some o) (hs : Heap.SameBut a h h') (ho : h'.get? a = some o') : Sat (κ.put a o') R h' := by
  refine ⟨fun b ob e => ?_, fun b ob e => ?_, fun b ob e => ?_⟩
  · by_cases q : b = a
    · subst q; rw [PM.put_self] at e; cases e; exact ho
    · rw [PM.put_ne _ _ q] at e; exact (hs.2 b q).trans (S.k _ _ e)
  · have : b ≠ a := fun q => by subst q; rw [S.d _ _ ha] at e; cases e
    exact (hs.2 b this).trans (S.r _ _ e)
  · by_cases q : b = a
    · subst q; exact S.d _ _ ha
    · rw [PM.put_ne _ _ q] at e; exact S.d _ _ e
theorem Sat.weak {κ κ' R : PM} {h : Heap} (S : Sat κ R h) (l : κ'.le κ) : Sat κ' R h := ⟨fun b o e => S.k _ _ (l _ _ e), S.r, fun b o e => S.d _ _ (l _ _ e)⟩
theorem Sat.more {κ R : PM} {h h' : Heap} (S : Sat κ R h) (k : ∀ b o, h.get? b = some o → h'.get? b = some o) : Sat κ R h' := ⟨fun b o e => k _ _ (S.k _ _ e), fun b o e => k _ _ (S.r _ _ e), S.d⟩

structure Fwd (s s' : Shared) : Prop where
  os : s'.os = s.os
  gsz : s.gens.size ≤ s'.gens.size
  gold : ∀ i, i < s.gens.size → s'.gens[i]? = s.gens[i]?
  bare : AllBare s.gens → AllBare s'.gens
theorem Fwd.trans {a b c : Shared} (x : Fwd a b) (y : Fwd b c) : Fwd a c :=
  ⟨y.os.trans x.os, Nat.le_trans x.gsz y.gsz, fun i hi => (y.gold i (Nat.lt_of_lt_of_le hi x.gsz)).trans (x.gold i hi), fun z => y.bare (x.bare z)⟩
theorem Fwd.of {s s' : Shared} (h : s'.os = s.os := by rfl) (g : s'.gens = s.gens := by rfl) : Fwd s s' :=
  ⟨h, by rw [g]; exact Nat.le_refl _, fun i _ => by rw [g], fun z => by rw [g]; exact z⟩

/-! ## the world that the call stands in -/
structure Wd where
  w : World
  kB : PM
  K : ∀ a o, (KF w.params).lookup a = some o → kB a = some o
  mb : Str → Option PySem.Value
  blt : ∃ o es ep, kB builtinsNs = some o ∧ o.data = .dict es ep ∧ StrKeys es ∧ ∀ name, nsFind es name = mb name
  mbs : ∀ x : Str, x ≠ "__name__" → mb x = bootBuiltins x
  nolimit : ∃ o es ep, kB cStatics = some o ∧ o.data = .dict es ep ∧ StrKeys es ∧ nsFind es "sys.recursionlimit" = none
  top : Nat
  low : ∀ a o, kB a = some o → a < top
  bmod : ∃ (bm : Addr) (ob : Obj), nsIn (KF w.params) mainGlobals "__builtins__" = some (some (.ref bm)) ∧ bm ≠ builtinsNs ∧ kB bm = some ob ∧ ob.cls = .type "module" ∧ ob.dict = some builtinsNs ∧ ob.data = .plain
abbrev Wd.M (W : Wd) : Model := model PW W.w

section
variable {W : Wd} {κ R : PM} {h : Heap}
theorem Wd.inK (W : Wd) (b : W.kB.le R) (S : Sat κ R h) : (KF W.w.params).In h := fun a o e => S.r _ _ (b _ _ (W.K a o e))
theorem Wd.blts (W : Wd) (b : W.kB.le R) (S : Sat κ R h) : h.Ns builtinsNs W.mb := let ⟨o, es, ep, h1, h2, h3, h4⟩ := W.blt; ⟨o, es, ep, S.r _ _ (b _ _ h1), h2, h3, h4⟩
theorem Wd.lim (W : Wd) (b : W.kB.le R) (S : Sat κ R h) : h.NoLimit := let ⟨o, es, ep, h1, h2, h3, h4⟩ := W.nolimit; ⟨_, ⟨o, es, ep, S.r _ _ (b _ _ h1), h2, h3, fun _ => rfl⟩, h4⟩
end

/-- room for n more levels -/
structure AOk (A : Around) (n : Nat) : Prop where
  hh : A.handled = none
  hd : A.depth + n < 690
  hu : A.units + 50 * n < cLine
theorem AOk.in1 {A : Around} {n : Nat} (a : AOk A (n + 1)) : AOk A.in1 n := ⟨a.hh, by have := a.hd; show A.depth + n < 690; omega, by have := a.hu; show A.units + 1 + 50 * n < cLine; omega⟩
theorem AOk.deeper {A : Around} {n : Nat} (a : AOk A (n + 1)) (env : Env) : AOk (A.deeper env) n := ⟨a.hh, by have := a.hd; show A.depth + 1 + n < 690; omega, by have := a.hu; show A.units + 3 + 50 * n < cLine; omega⟩
theorem AOk.less {A : Around} {m n : Nat} (a : AOk A n) (h : m ≤ n) : AOk A m := ⟨a.hh, by have := a.hd; omega, by have := a.hu; omega⟩
theorem AOk.room {A : Around} {n : Nat} (a : AOk A n) : A.depth < recursionLimit := by have := a.hd; show A.depth < 1000; omega
theorem AOk.units {A : Around} {n : Nat} (a : AOk A n) : A.units < cLine := by have := a.hu; omega

/-! ## the logic -/
def Wp (W : Wd) (A : Around) (Φ : PM → Prop) {α : Type} (t : Sem α) (κ : PM) (Q : α → PM → Prop) : Prop :=
  ∀ (R : PM) (s : Shared), W.kB.le R → Φ R → Sat κ R s.heap →
    wpAny W.M A t (fun v s' => ∃ κ', Sat κ' R s'.heap ∧ Fwd s s' ∧ Q v κ') (fun _ _ => False) s

abbrev T1 : PM → Prop := fun _ => True
section
variable {W : Wd} {A : Around} {Φ : PM → Prop} {α β : Type} {t : Sem α} {κ : PM}
theorem Wp.seq {Q₁ : α → PM → Prop} {Q' : α → Shared → Prop} {R : PM} {s : Shared} (h : Wp W A Φ t κ Q₁) (b : W.kB.le R) (p : Φ R) (S : Sat κ R s.heap)
    (k : ∀ v κ' s', Sat κ' R s'.heap → Fwd s s' → Q₁ v κ' → Q' v s') {E : PySem.Value → Shared → Prop} : wpAny W.M A t Q' E s :=
  wpAny_mono (h R s b p S) (fun v s' ⟨κ', S', F, q⟩ => k v κ' s' S' F q) (fun _ _ x => x.elim)
theorem Wp.pure {v : α} {Q : α → PM → Prop} (h : Q v κ) : Wp W A Φ (Pure.pure v) κ Q := fun _ s _ _ S => wpAny_pure ⟨κ, S, .of, h⟩
theorem Wp.bind {f : α → Sem β} {Q : β → PM → Prop} (h : Wp W A Φ t κ (fun v κ' => Wp W A Φ (f v) κ' Q)) : Wp W A Φ (t >>= f) κ Q :=
  fun R s b p S => wpAny_bind (h.seq b p S fun v κ' s' S' F q => q.seq b p S' fun u κ'' s'' S'' F' q' => ⟨κ'', S'', F.trans F', q'⟩)
theorem Wp.mono {Q Q' : α → PM → Prop} (h : Wp W A Φ t κ Q) (k : ∀ v κ', Q v κ' → Q' v κ') : Wp W A Φ t κ Q' :=
  fun R s b p S => h.seq b p S fun v κ' s' S' F q => ⟨κ', S', F, k _ _ q⟩
theorem Wp.any {Q : α → PM → Prop} (h : Wp W A T1 t κ Q) : Wp W A Φ t κ Q := fun R s b p S => h R s b trivial S
end
end Mine
end
section
open PySem PySem.W PySem.Calls PyProof.Rows
set_option maxRecDepth 100000
set_option maxHeartbeats 1000000
set_option linter.unusedVariables false
namespace Mine

theorem un_le {φ R : PM} (d : Dj φ R) : R.le (un φ R) := fun b o e => by
  unfold un
  cases q : φ b with
  | none => exact e
  | some o' => rw [d _ _ q] at e; cases e
theorem un_left {φ R : PM} {b : Addr} {o : Obj} (e : φ b = some o) : un φ R b = some o := by unfold un; rw [e]
theorem un_right {φ R : PM} {b : Addr} (e : φ b = none) : un φ R b = R b := by unfold un; rw [e]

structure EnvOk (env : Env) : Prop where
  k : env.scope.kind = .function
  g : env.globals = mainGlobals
  b : env.builtins = builtinsNs

def NsO (o : Obj) (x : Str) (v : PySem.Value) : Prop := ∃ es ep, o.data = .dict es ep ∧ StrKeys es ∧ nsFind es x = some v

def Rd (env : Env) (R : PM) (x : Str) (v : PySem.Value) : Prop :=
  (env.kindOf x = some .local ∧ ∃ o, R env.locals = some o ∧ NsO o x v) ∨
  ((env.kindOf x = some .cell ∨ env.kindOf x = some .free) ∧ ∃ c o, env.cells.lookup x = some c ∧ R c = some o ∧ o.data = .cell (some v))
theorem Rd.le {env : Env} {R R' : PM} {x : Str} {v : PySem.Value} (h : Rd env R x v) (l : R.le R') : Rd env R' x v := by
  rcases h with ⟨k, o, ho, n⟩ | ⟨k, c, o, hc, ho, d⟩
  · exact .inl ⟨k, o, l _ _ ho, n⟩
  · exact .inr ⟨k, c, o, hc, l _ _ ho, d⟩

abbrev Loc := List (Option PySem.Value)
/-- what the names of env hold, place by place of its scope's table -/
structure FrameIs (env : Env) (ρ : Loc) (R : PM) : Prop where
  ok : EnvOk env
  rd : ∀ (i : Nat) x k v, env.scope.names[i]? = some (x, k) → ρ[i]? = some (some v) → Rd env R x v
theorem FrameIs.le {env : Env} {ρ : Loc} {R R' : PM} (h : FrameIs env ρ R) (l : R.le R') : FrameIs env ρ R' := ⟨h.ok, fun i x k v e f => (h.rd i x k v e f).le l⟩

abbrev WE (W : Wd) (A : Around) (env : Env) (ρ : Loc) (e : Expr) (κ : PM) (Q : PySem.Value → PM → Prop) : Prop := Wp W A (FrameIs env ρ) (eval e env) κ Q
abbrev WT (W : Wd) (A : Around) (env : Env) (ρ : Loc) (e : Expr) (κ : PM) (Q : Bool → PM → Prop) : Prop := Wp W A (FrameIs env ρ) (isTrue e env (eval e env)) κ Q

theorem main_ns (P : Params) : ∃ o es n, (KF P).lookup mainGlobals = some ⟨o, none, .dict es n, #[]⟩ ∧ StrKeys es := by
  refine ⟨_, _, _, rfl, fun e he => ?_⟩
  simp only [List.mem_toArray, List.mem_cons, List.not_mem_nil, or_false] at he
  rcases he with he | he | he | he | he | he | he | he | he | he | he | he | he | he | he | he | he | he | he | he | he | he <;> exact ⟨_, _, by rw [he]⟩

section
variable {W : Wd} {A : Around} {env : Env} {ρ : Loc} {κ : PM} {Q : PySem.Value → PM → Prop} {pos : Pos} {Φ : PM → Prop}

theorem rd_eval {R : PM} {s : Shared} {x : Str} {v : PySem.Value} (ok : EnvOk env) (S : Sat κ R s.heap) (r : Rd env R x v) {Q' : PySem.Value → Shared → Prop} {E : PySem.Value → Shared → Prop} (h : Q' v s)
    (hc : (x == ("__classdict__" : Str)) = false) : wpAny W.M A (loadName env x) Q' E s := by
  rcases r with ⟨k, o, ho, es, ep, hd, hk, hn⟩ | ⟨k, c, o, hl, ho, hd⟩
  · exact wpAny_loadName_local ok.k k ⟨o, es, ep, S.r _ _ ho, hd, hk, fun _ => rfl⟩ hn h
  · rcases k with k | k
    · exact wpAny_loadName_cell ok.k k hl ⟨o, S.r _ _ ho, hd⟩ h
    · exact wpAny_loadName_free ok.k k hl ⟨o, S.r _ _ ho, hd⟩ h hc

/-- a name of the frame's, by its place -/
theorem WE.name (i : Nat) {x : Str} {k : NameKind} {v : PySem.Value} (hx : env.scope.names[i]? = some (x, k)) (hv : ρ[i]? = some (some v)) (h : Q v κ)
    (hd : (x == ("__debug__" : Str)) = false := by decide) (hc : (x == ("__classdict__" : Str)) = false := by decide) : WE W A env ρ (.Name x pos) κ Q :=
  fun R s b p S => wpAny_Name (rd_eval p.ok S (p.rd i x k v hx hv) ⟨κ, S, .of, h⟩ hc) hd

/-- a global name of the text's -/
theorem WE.glob {x : Str} {v : PySem.Value} (hx : env.kindOf x = some .globalImplicit) (e : nsIn (KF W.w.params) mainGlobals x = some (some v)) (h : Q v κ)
    (hd : (x == ("__debug__" : Str)) = false := by decide) : WE W A env ρ (.Name x pos) κ Q := by
  intro R s b p S
  obtain ⟨o, es, n, hl, hk⟩ := main_ns W.w.params
  have X := W.inK b S
  have G : s.heap.Ns mainGlobals (fun y => nsFind es y) := ⟨_, es, n, X _ _ hl, rfl, hk, fun _ => rfl⟩
  exact Name_function_global p.ok.k hx (loadGlobal_global (by rw [p.ok.g]; exact G) (mg_of X G e) ⟨κ, S, .of, h⟩) hd
/-- a built-in name -/
theorem WE.blt {x : Str} {v : PySem.Value} (hx : env.kindOf x = some .globalImplicit) (e : nsIn (KF W.w.params) mainGlobals x = some none) (hv : bootBuiltins x = some v) (hn : x ≠ "__name__") (h : Q v κ)
    (hd : (x == ("__debug__" : Str)) = false := by decide) : WE W A env ρ (.Name x pos) κ Q := by
  intro R s b p S
  obtain ⟨o, es, n, hl, hk⟩ := main_ns W.w.params
  have X := W.inK b S
  have G : s.heap.Ns mainGlobals (fun y => nsFind es y) := ⟨_, es, n, X _ _ hl, rfl, hk, fun _ => rfl⟩
  exact Name_function_global p.ok.k hx (loadGlobal_builtin (by rw [p.ok.g]; exact G) (mg_none_of X G e) (by rw [p.ok.b]; exact W.blts b S) ((W.mbs x hn).trans hv) ⟨κ, S, .of, h⟩) hd

theorem WE.int {i : Int} {k : Nat} (h : ∀ t, Q (.int i t) κ) : WE W A env ρ (.Constant (.int i) k pos) κ Q := fun R s b p S => wpAny_Constant_int ⟨κ, S, .of, h _⟩
theorem WE.str {x : Str} {k : Nat} (h : ∀ t, Q (.str x t) κ) : WE W A env ρ (.Constant (.str x) k pos) κ Q := fun R s b p S => wpAny_Constant_str ⟨κ, S, .of, h _⟩
theorem WE.bool {v : Bool} {k : Nat} (h : Q (.bool v) κ) : WE W A env ρ (.Constant (.bool v) k pos) κ Q := fun R s b p S => wpAny_Constant_bool ⟨κ, S, .of, h⟩
theorem WE.none {k : Nat} (h : Q .none κ) : WE W A env ρ (.Constant .none k pos) κ Q := fun R s b p S => wpAny_Constant_none ⟨κ, S, .of, h⟩

theorem WE.binop {l r : Expr} {op : Operator} (h : WE W A env ρ l κ fun a κ₁ => WE W A env ρ r κ₁ fun c κ₂ => Wp W A T1 (binaryOp op a c) κ₂ Q) : WE W A env ρ (.BinOp l op r pos) κ Q :=
  fun R s b p S => wpAny_BinOp (h.seq b p S fun _ κ₁ s₁ S₁ F₁ h₁ => h₁.seq b p S₁ fun _ κ₂ s₂ S₂ F₂ h₂ => h₂.seq b trivial S₂ fun v κ₃ s₃ S₃ F₃ q => ⟨κ₃, S₃, (F₁.trans F₂).trans F₃, q⟩)
theorem WE.cmp {l r : Expr} {op : CmpOp} (h : WE W A env ρ l κ fun a κ₁ => WE W A env ρ r κ₁ fun c κ₂ => Wp W A T1 (compareOp op a c) κ₂ Q)
    (hm : behindInMarks op r = false := by with_unfolding_all rfl) : WE W A env ρ (.Compare l [op] [r] pos) κ Q :=
  fun R s b p S => wpAny_Compare1 (h.seq b p S fun _ κ₁ s₁ S₁ F₁ h₁ => h₁.seq b p S₁ fun _ κ₂ s₂ S₂ F₂ h₂ => h₂.seq b trivial S₂ fun v κ₃ s₃ S₃ F₃ q => ⟨κ₃, S₃, (F₁.trans F₂).trans F₃, q⟩) hm
theorem WE.unary {x : Expr} {op : UnaryOp} (h : WE W A env ρ x κ fun a κ₁ => Wp W A T1 (unaryOp op a) κ₁ Q) : WE W A env ρ (.UnaryOp op x pos) κ Q :=
  fun R s b p S => wpAny_UnaryOp (h.seq b p S fun _ κ₁ s₁ S₁ F₁ h₁ => h₁.seq b trivial S₁ fun v κ₃ s₃ S₃ F₃ q => ⟨κ₃, S₃, F₁.trans F₃, q⟩)
theorem WE.ifexp {t x y : Expr} (h : WT W A env ρ t κ fun c κ₁ => if c = true then WE W A env ρ x κ₁ Q else WE W A env ρ y κ₁ Q) : WE W A env ρ (.IfExp t x y pos) κ Q := by
  intro R s b p S
  refine wpAny_IfExp (h.seq b p S fun c κ₁ s₁ S₁ F₁ h₁ => ?_)
  cases c
  · exact Wp.seq h₁ b p S₁ fun v κ₂ s₂ S₂ F₂ q => ⟨κ₂, S₂, F₁.trans F₂, q⟩
  · exact Wp.seq h₁ b p S₁ fun v κ₂ s₂ S₂ F₂ q => ⟨κ₂, S₂, F₁.trans F₂, q⟩
theorem WE.and1 {op : BoolOp} {x : Expr} (h : WE W A env ρ x κ Q) : WE W A env ρ (.BoolOp op [x] pos) κ Q := fun R s b p S => BoolOp_one (h R s b p S)
theorem WE.and {x y : Expr} {r : List Expr} (h : WE W A env ρ x κ fun v κ₁ => Wp W A T1 (truthy v) κ₁ fun c κ₂ => if c = true then WE W A env ρ (.BoolOp .And (y :: r) pos) κ₂ Q else Q v κ₂) :
    WE W A env ρ (.BoolOp .And (x :: y :: r) pos) κ Q := by
  intro R s b p S
  refine BoolOp_and (h.seq b p S fun v κ₁ s₁ S₁ F₁ h₁ => h₁.seq b trivial S₁ fun c κ₂ s₂ S₂ F₂ h₂ => ?_)
  cases c
  · exact ⟨κ₂, S₂, F₁.trans F₂, h₂⟩
  · exact Wp.seq h₂ b p S₂ fun v κ₃ s₃ S₃ F₃ q => ⟨κ₃, S₃, (F₁.trans F₂).trans F₃, q⟩
theorem WE.or {x y : Expr} {r : List Expr} (h : WE W A env ρ x κ fun v κ₁ => Wp W A T1 (truthy v) κ₁ fun c κ₂ => if c = true then Q v κ₂ else WE W A env ρ (.BoolOp .Or (y :: r) pos) κ₂ Q) :
    WE W A env ρ (.BoolOp .Or (x :: y :: r) pos) κ Q := by
  intro R s b p S
  refine BoolOp_or (h.seq b p S fun v κ₁ s₁ S₁ F₁ h₁ => h₁.seq b trivial S₁ fun c κ₂ s₂ S₂ F₂ h₂ => ?_)
  cases c
  · exact Wp.seq h₂ b p S₂ fun v κ₃ s₃ S₃ F₃ q => ⟨κ₃, S₃, (F₁.trans F₂).trans F₃, q⟩
  · exact ⟨κ₂, S₂, F₁.trans F₂, h₂⟩

/-! truth -/
theorem WT.value {e : Expr} {Q : Bool → PM → Prop} (h : WE W A env ρ e κ fun v κ₁ => Wp W A T1 (truthy v) κ₁ Q)
    (he : isTrue e env (eval e env) = (do let v ← eval e env; standAt e.pos; holding [v] (truthy v)) := by rfl) : WT W A env ρ e κ Q :=
  fun R s b p S => wpAny_isTrue_value (h.seq b p S fun v κ₁ s₁ S₁ F₁ h₁ => h₁.seq b trivial S₁ fun v κ₃ s₃ S₃ F₃ q => ⟨κ₃, S₃, F₁.trans F₃, q⟩) he
theorem WT.cmp {l r : Expr} {op : CmpOp} {Q : Bool → PM → Prop} (h : WE W A env ρ l κ fun a κ₁ => WE W A env ρ r κ₁ fun c κ₂ => Wp W A T1 (compareOp op a c) κ₂ fun v κ₃ => Wp W A T1 (truthy v) κ₃ Q)
    (hm : behindInMarks op r = false := by with_unfolding_all rfl) : WT W A env ρ (.Compare l [op] [r] pos) κ Q :=
  fun R s b p S => wpAny_isTrue_Compare1 (h.seq b p S fun _ κ₁ s₁ S₁ F₁ h₁ => h₁.seq b p S₁ fun _ κ₂ s₂ S₂ F₂ h₂ => h₂.seq b trivial S₂ fun v κ₃ s₃ S₃ F₃ h₃ => h₃.seq b trivial S₃ fun v κ₄ s₄ S₄ F₄ q =>
    ⟨κ₄, S₄, ((F₁.trans F₂).trans F₃).trans F₄, q⟩) hm
theorem WT.not {x : Expr} {Q : Bool → PM → Prop} (h : WT W A env ρ x κ fun c κ₁ => Q (!c) κ₁) : WT W A env ρ (.UnaryOp .Not x pos) κ Q :=
  fun R s b p S => wpAny_isTrue_Not (h.seq b p S fun c κ₁ s₁ S₁ F₁ q => ⟨κ₁, S₁, F₁, q⟩)
abbrev WAll (W : Wd) (A : Around) (env : Env) (ρ : Loc) (op : BoolOp) (es : List Expr) (κ : PM) (Q : Bool → PM → Prop) : Prop := Wp W A (FrameIs env ρ) (allTrue op es env) κ Q
theorem WT.bool {op : BoolOp} {es : List Expr} {Q : Bool → PM → Prop} (h : WAll W A env ρ op es κ Q) : WT W A env ρ (.BoolOp op es pos) κ Q :=
  fun R s b p S => wpAny_isTrue_BoolOp (h R s b p S)
theorem WAll.and_nil {Q : Bool → PM → Prop} (h : Q true κ) : WAll W A env ρ .And [] κ Q := fun R s b p S => wpAny_allTrue_And_nil ⟨κ, S, .of, h⟩
theorem WAll.or_nil {Q : Bool → PM → Prop} (h : Q false κ) : WAll W A env ρ .Or [] κ Q := fun R s b p S => wpAny_allTrue_Or_nil ⟨κ, S, .of, h⟩
theorem WAll.and_cons {x : Expr} {r : List Expr} {Q : Bool → PM → Prop} (h : WT W A env ρ x κ fun c κ₁ => if c = true then WAll W A env ρ .And r κ₁ Q else Q false κ₁) : WAll W A env ρ .And (x :: r) κ Q := by
  intro R s b p S
  refine wpAny_allTrue_And_cons (h.seq b p S fun c κ₁ s₁ S₁ F₁ h₁ => ?_)
  cases c
  · exact ⟨κ₁, S₁, F₁, h₁⟩
  · exact Wp.seq h₁ b p S₁ fun v κ₃ s₃ S₃ F₃ q => ⟨κ₃, S₃, F₁.trans F₃, q⟩
theorem WAll.or_cons {x : Expr} {r : List Expr} {Q : Bool → PM → Prop} (h : WT W A env ρ x κ fun c κ₁ => if c = true then Q true κ₁ else WAll W A env ρ .Or r κ₁ Q) : WAll W A env ρ .Or (x :: r) κ Q := by
  intro R s b p S
  refine wpAny_allTrue_Or_cons (h.seq b p S fun c κ₁ s₁ S₁ F₁ h₁ => ?_)
  cases c
  · exact Wp.seq h₁ b p S₁ fun v κ₃ s₃ S₃ F₃ q => ⟨κ₃, S₃, F₁.trans F₃, q⟩
  · exact ⟨κ₁, S₁, F₁, h₁⟩

/-! the arguments of a call, the items of a display -/
abbrev WArgs (W : Wd) (A : Around) (env : Env) (ρ : Loc) (pos : Pos) (es : List Expr) (κ : PM) (Q : List PySem.Value → PM → Prop) : Prop := Wp W A (FrameIs env ρ) (spliced (backTo pos (starEach es env))) κ Q
theorem WArgs.nil {Q : List PySem.Value → PM → Prop} (h : Q [] κ) : WArgs W A env ρ pos [] κ Q := fun R s b p S => wpAny_items_nil ⟨κ, S, .of, h⟩
theorem WArgs.cons {e : Expr} {r : List Expr} {Q : List PySem.Value → PM → Prop} (h : WE W A env ρ e κ fun v κ₁ => WArgs W A env ρ pos r κ₁ fun vs κ₂ => Q (v :: vs) κ₂)
    (he : starEach (e :: r) env = (false, eval e env) :: starEach r env := by rfl) : WArgs W A env ρ pos (e :: r) κ Q :=
  fun R s b p S => wpAny_items_cons (h.seq b p S fun _ κ₁ s₁ S₁ F₁ h₁ => h₁.seq b p S₁ fun vs κ₂ s₂ S₂ F₂ q => ⟨κ₂, S₂, F₁.trans F₂, q⟩) he

theorem WE.list {es : List Expr} (h : WArgs W A env ρ pos es κ fun vs κ₁ => vs.length ≤ sizeLine ∧ ∀ a, κ₁ a = .none → Q (.ref a) (κ₁.put a (listOf vs.toArray 0))) : WE W A env ρ (.List es pos) κ Q :=
  fun R s b p S => wpAny_List (h.seq b p S fun vs κ₁ s₁ S₁ F₁ h₁ => ⟨h₁.1, _, S₁.push _, F₁.trans .of, h₁.2 _ S₁.hole⟩)
abbrev tupOf (vs : Array PySem.Value) : Obj := { cls := .type "tuple", data := .seq vs }
theorem WE.tuple {es : List Expr} {k : Nat} (h : WArgs W A env ρ pos es κ fun vs κ₁ => vs.length ≤ sizeLine ∧ ∀ a, κ₁ a = .none → Q (.ref a) (κ₁.put a (tupOf vs.toArray))) : WE W A env ρ (.Tuple es k pos) κ Q :=
  fun R s b p S => wpAny_Tuple (h.seq b p S fun vs κ₁ s₁ S₁ F₁ h₁ => ⟨h₁.1, _, S₁.push _, F₁.trans .of, h₁.2 _ S₁.hole⟩)

theorem WE.attr {x : Expr} {n : Str} (h : WE W A env ρ x κ fun o κ₁ => Wp W A T1 (getAttr o n true) κ₁ Q)
    (he : eval (.Attribute x n pos) env = (do let o ← eval x env; standAt pos.atName; let r ← holding [o] (getAttr o n true); letTemporaryGo x o r; pure r) := by with_unfolding_all rfl) : WE W A env ρ (.Attribute x n pos) κ Q :=
  fun R s b p S => Attribute_any_ (h.seq b p S fun _ κ₁ s₁ S₁ F₁ h₁ => h₁.seq b trivial S₁ fun v κ₃ s₃ S₃ F₃ q => ⟨κ₃, S₃, F₁.trans F₃, q⟩) he
theorem WE.sub {x i : Expr} (h : WE W A env ρ x κ fun o κ₁ => WE W A env ρ i κ₁ fun j κ₂ => Wp W A T1 (subscriptTail x i o j) κ₂ Q) : WE W A env ρ (.Subscript x i pos) κ Q :=
  fun R s b p S => Subscript_ (h.seq b p S fun _ κ₁ s₁ S₁ F₁ h₁ => h₁.seq b p S₁ fun _ κ₂ s₂ S₂ F₂ h₂ => h₂.seq b trivial S₂ fun v κ₃ s₃ S₃ F₃ q => ⟨κ₃, S₃, (F₁.trans F₂).trans F₃, q⟩)

/-! calls -/
/-- what may be called: its kind is read off the base -/
def Callee (W : Wd) (f : PySem.Value) : Prop := ∀ (κ R : PM) (h : Heap), W.kB.le R → Sat κ R h → ∃ k, (k = Keeper.frame ∨ k = Keeper.machine ∨ k = Keeper.boundFrame) ∧ Looks W.M h (keeperOf f) k
theorem Callee.ref {a : Addr} (h : keepIn (KF W.w.params) (.ref a) = true) : Callee W (.ref a) := fun κ R g b S => keeps_K h g (W.inK b S)
theorem Callee.type {T : String} : Callee W (.type T) := fun κ R g b S => ⟨.machine, .inr (.inl rfl), Looks.of_pure rfl⟩
theorem Callee.builtin {T : String} : Callee W (.builtin T) := fun κ R g b S => ⟨.machine, .inr (.inl rfl), Looks.of_pure rfl⟩

theorem call_with {f : PySem.Value} {first : List PySem.Value} {e : Expr} {r : List Expr} (C : Callee W f) (h : WArgs W A env ρ pos (e :: r) κ fun vs κ₁ => Wp W A T1 (call f (first ++ vs)) κ₁ Q)
    (he : starEach (e :: r) env = (false, eval e env) :: starEach r env := by rfl) (hp : (backTo pos (starEach r env)).any (·.1) = false := by rfl) :
    Wp W A (FrameIs env ρ) (callWith pos f first (backTo pos (starEach (e :: r) env)) []) κ Q := by
  intro R s b p S
  unfold WArgs at h
  rw [he] at h ⊢
  refine callWith_of (P := fun g => ∃ κ', Sat κ' R g) (by show ((false || (backTo pos (starEach r env)).any (·.1)) || false) = false; rw [hp]; rfl) (fun g ⟨κ', S'⟩ => C κ' R g b S') (evalArgs_plain ?_)
  exact h.seq b p S fun vs κ₁ s₁ S₁ F₁ h₁ => ⟨⟨κ₁, S₁⟩, h₁.seq b trivial S₁ fun v κ₂ s₂ S₂ F₂ q => ⟨κ₂, S₂, F₁.trans F₂, q⟩⟩
theorem call_with0 {f : PySem.Value} {first : List PySem.Value} (C : Callee W f) (h : Wp W A T1 (call f (first ++ [])) κ Q) :
    Wp W A (FrameIs env ρ) (callWith pos f first (backTo pos (starEach [] env)) []) κ Q := by
  intro R s b p S
  exact callWith_of (P := fun g => ∃ κ', Sat κ' R g) rfl (fun g ⟨κ', S'⟩ => C κ' R g b S') (evalArgs_nil3 ⟨⟨κ, S⟩, h.seq b trivial S fun v κ₂ s₂ S₂ F₂ q => ⟨κ₂, S₂, F₂, q⟩⟩)

theorem WE.call {f : Expr} {es : List Expr} (h : WE W A env ρ f κ fun g κ₁ => Wp W A (FrameIs env ρ) (callWith pos g [] (backTo pos (starEach es env)) []) κ₁ Q)
    (he : eval (.Call f es [] pos) env = (do callWith pos (← eval f env) [] (backTo pos (starEach es env)) (backToKw pos (keywordEach [] env))) := by rfl) : WE W A env ρ (.Call f es [] pos) κ Q :=
  fun R s b p S => Call_ (h.seq b p S fun _ κ₁ s₁ S₁ F₁ h₁ => h₁.seq b p S₁ fun v κ₃ s₃ S₃ F₃ q => ⟨κ₃, S₃, F₁.trans F₃, q⟩) he
theorem WE.meth {o : Expr} {n : Str} {apos : Pos} {es : List Expr} {pl : Sem Bool} (h : WE W A env ρ o κ fun ov κ₁ => Wp W A T1 (getMethod ov n pl) κ₁ fun fx κ₂ =>
      Wp W A (FrameIs env ρ) (callWith pos fx.1 fx.2 (backTo pos (starEach es env)) []) κ₂ Q)
    (he : eval (.Call (.Attribute o n apos) es [] pos) env = (do let ov ← eval o env; standAt apos.atName; let (f, first) ← holding [ov] (getMethod ov n pl); callWith pos f first (backTo pos (starEach es env)) []) := by rfl) :
    WE W A env ρ (.Call (.Attribute o n apos) es [] pos) κ Q :=
  fun R s b p S => MethodCall_ (h.seq b p S fun _ κ₁ s₁ S₁ F₁ h₁ => h₁.seq b trivial S₁ fun fx κ₂ s₂ S₂ F₂ h₂ => h₂.seq b p S₂ fun v κ₃ s₃ S₃ F₃ q => ⟨κ₃, S₃, (F₁.trans F₂).trans F₃, q⟩) he
end
end Mine
end
section
open PySem PySem.W PySem.Calls PyProof.Rows
set_option maxRecDepth 100000
set_option maxHeartbeats 1000000
set_option linter.unusedVariables false
namespace Mine

/-- a function's own frame, written by it alone -/
structure FrameW (env : Env) (ρ : Loc) (φ : PM) : Prop where
  ok : EnvOk env
  nd : (env.scope.names.map (·.1)).Nodup
  rd : ∀ (i : Nat) x k v, env.scope.names[i]? = some (x, k) → ρ[i]? = some (some v) → Rd env φ x v
  L : ∃ o es ep, φ env.locals = some o ∧ o.data = .dict es ep ∧ StrKeys es
  C : ∀ (i : Nat) x, env.scope.names[i]? = some (x, .cell) → ∃ c o ov, env.cells.lookup x = some c ∧ φ c = some o ∧ o.data = .cell ov
  inj : ∀ x y c, env.cells.lookup x = some c → env.cells.lookup y = some c → x = y
  off : ∀ x c, env.cells.lookup x = some c → c ≠ env.locals

theorem FrameW.is {env : Env} {ρ : Loc} {φ R : PM} (f : FrameW env ρ φ) : FrameIs env ρ (un φ R) := ⟨f.ok, fun i x k v e g => (f.rd i x k v e g).le fun b o e => un_left e⟩

theorem lookup_of_get {l : List (Str × NameKind)} (nd : (l.map (·.1)).Nodup) {i : Nat} {x : Str} {k : NameKind} (h : l[i]? = some (x, k)) : l.lookup x = some k := by
  induction l generalizing i with
  | nil => simp at h
  | cons p r ih =>
    obtain ⟨y, ky⟩ := p
    simp only [List.map_cons, List.nodup_cons] at nd
    cases i with
    | zero => simp at h; obtain ⟨rfl, rfl⟩ := h; simp
    | succ i =>
      simp at h
      have hm : x ∈ r.map (·.1) := List.mem_map.mpr ⟨(x, k), List.mem_of_getElem? h, rfl⟩
      have : (x == y) = false := by
        cases q : x == y with
        | false => rfl
        | true => rw [beq_iff_eq.mp q] at hm; exact absurd hm nd.1
      rw [List.lookup_cons, this]
      exact ih nd.2 h
theorem name_inj {l : List (Str × NameKind)} (nd : (l.map (·.1)).Nodup) {i j : Nat} {x : Str} {k k' : NameKind} (h : l[i]? = some (x, k)) (g : l[j]? = some (x, k')) : i = j := by
  have h1 : (l.map (·.1))[i]? = some x := by simp [h]
  have h2 : (l.map (·.1))[j]? = some x := by simp [g]
  have hi := (List.getElem?_eq_some_iff.mp h1).1
  have hj := (List.getElem?_eq_some_iff.mp h2).1
  exact (List.getElem_inj nd).mp (by rw [(List.getElem?_eq_some_iff.mp h1).2, (List.getElem?_eq_some_iff.mp h2).2])

theorem un_put {φ R : PM} {a : Addr} {o o' : Obj} (h : φ a = some o) : un (φ.put a o') R = (un φ R).put a o' := by
  funext b
  unfold un PM.put
  by_cases q : b = a
  · subst q; simp
  · simp [q]
theorem Sat.updR {κ φ R : PM} {h h' : Heap} (S : Sat κ (un φ R) h) {a : Addr} {o o' : Obj} (ha : φ a = some o) (hs : Heap.SameBut a h h') (ho : h'.get? a = some o') : Sat κ (un (φ.put a o') R) h' := by
  rw [un_put ha]
  refine ⟨fun b ob e => ?_, fun b ob e => ?_, fun b ob e => ?_⟩
  · have : b ≠ a := fun q => by have := S.d _ _ e; rw [q, un_left ha] at this; cases this
    exact (hs.2 b this).trans (S.k _ _ e)
  · by_cases q : b = a
    · subst q; rw [PM.put_self] at e; cases e; exact ho
    · rw [PM.put_ne _ _ q] at e; exact (hs.2 b q).trans (S.r _ _ e)
  · have : b ≠ a := fun q => by have := S.d _ _ e; rw [q, un_left ha] at this; cases this
    rw [PM.put_ne _ _ this]; exact S.d _ _ e
theorem Dj.put {φ R : PM} (d : Dj φ R) {a : Addr} {o o' : Obj} (h : φ a = some o) : Dj (φ.put a o') R := fun b ob e => by
  by_cases q : b = a
  · subst q; exact d _ _ h
  · rw [PM.put_ne _ _ q] at e; exact d _ _ e

section
variable {W : Wd} {A : Around} {env : Env} {ρ : Loc} {κ φ R : PM} {s : Shared}

theorem store_frame (i : Nat) {x : Str} {k : NameKind} {v : PySem.Value} (f : FrameW env ρ φ) (d : Dj φ R) (S : Sat κ (un φ R) s.heap) (hx : env.scope.names[i]? = some (x, k)) (hk : k = .local ∨ k = .cell) {Q' : Unit → Shared → Prop}
    {E : PySem.Value → Shared → Prop}
    (h : ∀ φ' h' tk, Dj φ' R → FrameW env (ρ.set i (some v)) φ' → Sat κ (un φ' R) h' → Q' () { s with heap := h', toks := tk }) : wpAny W.M A (storeName env x v) Q' E s := by
  have hl := lookup_of_get f.nd hx
  have fresh : ∀ (j : Nat) y k' u, env.scope.names[j]? = some (y, k') → (ρ.set i (some v))[j]? = some (some u) → (j = i ∧ u = v) ∨ (j ≠ i ∧ y ≠ x ∧ ρ[j]? = some (some u)) := by
    intro j y k' u hy hu
    by_cases q : j = i
    · subst q
      rw [List.getElem?_set_self'] at hu
      cases e : ρ[j]? with
      | none => rw [e] at hu; simp at hu
      | some z => rw [e] at hu; simp at hu; exact .inl ⟨rfl, hu.symm⟩
    · rw [List.getElem?_set_ne (Ne.symm q)] at hu
      exact .inr ⟨q, fun e => q (name_inj f.nd (e ▸ hy) hx), hu⟩
  rcases hk with rfl | rfl
  · obtain ⟨o, es, ep, ho, hd, hks⟩ := f.L
    have hn : s.heap.Ns env.locals (fun y => nsFind es y) := ⟨o, es, ep, S.r _ _ (un_left ho), hd, hks, fun _ => rfl⟩
    refine wpAny_storeName_local hl hn (fun h' hn' hs' => ?_) (by rw [f.ok.k]; rfl)
    obtain ⟨o', es', ep', ho', hd', hks', hf'⟩ := hn'
    refine h (φ.put env.locals o') h' _ (d.put ho) ⟨f.ok, f.nd, fun j y k' u hy hu => ?_, ⟨o', es', ep', PM.put_self .., hd', hks'⟩, fun j y hy => ?_, f.inj, f.off⟩ (S.updR ho hs' ho')
    · rcases fresh j y k' u hy hu with ⟨rfl, rfl⟩ | ⟨q, hyx, hu'⟩
      · rw [hx] at hy; cases hy
        exact .inl ⟨hl, o', PM.put_self .., es', ep', hd', hks', by rw [hf']; simp⟩
      · rcases f.rd j y k' u hy hu' with ⟨a, ob, hob, es₂, ep₂, c1, c2, c3⟩ | ⟨a, c, ob, e1, e2, e3⟩
        · rw [ho] at hob; cases hob
          rw [hd] at c1; cases c1
          exact .inl ⟨a, o', PM.put_self .., es', ep', hd', hks', by rw [hf']; simp [hyx, c3]⟩
        · exact .inr ⟨a, c, ob, e1, by rw [PM.put_ne _ _ (f.off _ _ e1)]; exact e2, e3⟩
    · obtain ⟨c, ob, ov, e1, e2, e3⟩ := f.C j y hy
      exact ⟨c, ob, ov, e1, by rw [PM.put_ne _ _ (f.off _ _ e1)]; exact e2, e3⟩
  · obtain ⟨c, o, ov, hc, ho, hd⟩ := f.C i x hx
    refine wpAny_storeName_cell f.ok.k hl hc ⟨o, S.r _ _ (un_left ho), hd⟩ fun h' hv' hs' => ?_
    obtain ⟨o', ho', hd'⟩ := hv'
    obtain ⟨oL, es, ep, hoL, hdL, hks⟩ := f.L
    have hLc : env.locals ≠ c := Ne.symm (f.off _ _ hc)
    refine h (φ.put c o') h' _ (d.put ho) ⟨f.ok, f.nd, fun j y k' u hy hu => ?_, ⟨oL, es, ep, by rw [PM.put_ne _ _ hLc]; exact hoL, hdL, hks⟩, fun j y hy => ?_, f.inj, f.off⟩ (S.updR ho hs' ho')
    · rcases fresh j y k' u hy hu with ⟨rfl, rfl⟩ | ⟨q, hyx, hu'⟩
      · rw [hx] at hy; cases hy
        exact .inr ⟨.inl hl, c, o', hc, PM.put_self .., hd'⟩
      · rcases f.rd j y k' u hy hu' with ⟨a, ob, hob, r⟩ | ⟨a, c', ob, e1, e2, e3⟩
        · exact .inl ⟨a, ob, by rw [PM.put_ne _ _ hLc]; exact hob, r⟩
        · have : c' ≠ c := fun e => hyx (f.inj _ _ _ (e ▸ e1) hc)
          exact .inr ⟨a, c', ob, e1, by rw [PM.put_ne _ _ this]; exact e2, e3⟩
    · obtain ⟨c', ob, ov', e1, e2, e3⟩ := f.C j y hy
      by_cases q : c' = c
      · subst q
        exact ⟨c', o', _, e1, PM.put_self .., hd'⟩
      · exact ⟨c', ob, ov', e1, by rw [PM.put_ne _ _ q]; exact e2, e3⟩
end

/-- statements: the frame's names turn -/
def WS (W : Wd) (A : Around) (env : Env) (ρ : Loc) {α : Type} (t : Sem α) (κ : PM) (Q : α → Loc → PM → Prop) : Prop :=
  ∀ (R φ : PM) (s : Shared), W.kB.le R → Dj φ R → FrameW env ρ φ → Sat κ (un φ R) s.heap →
    wpAny W.M A t (fun a s' => ∃ κ' ρ' φ', Dj φ' R ∧ FrameW env ρ' φ' ∧ Sat κ' (un φ' R) s'.heap ∧ Fwd s s' ∧ Q a ρ' κ') (fun _ _ => False) s

abbrev WX (W : Wd) (A : Around) (env : Env) (ρ : Loc) (body : List Stmt) (κ : PM) (Q : Flow → Loc → PM → Prop) : Prop := WS W A env ρ (execs body env) κ Q
section
variable {W : Wd} {A : Around} {env : Env} {ρ : Loc} {κ : PM} {α β : Type} {t : Sem α} {pos : Pos}
theorem WS.seq {Q₁ : α → Loc → PM → Prop} {Q' : α → Shared → Prop} {R φ : PM} {s : Shared} (h : WS W A env ρ t κ Q₁) (b : W.kB.le R) (d : Dj φ R) (f : FrameW env ρ φ) (S : Sat κ (un φ R) s.heap)
    (k : ∀ v κ' ρ' φ' s', Dj φ' R → FrameW env ρ' φ' → Sat κ' (un φ' R) s'.heap → Fwd s s' → Q₁ v ρ' κ' → Q' v s') {E : PySem.Value → Shared → Prop} : wpAny W.M A t Q' E s :=
  wpAny_mono (h R φ s b d f S) (fun v s' ⟨κ', ρ', φ', d', f', S', F, q⟩ => k v κ' ρ' φ' s' d' f' S' F q) (fun _ _ x => x.elim)
theorem WS.mono {Q Q' : α → Loc → PM → Prop} (h : WS W A env ρ t κ Q) (k : ∀ v ρ' κ', Q v ρ' κ' → Q' v ρ' κ') : WS W A env ρ t κ Q' :=
  fun R φ s b d f S => h.seq b d f S fun v κ' ρ' φ' s' d' f' S' F q => ⟨κ', ρ', φ', d', f', S', F, k _ _ _ q⟩
/-- an expression within a statement -/
theorem WS.expr {Q : α → Loc → PM → Prop} (h : Wp W A (FrameIs env ρ) t κ fun v κ' => Q v ρ κ') : WS W A env ρ t κ Q :=
  fun R φ s b d f S => h.seq (b.trans (un_le d)) f.is S fun v κ' s' S' F q => ⟨κ', ρ, φ, d, f, S', F, q⟩
theorem Wp.seqS {Q₁ : α → PM → Prop} {Q' : α → Shared → Prop} {R φ : PM} {s : Shared} (h : Wp W A (FrameIs env ρ) t κ Q₁) (b : W.kB.le R) (d : Dj φ R) (f : FrameW env ρ φ) (S : Sat κ (un φ R) s.heap)
    (k : ∀ v κ' s', Sat κ' (un φ R) s'.heap → Fwd s s' → Q₁ v κ' → Q' v s') {E : PySem.Value → Shared → Prop} : wpAny W.M A t Q' E s := h.seq (b.trans (un_le d)) f.is S k
theorem Wp.seqT {Q₁ : α → PM → Prop} {Q' : α → Shared → Prop} {R φ : PM} {s : Shared} (h : Wp W A T1 t κ Q₁) (b : W.kB.le R) (d : Dj φ R) (S : Sat κ (un φ R) s.heap)
    (k : ∀ v κ' s', Sat κ' (un φ R) s'.heap → Fwd s s' → Q₁ v κ' → Q' v s') {E : PySem.Value → Shared → Prop} : wpAny W.M A t Q' E s := h.seq (b.trans (un_le d)) trivial S k

variable {Q : Flow → Loc → PM → Prop}
theorem WX.nil (h : Q .next ρ κ) : WX W A env ρ [] κ Q := fun R φ s b d f S => wpAny_execs_nil ⟨κ, ρ, φ, d, f, S, .of, h⟩
theorem WX.cons {st : Stmt} {r : List Stmt} (h : WS W A env ρ (exec st env) κ fun fl ρ' κ' => match fl with | .next => WX W A env ρ' r κ' Q | fl => Q fl ρ' κ') : WX W A env ρ (st :: r) κ Q := by
  intro R φ s b d f S
  refine wpAny_execs_cons (h.seq b d f S fun fl κ' ρ' φ' s' d' f' S' F q => ?_)
  cases fl with
  | next => exact WS.seq q b d' f' S' fun v κ'' ρ'' φ'' s'' d'' f'' S'' F' q' => ⟨κ'', ρ'', φ'', d'', f'', S'', F.trans F', q'⟩
  | brk => exact ⟨κ', ρ', φ', d', f', S', F, q⟩
  | cont => exact ⟨κ', ρ', φ', d', f', S', F, q⟩
  | ret v => exact ⟨κ', ρ', φ', d', f', S', F, q⟩

theorem WS.ret {e : Expr} (h : WE W A env ρ e κ fun v κ' => Q (.ret v) ρ κ') : WS W A env ρ (exec (.Return (some e) pos) env) κ Q :=
  fun R φ s b d f S => wpAny_Return_some (h.seqS b d f S fun v κ' s' S' F q => ⟨κ', ρ, φ, d, f, S', F, q⟩)
theorem WS.ret0 (h : Q (.ret .none) ρ κ) : WS W A env ρ (exec (.Return none pos) env) κ Q :=
  fun R φ s b d f S => wpAny_Return_none ⟨κ, ρ, φ, d, f, S, .of, h⟩
theorem WS.assign (i : Nat) {x : Str} {k : NameKind} {e : Expr} {p : Pos} (hx : env.scope.names[i]? = some (x, k)) (hk : k = .local ∨ k = .cell) (h : WE W A env ρ e κ fun v κ' => Q .next (ρ.set i (some v)) κ')
    (hs : swapsWith e (some (.Name x p)) pos.line env = pure false := by rfl) : WS W A env ρ (exec (.Assign [.Name x p] e pos) env) κ Q :=
  fun R φ s b d f S => wpAny_Assign_Name (h.seqS b d f S fun v κ' s' S' F q => store_frame i f d S' hx hk fun φ' h' tk d' f' S'' => ⟨κ', _, φ', d', f', S'', F.trans .of, q⟩) hs
theorem WS.aug (i : Nat) {x : Str} {k : NameKind} {e : Expr} {p : Pos} {op : Operator} {old : PySem.Value} (hx : env.scope.names[i]? = some (x, k)) (hk : k = .local ∨ k = .cell) (hv : ρ[i]? = some (some old))
    (h : WE W A env ρ e κ fun v κ' => Wp W A T1 (inplaceOp op old v) κ' fun u κ'' => Q .next (ρ.set i (some u)) κ'') (hc : (x == ("__classdict__" : Str)) = false := by decide) :
    WS W A env ρ (exec (.AugAssign (.Name x p) op e pos) env) κ Q :=
  fun R φ s b d f S => wpAny_AugAssign_Name (rd_eval f.ok S ((f.is (R := R)).rd i x k old hx hv) (h.seqS b d f S fun v κ' s' S' F h₁ => h₁.seqT b d S' fun u κ'' s'' S'' F' q =>
    store_frame i f d S'' hx hk fun φ' h' tk d' f' S₃ => ⟨κ'', _, φ', d', f', S₃, (F.trans F').trans .of, q⟩) hc)
theorem WS.if {t : Expr} {x y : List Stmt} (h : WT W A env ρ t κ fun c κ₁ => if c = true then WX W A env ρ x κ₁ Q else WX W A env ρ y κ₁ Q) : WS W A env ρ (exec (.If t x y pos) env) κ Q := by
  intro R φ s b d f S
  refine wpAny_If (h.seqS b d f S fun c κ₁ s₁ S₁ F₁ h₁ => ?_)
  cases c
  · exact WS.seq h₁ b d f S₁ fun v κ'' ρ'' φ'' s'' d'' f'' S'' F' q' => ⟨κ'', ρ'', φ'', d'', f'', S'', F₁.trans F', q'⟩
  · exact WS.seq h₁ b d f S₁ fun v κ'' ρ'' φ'' s'' d'' f'' S'' F' q' => ⟨κ'', ρ'', φ'', d'', f'', S'', F₁.trans F', q'⟩
theorem WS.assert {t : Expr} {m : Option Expr} (h : WT W A env ρ t κ fun c κ₁ => c = true ∧ Q .next ρ κ₁) : WS W A env ρ (exec (.Assert t m pos) env) κ Q :=
  fun R φ s b d f S => wpAny_Assert_holds (h.seqS b d f S fun c κ₁ s₁ S₁ F₁ q => ⟨q.1, κ₁, ρ, φ, d, f, S₁, F₁, q.2⟩)
theorem WS.setattr {o e : Expr} {n : Str} {p : Pos} (h : WE W A env ρ e κ fun v κ₁ => WE W A env ρ o κ₁ fun ov κ₂ => Wp W A T1 (setAttr ov n v) κ₂ fun _ κ₃ => Q .next ρ κ₃)
    (hs : swapsWith e (some (.Attribute o n p)) pos.line env = pure false := by rfl) : WS W A env ρ (exec (.Assign [.Attribute o n p] e pos) env) κ Q :=
  fun R φ s b d f S => plainObj_wpAny_Assign_Attribute (h.seqS b d f S fun v κ₁ s₁ S₁ F₁ h₁ => h₁.seqS b d f S₁ fun ov κ₂ s₂ S₂ F₂ h₂ => h₂.seqT b d S₂ fun _ κ₃ s₃ S₃ F₃ q =>
    ⟨κ₃, ρ, φ, d, f, S₃, (F₁.trans F₂).trans F₃, q⟩) hs
end
end Mine
end
section
open PySem PySem.W PySem.Calls PyProof.Rows
set_option maxRecDepth 100000
set_option maxHeartbeats 1000000
set_option linter.unusedVariables false
namespace Mine

structure FnRec (f : Addr) where
  nm : Str
  qual : Str
  params : Arguments
  body : List Stmt
  sc : Scope
  dV : PySem.Value
  kV : PySem.Value
  doc : PySem.Value
  pm : PySem.Value
  an : Option Addr
  cdv : PySem.Value
  ct : PySem.Value
  od : Option Addr
  sl : Array (Option PySem.Value)
  eq : ∀ P, (KF P).lookup f = some ⟨.type "function", od, .func (fnOf nm qual params body sc dV kV doc pm an cdv ct), sl⟩
@[reducible] def FnRec.fd {f : Addr} (r : FnRec f) : FuncData := fnOf r.nm r.qual r.params r.body r.sc r.dV r.kV r.doc r.pm r.an r.cdv r.ct

def retv : Flow → PySem.Value
  | .ret v => v
  | _ => .none

section
variable {W : Wd} {A : Around} {κ : PM} {Q : PySem.Value → PM → Prop} {n : Nat} {f : Addr} {args : List PySem.Value} {kw : List (Str × PySem.Value)} {binds : List (Str × PySem.Value)}

def BindsOk (W : Wd) (fd : FuncData) (args : List PySem.Value) (kw : List (Str × PySem.Value)) (binds : List (Str × PySem.Value)) : Prop :=
  ∀ (κ R : PM) (s : Shared), W.kB.le R → Sat κ R s.heap → BindsTo s fd ⟨args, kw⟩ binds
theorem BindsOk.eq {fd : FuncData} (h : bindArgs fd ⟨args, kw⟩ = pure binds) : BindsOk W fd args kw binds := fun κ R s b S => BindsTo.of_eq h
theorem BindsOk.dflt {fd : FuncData} {T : Addr} {o : Obj} {items : Array PySem.Value} {m : Nat} {k : Option (Array PySem.Value) → Sem (List (Str × PySem.Value))} (hd : fd.defaults = .ref T) (ho : (KF W.w.params).lookup T = some o) (hs : o.data = .seq items m)
    (h₁ : bindArgs fd ⟨args, kw⟩ = seqItems? fd.defaults >>= k) (h₂ : k (some items) = pure binds) : BindsOk W fd args kw binds := fun κ R s b S => binds_K (W.inK b S) hd ho hs h₁ h₂

/-- a def of the text's, called: its body over a frame of its own -/
theorem Wp.def (r : FnRec f) (a : AOk A n) (hb : BindsOk W r.fd args kw binds) (ρ₀ : Loc) (hρ : r.sc.names.map (fun y => binds.reverse.lookup y.1) = ρ₀)
    (hcd : codeIn (KF W.w.params) r.cdv r.qual = true) (hcell : ∀ x ∈ r.sc.names, x.2 ≠ .cell) (hloc : ∀ x ∈ binds, r.sc.names.lookup x.1 = some .local) (hnd : (r.sc.names.map (·.1)).Nodup)
    (h : ∀ L, WX W (A.deeper (callEnv r.fd L f)) (callEnv r.fd L f) ρ₀ r.body κ fun fl _ κ' => Q (retv fl) κ')
    (hco : r.sc.isCoroutine = false := by rfl) (hgen : r.sc.isGenerator = false := by rfl) (hk : r.sc.kind = .function := by rfl) : Wp W A T1 (PySem.call (.ref f) args kw) κ Q := by
  intro R s b _ S
  have X := W.inK b S
  refine wpAny_call (codeAny_call_def (fd := r.fd) (body := r.body) (binds := binds) a.room (X _ _ (r.eq _)) rfl (W.lim b S) (codeRec_of X hcd) rfl (hb κ R s b S) hcell hloc (fun h₀ hns hk₀ => ?_) hco hgen hk)
  obtain ⟨o, es, ep, hL, hd, hks, hf⟩ := hns
  generalize hLe : s.heap.objs.size = L at hL ⊢
  have hR : R L = none := by
    cases e : R L with
    | none => rfl
    | some o => exact absurd (Heap.lt_size (S.r _ _ e)) (by rw [hLe]; exact Nat.lt_irrefl _)
  have hκ : κ L = none := by
    cases e : κ L with
    | none => rfl
    | some o => exact absurd (Heap.lt_size (S.k _ _ e)) (by rw [hLe]; exact Nat.lt_irrefl _)
  let φ : PM := fun b => if b = L then some o else none
  have hφ : ∀ b o', φ b = some o' → b = L ∧ o' = o := fun b o' e => by
    by_cases q : b = L
    · simp [φ, q] at e; exact ⟨q, e.symm⟩
    · simp [φ, q] at e
  have hφL : φ L = some o := by simp [φ]
  have d : Dj φ R := fun b o' e => by rw [(hφ b o' e).1]; exact hR
  have S' : Sat κ (un φ R) h₀ := by
    refine ⟨fun b o' e => hk₀ _ _ (S.k _ _ e), fun b o' e => ?_, fun b o' e => ?_⟩
    · cases q : φ b with
      | none => rw [un_right q] at e; exact hk₀ _ _ (S.r _ _ e)
      | some o₂ =>
        rw [un_left q] at e; cases e
        obtain ⟨rfl, rfl⟩ := hφ _ _ q
        exact hL
    · have : b ≠ L := fun q => by rw [q, hκ] at e; cases e
      have : φ b = none := by simp [φ, this]
      rw [un_right this]; exact S.d _ _ e
  have fw : FrameW (callEnv r.fd L f) ρ₀ φ := by
    refine ⟨⟨hk, rfl, rfl⟩, hnd, fun i x k v hx hv => ?_, ⟨o, es, ep, hφL, hd, hks⟩, fun i x hx => ?_, fun x y c hc => (nomatch hc), fun x c hc => (nomatch hc)⟩
    · have hx' : r.sc.names[i]? = some (x, k) := hx
      rw [← hρ, List.getElem?_map, hx'] at hv
      simp only [Option.map_some, Option.some.injEq] at hv
      have hm : (x, v) ∈ binds := by
        have := List.lookup_eq_some_iff.mp hv
        obtain ⟨l₁, l₂, e, _⟩ := this
        exact List.mem_reverse.mp (e ▸ by simp)
      exact .inl ⟨hloc _ hm, o, hφL, es, ep, hd, hks, (hf x).trans hv⟩
    · exact absurd rfl (hcell _ (List.mem_of_getElem? hx))
  refine (h L).seq b d fw S' fun fl κ' ρ' φ' s' d' f' S₂ F q => ?_
  have S₃ : Sat κ' R s'.heap := ⟨S₂.k, fun b o e => S₂.r _ _ (un_le d' _ _ e), fun b o e => by
    have := S₂.d _ _ e
    cases e2 : φ' b with
    | none => rw [un_right e2] at this; exact this
    | some o2 => rw [un_left e2] at this; cases this⟩
  cases fl <;> exact ⟨κ', S₃, ⟨F.os, F.gsz, F.gold, F.bare⟩, q⟩
end

/-! instances -/
noncomputable def ownOk (P : Params) (C : Addr) (name : Str) : Bool := plainGet (KF P) C name && hasDictIn (KF P) C && (match findIn (KF P) (.ref C) name with | some a => noGet (KF P) a | none => false)
noncomputable def clsOk (P : Params) (C : Addr) (name : Str) (a : PySem.Value) : Bool := plainGet (KF P) C name && hasDictIn (KF P) C && findIn (KF P) (.ref C) name == some (some a) && specialIn (KF P) a "__get__" == some none && handedIn a && !copiedNames.contains name
noncomputable def methOk (P : Params) (C : Addr) (name : Str) (f : Addr) : Bool := plainGet (KF P) C name && findIn (KF P) (.ref C) name == some (some (.ref f)) && isFn (KF P) (.ref f)

section
variable {W : Wd} {A : Around} {κ : PM} {Q : PySem.Value → PM → Prop} {a C d : Addr} {es : List DictEntry} {n : Nat} {name : Str} {v : PySem.Value}

theorem instAt {R : PM} {h : Heap} (S : Sat κ R h) (hi : κ a = some (instObj C d)) (hd : κ d = some (dictOf es n)) : InstAt h a (instObj C d) C (some (dictOf es n)) := ⟨S.k _ _ hi, rfl, rfl, S.k _ _ hd⟩

theorem Wp.own {x : Bool} (hi : κ a = some (instObj C d)) (hd : κ d = some (dictOf es n)) (ok : ownOk W.w.params C name = true) (hl : getL name es = some (some v)) (hv : handedIn v = true) (h : Q v κ) : Wp W A T1 (getAttr (.ref a) name x) κ Q := by
  intro R s b _ S
  unfold ownOk at ok
  simp only [Bool.and_eq_true] at ok
  obtain ⟨⟨h1, h2⟩, h3⟩ := ok
  split at h3
  · rename_i at_ e
    exact get_value (W.inK b S) (instAt S hi hd) (plainGet_of h1).1 (findObj_own h2 e h3 hl) hv ⟨κ, S, .of, h⟩
  · cases h3
theorem Wp.cls {x : Bool} (hi : κ a = some (instObj C d)) (hd : κ d = some (dictOf es n)) (ok : clsOk W.w.params C name v = true) (hl : getL name es = some none) (h : Q v κ) : Wp W A T1 (getAttr (.ref a) name x) κ Q := by
  intro R s b _ S
  unfold clsOk at ok
  simp only [Bool.and_eq_true, beq_iff_eq, Bool.not_eq_true'] at ok
  obtain ⟨⟨⟨⟨⟨h1, h2⟩, h3⟩, h4⟩, h5⟩, h6⟩ := ok
  exact get_value (W.inK b S) (instAt S hi hd) (plainGet_of h1).1 (findObj_cls h2 h3 h4 h5 h6 hl) h5 ⟨κ, S, .of, h⟩
theorem Wp.method {pl : Sem Bool} {f : Addr} {Q : PySem.Value × List PySem.Value → PM → Prop} (hi : κ a = some (instObj C d)) (hd : κ d = some (dictOf es n)) (ok : methOk W.w.params C name f = true) (hl : getL name es = some none)
    (h : Q (.ref f, [.ref a]) κ) : Wp W A T1 (getMethod (.ref a) name pl) κ Q := by
  intro R s b _ S
  unfold methOk at ok
  simp only [Bool.and_eq_true, beq_iff_eq] at ok
  obtain ⟨⟨h1, h2⟩, h3⟩ := ok
  exact method_fn (W.inK b S) (instAt S hi hd) (plainGet_of h1).1 (plainGet_of h1).2 h2 (beq_iff_eq.mp h3) (by show (lookIn name (dictOf es n)).map _ = _; rw [lookIn_dict, hl]; rfl) ⟨κ, S, .of, h⟩
end

/-! lists -/
section
variable {W : Wd} {A : Around} {κ : PM} {Q : PySem.Value → PM → Prop} {l r : Addr} {xs ys : Array PySem.Value} {n m : Nat}

theorem Wp.addLists (hl : κ l = some (listOf xs n)) (hr : κ r = some (listOf ys m)) (hz : xs.size + ys.size ≤ sizeLine) (h : ∀ a, κ a = none → Q (.ref a) (κ.put a (listOf (xs ++ ys) 0))) : Wp W A T1 (binaryOp .Add (.ref l) (.ref r)) κ Q :=
  fun R s b _ S => PySem.P.add_list (S.k _ _ hl) (S.k _ _ hr) ⟨_, S.push _, .of, h _ S.hole⟩ hz

theorem tooLong_false {k : Nat} (h : k ≤ 1000000) : Builtin.List.listTooLong k = false := by
  unfold Builtin.List.listTooLong
  have hz' : sizeLine = 16777216 := by decide
  simp only [gt_iff_lt, decide_eq_false_iff_not, hz']
  omega
theorem fills_list_iadd : fillsInplaceSlot (.type "list") "add" (Operator.Add == .Add) = pure false := by
  unfold fillsInplaceSlot
  show (typeLookup (.type "list") (dunderI "add") >>= fun fi => pure (fi.isSome && !isSeqSlot fi)) = pure false
  rw [F.slot_list_iadd.lookup]
  show (pure ((some (PySem.Value.builtin "list.__iadd__")).isSome && !isSeqSlot (some (.builtin "list.__iadd__"))) : Sem Bool) = pure false
  rw [show isSeqSlot (some (.builtin "list.__iadd__")) = true from by decide +kernel]
  rfl
theorem Wp.iaddLists (hl : κ l = some (listOf xs n)) (hr : κ r = some (listOf ys m)) (hz : xs.size + ys.size ≤ 1000000) (h : ∀ k, Q (.ref l) (κ.put l (listOf (xs ++ ys) k))) : Wp W A T1 (inplaceOp .Add (.ref l) (.ref r)) κ Q := by
  intro R s b _ S
  have h1 : IsL s.heap l xs n := S.k _ _ hl
  have h2 : IsL s.heap r ys m := S.k _ _ hr
  unfold inplaceOp
  refine wpAny_holding ?_
  refine wpAny_bind (wpAny_typeOf ⟨_, h1, rfl⟩ (wpAny_bind (wpAny_of_eq fills_list_iadd ?_)))
  show wpAny _ A (if false = true then _ else _) _ _ s
  rw [if_neg Bool.false_ne_true]
  refine wpAny_bind (wpAny_binaryOp1_none (nm := "add") ⟨_, h1, rfl⟩ ⟨_, h2, rfl⟩ PySem.noFill_list_add ?_)
  refine wpAny_bind (wpAny_of_eq (PySem.seqSlot_of F.slot_list_iadd.lookup (by decide +kernel)) ?_)
  refine wpAny_bind (wpAny_rule ?_)
  have hz' : sizeLine = 16777216 := by decide
  refine call_meets F.slot_list_iadd ⟨_, h1, rfl⟩ F.entry_list_iadd (F.args_list_iadd_2 _ _)
    (AutoSeq1.list___iadd___list_list_0 l xs n r ys m (by rw [tooLong_false hz]; simp) (by omega) (by omega)) ⟨h1, h2, ?_⟩
  exact ⟨_, S.upd hl (Heap.SameBut.update ..) (h1.update fun x => x ++ ys), .of, h _⟩
end
end Mine
end
section
open PySem PySem.W PySem.Calls PyProof.Rows
set_option maxRecDepth 100000
set_option maxHeartbeats 1000000
set_option linter.unusedVariables false
namespace Mine

theorem PM.le_put {R : PM} {a : Addr} {o : Obj} (h : R a = none) : R.le (R.put a o) := PM.put_fresh h o
theorem Dj.putR {φ R : PM} (d : Dj φ R) {a : Addr} {o : Obj} (h : φ a = none) : Dj φ (R.put a o) := fun b ob e => by
  have : b ≠ a := fun q => by rw [q, h] at e; cases e
  rw [PM.put_ne _ _ this]; exact d _ _ e
theorem Dj.unputR {φ R : PM} {a : Addr} {o : Obj} (d : Dj φ (R.put a o)) (h : R a = none) : Dj φ R := fun b ob e => by
  have := d _ _ e
  by_cases q : b = a
  · rw [q]; exact h
  · rwa [PM.put_ne _ _ q] at this
theorem Dj.off {φ R : PM} {a : Addr} {o : Obj} (d : Dj φ (R.put a o)) : φ a = none := by
  cases e : φ a with
  | none => rfl
  | some o' => have := d _ _ e; rw [PM.put_self] at this; cases this
theorem un_putR {φ R : PM} {a : Addr} {o : Obj} (h : φ a = none) : un φ (R.put a o) = (un φ R).put a o := by
  funext b
  unfold un PM.put
  by_cases q : b = a
  · subst q; simp [h]
  · simp [q]
/-- one more cell for the frame -/
theorem Sat.putR {κ φ R : PM} {h h' : Heap} {a : Addr} {o : Obj} (S : Sat κ (un φ R) h) (hφ : φ a = none) (hκ : κ a = none) (ho : h'.get? a = some o) (k : ∀ b ob, b ≠ a → h.get? b = some ob → h'.get? b = some ob) : Sat κ (un φ (R.put a o)) h' := by
  rw [un_putR hφ]
  refine ⟨fun b ob e => k b ob (PM.ne_of hκ e) (S.k _ _ e), fun b ob e => ?_, fun b ob e => ?_⟩
  · by_cases q : b = a
    · subst q; rw [PM.put_self] at e; cases e; exact ho
    · rw [PM.put_ne _ _ q] at e; exact k b ob q (S.r _ _ e)
  · rw [PM.put_ne _ _ (PM.ne_of hκ e)]; exact S.d _ _ e
theorem Sat.unputR {κ φ R : PM} {h : Heap} {a : Addr} {o : Obj} (S : Sat κ (un φ (R.put a o)) h) (hφ : φ a = none) (hR : R a = none) : Sat κ (un φ R) h ∧ κ a = none ∧ h.get? a = some o := by
  rw [un_putR hφ] at S
  have hu : un φ R a = none := by rw [un_right hφ]; exact hR
  refine ⟨⟨S.k, fun b ob e => S.r _ _ (by rw [PM.put_ne _ _ (PM.ne_of hu e)]; exact e), fun b ob e => ?_⟩, ?_, S.r _ _ (PM.put_self ..)⟩
  · have := S.d _ _ e
    by_cases q : b = a
    · rw [q]; exact hu
    · rwa [PM.put_ne _ _ q] at this
  · cases e : κ a with
    | none => rfl
    | some ob => have := S.d _ _ e; rw [PM.put_self] at this; cases this

section
variable {W : Wd} {A : Around} {env : Env} {ρ : Loc} {κ : PM} {Q : Flow → Loc → PM → Prop} {pos p : Pos}

theorem WS.bindN (i : Nat) {x : Str} {k : NameKind} {v : PySem.Value} {Q : Unit → Loc → PM → Prop} (hx : env.scope.names[i]? = some (x, k)) (hk : k = .local ∨ k = .cell) (h : Q () (ρ.set i (some v)) κ) : WS W A env ρ (PySem.assign (.Name x p) env v) κ Q :=
  fun R φ s b d f S => wpAny_assign_Name (store_frame i f d S hx hk fun φ' h' tk d' f' S' => ⟨κ, _, φ', d', f', S', .of, h⟩)

/-- a loop over any source that walks -/
theorem for_walk {target : Expr} {body orelse : List Stmt} {It : Addr} {fp ls : List Addr} {n : Nat} {P : Nat → PySem.Value → Prop} {St : Nat → Heap → Prop} {ob : Addr → Obj}
    (Wk : Walks PW W.w A It fp [It] n P St) (hfp : ∀ b ∈ fp, b = It ∨ b ∈ ls) (live : ∀ k h, St k h → ∃ o, h.get? It = some o) (I : Nat → Loc → PM → Prop) (hls : ∀ k ρ κ, I k ρ κ → ∀ b ∈ ls, κ b = some (ob b))
    (turn : ∀ k v ρ κ, k < n → P k v → I k ρ κ → WS W A env ρ (PySem.assign target env v) κ fun _ ρ' κ' => WX W A env ρ' body κ' fun fl ρ'' κ'' => match fl with
      | .next => I (k + 1) ρ'' κ''
      | .cont => I (k + 1) ρ'' κ''
      | .brk => Q .next ρ'' κ''
      | .ret v => Q (.ret v) ρ'' κ'')
    (fin : ∀ ρ κ, I n ρ κ → WX W A env ρ orelse κ Q) (ht : ∀ v, letOwnedTupleGo target (.ref It) v = Pure.pure () := by intro _; rfl)
    {R φ : PM} {s : Shared} (b : W.kB.le R) (d : Dj φ R) (f : FrameW env ρ φ) (S : Sat κ (un φ R) s.heap) (hRI : R It = .none) (hφI : φ It = .none) (hκI : κ It = .none) (h0 : St 0 s.heap) (i0 : I 0 ρ κ) :
    codeAny W.M A (.forLoop target (.ref It) body orelse env) (fun r s' => match r with
      | .ok fl => ∃ κ' ρ' φ', Dj φ' R ∧ FrameW env ρ' φ' ∧ Sat κ' (un φ' R) s'.heap ∧ Fwd s s' ∧ Q fl ρ' κ'
      | .error _ => False) s := by
  refine codeAny_forLoop (fun m s' => ∃ k κ ρ φ o, m = n - k ∧ k ≤ n ∧ Dj φ (R.put It o) ∧ FrameW env ρ φ ∧ Sat κ (un φ (R.put It o)) s'.heap ∧ Fwd s s' ∧ St k s'.heap ∧ I k ρ κ) ?_ n ?_ ht
  · rintro m s' ⟨k, κ, ρ, φ, o, rfl, hk, d, f, S, F, hSt, hI⟩
    have hφ := d.off
    obtain ⟨S₀, hκ, hIt⟩ := S.unputR hφ hRI
    by_cases hlt : k < n
    · refine Wk.item k s' _ _ hlt hSt fun v h' tk hP hSt' hkeep => ?_
      obtain ⟨o', ho'⟩ := live _ _ hSt'
      have hkeep' : ∀ b ob, b ≠ It → s'.heap.get? b = some ob → h'.get? b = some ob := fun b ob q e => hkeep b ob (by simpa using q) e
      have d' : Dj φ (R.put It o') := (d.unputR hRI).putR hφ
      have S' : Sat κ (un φ (R.put It o')) h' := S₀.putR hφ hκ ho' hkeep'
      have b' : W.kB.le (R.put It o') := b.trans (PM.le_put hRI)
      have T := turn k v ρ κ hlt hP hI
      refine WS.seq (s := { s' with heap := h', toks := tk }) T b' d' f S' fun _ κ₁ ρ₁ φ₁ s₁ d₁ f₁ S₁ F₁ T₁ => ?_
      refine T₁.seq b' d₁ f₁ S₁ fun fl κ₂ ρ₂ φ₂ s₂ d₂ f₂ S₂ F₂ q => ?_
      have hφ₂ := d₂.off
      obtain ⟨S₃, hκ₂, hIt₂⟩ := S₂.unputR hφ₂ hRI
      have FF : Fwd s s₂ := (F.trans (.of (s := s') (s' := { s' with heap := h', toks := tk }))).trans (F₁.trans F₂)
      have nxt : I (k + 1) ρ₂ κ₂ → ∃ m, m < n - k ∧ ∃ k κ ρ φ o, m = n - k ∧ k ≤ n ∧ Dj φ (R.put It o) ∧ FrameW env ρ φ ∧ Sat κ (un φ (R.put It o)) s₂.heap ∧ Fwd s s₂ ∧ St k s₂.heap ∧ I k ρ κ := fun q => by
        refine ⟨n - (k + 1), by omega, k + 1, κ₂, ρ₂, φ₂, o', rfl, hlt, d₂, f₂, S₂, FF, Wk.frame _ _ _ hSt' fun b hb ob e => ?_, q⟩
        rcases hfp b hb with rfl | hb
        · rw [ho'] at e; cases e; exact hIt₂
        · have e1 := S'.k _ _ (hls _ _ _ hI b hb)
          rw [e1] at e; cases e
          exact S₂.k _ _ (hls _ _ _ q b hb)
      cases fl with
      | next => exact nxt q
      | cont => exact nxt q
      | brk => exact ⟨κ₂, ρ₂, φ₂, d₂.unputR hRI, f₂, S₃, FF, q⟩
      | ret v => exact ⟨κ₂, ρ₂, φ₂, d₂.unputR hRI, f₂, S₃, FF, q⟩
    · have hkn : k = n := by omega
      subst hkn
      refine Wk.done s' _ _ hSt fun h' tk hkeep => ?_
      have S' : Sat κ (un φ R) h' := ⟨fun b ob e => hkeep b ob (by simpa using PM.ne_of hκ e) (S₀.k _ _ e), fun b ob e => hkeep b ob (by simpa using PM.ne_of (by rw [un_right hφ]; exact hRI) e) (S₀.r _ _ e), S₀.d⟩
      refine WS.seq (s := { s' with heap := h', toks := tk }) (fin ρ κ hI) b (d.unputR hRI) f S' fun fl κ₂ ρ₂ φ₂ s₂ d₂ f₂ S₂ F₂ q => ?_
      exact ⟨κ₂, ρ₂, φ₂, d₂, f₂, S₂, (F.trans (.of (s := s') (s' := { s' with heap := h', toks := tk }))).trans F₂, q⟩
  · obtain ⟨o, ho⟩ := live _ _ h0
    exact ⟨0, κ, ρ, φ, o, rfl, Nat.zero_le _, d.putR hφI, f, S.putR hφI hκI ho fun _ _ _ e => e, .of, h0, i0⟩

theorem WS.forL {target iter : Expr} {body : List Stmt} {xs : Array PySem.Value} {m : Nat} (hh : A.handled = .none) (I : Addr → Nat → Loc → PM → Prop)
    (hi : WE W A env ρ iter κ fun v κ₁ => ∃ l, v = .ref l ∧ I l 0 ρ κ₁) (hl : ∀ l k ρ κ, I l k ρ κ → κ l = some (listOf xs m))
    (turn : ∀ l k v ρ κ, xs[k]? = some v → I l k ρ κ → WS W A env ρ (PySem.assign target env v) κ fun _ ρ' κ' => WX W A env ρ' body κ' fun fl ρ'' κ'' => match fl with
      | .next => I l (k + 1) ρ'' κ''
      | .cont => I l (k + 1) ρ'' κ''
      | .brk => Q .next ρ'' κ''
      | .ret v => Q (.ret v) ρ'' κ'')
    (fin : ∀ l ρ κ, I l xs.size ρ κ → Q .next ρ κ) (hs : ∀ x, foldedSetIterable iter env x = Pure.pure x := by intro _; rfl) (ht : ∀ It v, letOwnedTupleGo target (.ref It) v = Pure.pure () := by intro _ _; rfl) :
    WS W A env ρ (exec (.For target iter body [] pos) env) κ Q := by
  intro R φ s b d f S
  refine wpAny_For (hi.seqS b d f S fun v κ₁ s₁ S₁ F₁ q => ?_) hs
  obtain ⟨l, rfl, q⟩ := q
  have hll := hl _ _ _ _ q
  have h1 : s₁.heap.get? l = some (listOf xs m) := S₁.k _ _ hll
  refine wpAny_pyIter_list ⟨_, h1, rfl, m, rfl⟩ ?_
  have hfr := S₁.fresh (get_size_none s₁.heap)
  have hne : l ≠ s₁.heap.objs.size := Nat.ne_of_lt (Heap.lt_size h1)
  have hφ : φ s₁.heap.objs.size = .none := by
    cases e : φ s₁.heap.objs.size with
    | none => rfl
    | some o => have := hfr.2; rw [un_left e] at this; cases this
  have hR : R s₁.heap.objs.size = .none := by have := hfr.2; rwa [un_right hφ] at this
  refine codeAny_mono (for_walk (s := { s₁ with heap := s₁.heap.push { cls := .type "list_iterator", data := .fields #[.ref l, .int 0 0] } }) (ls := [l]) (ob := fun _ => listOf xs m) (Walks.list hh s₁.heap.objs.size l hne xs) (fun b hb => by simpa using hb)
    (fun k h st => let ⟨o, ho, _⟩ := st.1; ⟨o, ho⟩) (I l) (fun k ρ κ hI b hb => by rw [List.mem_singleton.mp hb]; exact hl _ _ _ _ hI) (fun k v ρ κ hk hP hI => turn l k v ρ κ hP hI) (fun ρ κ hI => WX.nil (fin l ρ κ hI)) (ht _) b d f
    (S₁.more fun _ _ e => Heap.get?_push_of_some _ e) hR hφ hfr.1 ⟨⟨_, Heap.get?_push_size _ rfl, rfl, rfl⟩, ⟨_, Heap.get?_push_of_some _ h1, rfl, m, rfl⟩⟩ q) fun r s' hr => ?_
  cases r with
  | ok fl => obtain ⟨κ', ρ', φ', d', f', S', F', q'⟩ := hr; exact ⟨κ', ρ', φ', d', f', S', (F₁.trans .of).trans F', q'⟩
  | error e => exact hr.elim
end
end Mine
end
section
open PySem PySem.W PySem.Calls PyProof.Rows
set_option maxRecDepth 100000
set_option maxHeartbeats 1000000
set_option linter.unusedVariables false
namespace Mine

/-! ## what an instance's dict holds -/
def strOf : PySem.Value → Str
  | .str x _ => x
  | _ => Str.empty

theorem strOf_str (x : Str) (t : Tok) : strOf (.str x t) = x := rfl
structure Dc (P : Params) (names : List Str) (f : Str → Option PySem.Value) (es : List DictEntry) : Prop where
  keys : ∀ e ∈ es, ∃ x t, e.key = .str x t ∧ e.hash = PyData.keyHash P x ∧ x ∈ names
  nd : (es.map fun e => strOf e.key).Nodup
  val : ∀ x, getL x es = some (f x)

theorem getL_none {P : Params} {names : List Str} {es : List DictEntry} (k : ∀ e ∈ es, ∃ x t, e.key = .str x t ∧ e.hash = PyData.keyHash P x ∧ x ∈ names) {x : Str} (hx : x ∉ names) : getL x es = some none := by
  unfold getL
  have h1 : es.find? (·.key.isStr x) = none := by
    rw [List.find?_eq_none]
    intro e he
    obtain ⟨y, t, hk, _, hy⟩ := k e he
    rw [hk]
    simp only [Value.isStr, beq_iff_eq]
    exact fun q => hx (q ▸ hy)
  have h2 : es.any (·.refKey) = false := by
    rw [List.any_eq_false]
    intro e he
    obtain ⟨y, t, hk, _, hy⟩ := k e he
    simp [DictEntry.refKey, hk]
  rw [h1, h2]
  rfl
theorem Dc.none {P : Params} {names : List Str} {f : Str → Option PySem.Value} {es : List DictEntry} (h : Dc P names f es) {x : Str} (hx : x ∉ names) : f x = .none := by
  have := h.val x
  rw [getL_none h.keys hx] at this
  exact (Option.some.inj this).symm
theorem Dc.nil (P : Params) (names : List Str) : Dc P names (fun _ => .none) [] := ⟨fun _ h => (nomatch h), List.nodup_nil, fun _ => rfl⟩

theorem Dc.any {P : Params} {names : List Str} {f : Str → Option PySem.Value} {es : List DictEntry} (h : Dc P names f es) : es.any (·.refKey) = false := by
  rw [List.any_eq_false]
  intro e he
  obtain ⟨y, t, hk, _, hy⟩ := h.keys e he
  simp [DictEntry.refKey, hk]
theorem putL_mem {name : Str} {hsh : Int} {key v : PySem.Value} : ∀ {es : List DictEntry} {e : DictEntry}, e ∈ putL name hsh key v es → (∃ e' ∈ es, e.key = e'.key ∧ e.hash = e'.hash) ∨ (e.key = key ∧ e.hash = hsh)
  | [], e, h => by simp only [putL, List.mem_singleton] at h; subst h; exact .inr ⟨rfl, rfl⟩
  | d :: r, e, h => by
    unfold putL at h
    split at h
    · rcases List.mem_cons.mp h with rfl | h
      · exact .inl ⟨d, .head _, rfl, rfl⟩
      · exact .inl ⟨e, .tail _ h, rfl, rfl⟩
    · rcases List.mem_cons.mp h with rfl | h
      · exact .inl ⟨e, .head _, rfl, rfl⟩
      · rcases putL_mem h with ⟨e', m, q⟩ | q
        · exact .inl ⟨e', .tail _ m, q⟩
        · exact .inr q
theorem putL_keys {name : Str} {hsh : Int} {t : Tok} {v : PySem.Value} : ∀ {es : List DictEntry}, (∀ e ∈ es, ∃ x t, e.key = .str x t) →
    (putL name hsh (.str name t) v es).map (fun e => strOf e.key) = if (es.map fun e => strOf e.key).contains name then es.map fun e => strOf e.key else (es.map fun e => strOf e.key) ++ [name]
  | [], _ => by simp [putL, strOf]
  | d :: r, k => by
    obtain ⟨x, u, hk⟩ := k d (.head _)
    have ih := putL_keys (name := name) (hsh := hsh) (t := t) (v := v) (es := r) fun e he => k e (.tail _ he)
    unfold putL
    by_cases q : x = name
    · subst q
      simp [hk, Value.isStr, strOf]
    · have : d.key.isStr name = false := by rw [hk]; simp only [Value.isStr]; exact beq_eq_false_iff_ne.mpr (fun e => q e)
      rw [this]
      simp only [Bool.false_eq_true, if_false, List.map_cons, ih, hk, strOf_str]
      have e : (x :: List.map (fun e => strOf e.key) r).contains name = (List.map (fun e => strOf e.key) r).contains name := by
        rw [List.contains_cons]
        have : (name == x) = false := beq_eq_false_iff_ne.mpr (fun e => q e.symm)
        rw [this]; rfl
      rw [e]
      split <;> rfl
theorem putL_get {name : Str} {hsh : Int} {t : Tok} {v : PySem.Value} (x : Str) : ∀ {es : List DictEntry}, (∀ e ∈ es, ∃ x t, e.key = .str x t) → es.any (·.refKey) = false →
    (putL name hsh (.str name t) v es).find? (·.key.isStr x) = if x = name then ((putL name hsh (.str name t) v es).find? (·.key.isStr x)) else es.find? (·.key.isStr x)
  | es, k, _ => by
    by_cases q : x = name
    · rw [if_pos q]
    · rw [if_neg q]
      induction es with
      | nil =>
        have : (PySem.Value.str name t).isStr x = false := by simp only [Value.isStr]; exact beq_eq_false_iff_ne.mpr (fun e => q e.symm)
        simp [putL, this]
      | cons d r ih =>
        obtain ⟨y, u, hk⟩ := k d (.head _)
        unfold putL
        split
        · rename_i h
          have e1 : y = name := by rw [hk] at h; simpa [Value.isStr] using h
          have e2 : d.key.isStr x = false := by rw [hk]; simp only [Value.isStr]; exact beq_eq_false_iff_ne.mpr (fun e => q (e ▸ e1))
          simp [e2]
        · rename_i h
          rw [List.find?_cons, List.find?_cons, ih (fun e he => k e (.tail _ he)) (by rename_i h2; simpa using (by simpa using h2 : d.refKey = false ∧ _).2)]
theorem putL_self {name : Str} {hsh : Int} {t : Tok} {v : PySem.Value} : ∀ {es : List DictEntry}, ∃ e, (putL name hsh (.str name t) v es).find? (·.key.isStr name) = some e ∧ e.val = v
  | [] => ⟨_, by simp [putL, Value.isStr]; rfl, rfl⟩
  | d :: r => by
    unfold putL
    split
    · rename_i h; exact ⟨_, by rw [List.find?_cons]; simp [h]; rfl, rfl⟩
    · rename_i h
      obtain ⟨e, he, hv⟩ := putL_self (name := name) (hsh := hsh) (t := t) (v := v) (es := r)
      exact ⟨e, by rw [List.find?_cons]; simp [h, he], hv⟩

def upd (f : Str → Option PySem.Value) (x : Str) (v : PySem.Value) : Str → Option PySem.Value := fun y => if y = x then some v else f y

theorem Dc.put {P : Params} {names : List Str} {f : Str → Option PySem.Value} {es : List DictEntry} (h : Dc P names f es) {x : Str} {t : Tok} {v : PySem.Value} (hx : x ∈ names) :
    Dc P names (upd f x v) (putL x (PyData.keyHash P x) (.str x t) v es) := by
  have k' : ∀ e ∈ es, ∃ x t, e.key = PySem.Value.str x t := fun e he => let ⟨x, t, a, _⟩ := h.keys e he; ⟨x, t, a⟩
  have K : ∀ e ∈ putL x (PyData.keyHash P x) (.str x t) v es, ∃ y t, e.key = .str y t ∧ e.hash = PyData.keyHash P y ∧ y ∈ names := fun e he => by
    rcases putL_mem he with ⟨e', m, q1, q2⟩ | ⟨q1, q2⟩
    · obtain ⟨y, u, a, b, c⟩ := h.keys e' m
      exact ⟨y, u, q1.trans a, q2.trans b, c⟩
    · exact ⟨x, t, q1, q2, hx⟩
  refine ⟨K, ?_, fun y => ?_⟩
  · rw [putL_keys k']
    split
    · exact h.nd
    · rename_i q
      rw [List.nodup_append]
      refine ⟨h.nd, by simp, fun a ha b hb => ?_⟩
      rw [List.mem_singleton.mp hb]
      rintro rfl
      simp at q
      obtain ⟨e, he, q'⟩ := List.mem_map.mp ha
      exact q e he q'
  · have hr : (putL x (PyData.keyHash P x) (.str x t) v es).any (·.refKey) = false := by
      rw [List.any_eq_false]
      intro e he
      obtain ⟨y, t, hk, _⟩ := K e he
      simp [DictEntry.refKey, hk]
    unfold getL upd
    by_cases q : y = x
    · subst q
      obtain ⟨e, he, hv⟩ := putL_self (name := y) (hsh := PyData.keyHash P y) (t := t) (v := v) (es := es)
      rw [he]; simp [hv]
    · rw [putL_get y k' h.any, if_neg q]
      have := h.val y
      unfold getL at this
      rw [h.any] at this
      rw [hr, if_neg q]
      exact this
theorem Dc.len {P : Params} {names : List Str} {f : Str → Option PySem.Value} {es : List DictEntry} (h : Dc P names f es) : es.length ≤ names.length := by
  have : (es.map fun e => strOf e.key).length ≤ names.length := by
    refine List.Nodup.length_le_of_subset h.nd fun x hx => ?_
    obtain ⟨e, he, rfl⟩ := List.mem_map.mp hx
    obtain ⟨y, t, a, _, c⟩ := h.keys e he
    rw [a]; exact c
  simpa using this
end Mine
end
section
open PySem PySem.W PySem.Calls PyProof.Rows
set_option maxRecDepth 100000
set_option maxHeartbeats 1000000
set_option linter.unusedVariables false
namespace Mine

def KN : List Str := ["type", "children", "ident", "prev_sibling_map", "next_sibling_map", "fixers_applied", "parent", "was_changed"]
def KL : List Str := ["_prefix", "lineno", "column", "ident", "type", "value", "fixers_applied", "children", "opening_bracket", "fmt_pass_converted_first_leaf", "bracket_depth", "line_ranges_first_lineno", "line_ranges_selected", "parent", "was_changed"]

/-- an instance of C at a, its dict at d, its own attributes f -/
def Inst (P : Params) (κ : PM) (C : Addr) (names : List Str) (a d : Addr) (f : Str → Option PySem.Value) : Prop := κ a = some (instObj C d) ∧ ∃ es n, κ d = some (dictOf es n) ∧ Dc P names f es
theorem Inst.le {P : Params} {κ κ' : PM} {C : Addr} {names : List Str} {a d : Addr} {f : Str → Option PySem.Value} (h : Inst P κ C names a d f) (l : κ.le κ') : Inst P κ' C names a d f :=
  let ⟨h1, es, n, h2, h3⟩ := h; ⟨l _ _ h1, es, n, l _ _ h2, h3⟩

section
variable {W : Wd} {A : Around} {κ : PM} {Q : PySem.Value → PM → Prop} {C a d : Addr} {names : List Str} {f : Str → Option PySem.Value} {name : Str} {v : PySem.Value}
theorem Inst.own {x : Bool} (h : Inst W.w.params κ C names a d f) (ok : ownOk W.w.params C name = true) (hf : f name = some v) (hv : handedIn v = true) (q : Q v κ) : Wp W A T1 (getAttr (.ref a) name x) κ Q := by
  obtain ⟨h1, es, n, h2, h3⟩ := h
  exact Wp.own h1 h2 ok (by rw [h3.val, hf]) hv q
theorem Inst.cls {x : Bool} (h : Inst W.w.params κ C names a d f) (ok : clsOk W.w.params C name v = true) (hf : f name = none) (q : Q v κ) : Wp W A T1 (getAttr (.ref a) name x) κ Q := by
  obtain ⟨h1, es, n, h2, h3⟩ := h
  exact Wp.cls h1 h2 ok (by rw [h3.val, hf]) q
theorem Inst.method {pl : Sem Bool} {g : Addr} {Q : PySem.Value × List PySem.Value → PM → Prop} (h : Inst W.w.params κ C names a d f) (ok : methOk W.w.params C name g = true) (hn : name ∉ names) (q : Q (.ref g, [.ref a]) κ) : Wp W A T1 (getMethod (.ref a) name pl) κ Q := by
  obtain ⟨h1, es, n, h2, h3⟩ := h
  exact Wp.method h1 h2 ok (by rw [h3.val, h3.none hn]) q
end

/-! ## trees -/
inductive Tr where
  | leaf (a d : Addr) (ty : Int) (val pre : Str)
  | node (a d l : Addr) (ty : Int) (ch : List Tr)
namespace Tr
def addr : Tr → Addr
  | leaf a .. => a
  | node a .. => a
def isLeaf : Tr → Bool
  | leaf .. => true
  | node .. => false
mutual
def ht : Tr → Nat
  | leaf .. => 0
  | node _ _ _ _ ch => htL ch + 1
def htL : List Tr → Nat
  | [] => 0
  | t :: r => max t.ht (htL r)
end
mutual
def pre : Tr → List Addr
  | leaf a .. => [a]
  | node a _ _ _ ch => a :: preL ch
def preL : List Tr → List Addr
  | [] => []
  | t :: r => t.pre ++ preL r
end
mutual
def post : Tr → List Addr
  | leaf a .. => [a]
  | node a _ _ _ ch => postL ch ++ [a]
def postL : List Tr → List Addr
  | [] => []
  | t :: r => t.post ++ postL r
end
end Tr

def ParIs (f : Str → Option PySem.Value) : Option Addr → Prop
  | none => f "parent" = none ∨ f "parent" = some .none
  | some q => f "parent" = some (.ref q)

def WcIs (f : Str → Option PySem.Value) : Prop := f "was_changed" = none ∨ ∃ b, f "was_changed" = some (.bool b)
structure LeafF (κ : PM) (f : Str → Option PySem.Value) (ty : Int) (val pre : Str) (par : Option Addr) : Prop where
  ty : ∃ t, f "type" = some (.int ty t)
  val : ∃ t, f "value" = some (.str val t)
  pre : ∃ t, f "_prefix" = some (.str pre t)
  ch : ∃ l n, f "children" = some (.ref l) ∧ κ l = some (listOf #[] n)
  fx : ∃ l n, f "fixers_applied" = some (.ref l) ∧ κ l = some (listOf #[] n)
  line : ∃ i t, f "lineno" = some (.int i t)
  col : ∃ i t, f "column" = some (.int i t)
  bd : ∃ t, f "bracket_depth" = some (.int 0 t)
  par : ParIs f par
  wc : WcIs f
structure NodeF (κ : PM) (f : Str → Option PySem.Value) (ty : Int) (l : Addr) (cs : List Addr) (par : Option Addr) : Prop where
  ty : ∃ t, f "type" = some (.int ty t)
  ch : f "children" = some (.ref l)
  li : ∃ n, κ l = some (listOf (cs.map PySem.Value.ref).toArray n)
  fx : f "fixers_applied" = some .none
  pm : f "prev_sibling_map" = some .none
  nm : f "next_sibling_map" = some .none
  par : ParIs f par
  wc : WcIs f
theorem LeafF.le {κ κ' : PM} {f : Str → Option PySem.Value} {ty : Int} {val pre : Str} {par : Option Addr} (h : LeafF κ f ty val pre par) (l : κ.le κ') : LeafF κ' f ty val pre par :=
  ⟨h.ty, h.val, h.pre, let ⟨a, n, x, y⟩ := h.ch; ⟨a, n, x, l _ _ y⟩, let ⟨a, n, x, y⟩ := h.fx; ⟨a, n, x, l _ _ y⟩, h.line, h.col, h.bd, h.par, h.wc⟩
theorem NodeF.le {κ κ' : PM} {f : Str → Option PySem.Value} {ty : Int} {lc : Addr} {cs : List Addr} {par : Option Addr} (h : NodeF κ f ty lc cs par) (l : κ.le κ') : NodeF κ' f ty lc cs par :=
  ⟨h.ty, h.ch, let ⟨n, x⟩ := h.li; ⟨n, l _ _ x⟩, h.fx, h.pm, h.nm, h.par, h.wc⟩

mutual
/-- the tree t stands in κ, its parent's address par -/
def At (P : Params) (κ : PM) : Tr → Option Addr → Prop
  | .leaf a d ty val pre, par => ∃ f, Inst P κ 376 KL a d f ∧ LeafF κ f ty val pre par
  | .node a d l ty ch, par => (∃ f, Inst P κ 296 KN a d f ∧ NodeF κ f ty l (ch.map Tr.addr) par) ∧ AtL P κ ch a
def AtL (P : Params) (κ : PM) : List Tr → Addr → Prop
  | [], _ => True
  | t :: r, q => At P κ t (some q) ∧ AtL P κ r q
end
mutual
theorem At.le {P : Params} {κ κ' : PM} (l : κ.le κ') : ∀ {t : Tr} {par : Option Addr}, At P κ t par → At P κ' t par
  | .leaf a d ty val pre, par, h => by
    unfold At at h ⊢
    obtain ⟨f, i, F⟩ := h
    exact ⟨f, i.le l, F.le l⟩
  | .node a d lc ty ch, par, h => by
    unfold At at h ⊢
    obtain ⟨⟨f, i, F⟩, c⟩ := h
    exact ⟨⟨f, i.le l, F.le l⟩, AtL.le l c⟩
theorem AtL.le {P : Params} {κ κ' : PM} (l : κ.le κ') : ∀ {ts : List Tr} {q : Addr}, AtL P κ ts q → AtL P κ' ts q
  | [], _, _ => by unfold AtL; trivial
  | t :: r, q, h => by
    unfold AtL at h ⊢
    exact ⟨At.le l h.1, AtL.le l h.2⟩
end
theorem AtL.get {P : Params} {κ : PM} : ∀ {ts : List Tr} {q : Addr}, AtL P κ ts q → ∀ t ∈ ts, At P κ t (some q)
  | t :: r, q, h, u, hu => by
    unfold AtL at h
    rcases List.mem_cons.mp hu with rfl | hu
    · exact h.1
    · exact AtL.get h.2 u hu
theorem Tr.htL_le : ∀ {ts : List Tr} {t : Tr}, t ∈ ts → t.ht ≤ Tr.htL ts
  | u :: r, t, h => by
    unfold Tr.htL
    rcases List.mem_cons.mp h with rfl | h
    · omega
    · have := Tr.htL_le h; omega
end Mine
end
section
open PySem PySem.W PySem.Calls PyProof.Rows
set_option maxRecDepth 100000
set_option maxHeartbeats 1000000
set_option linter.unusedVariables false
namespace Mine
theorem PM.le.put {κ κ' : PM} (l : κ.le κ') {a : Addr} {o : Obj} (h : κ a = none) : κ.le (κ'.put a o) := fun b ob e => by
  rw [PM.put_ne _ _ (PM.ne_of h e)]; exact l _ _ e

theorem PM.le.none {κ κ' : PM} (l : κ.le κ') {a : Addr} (h : κ' a = .none) : κ a = .none := by
  cases e : κ a with
  | none => rfl
  | some o => rw [l _ _ e] at h; cases h
def Tr.kids : Tr → List Tr
  | .leaf .. => []
  | .node _ _ _ _ ch => ch
def Tr.cls : Tr → Addr
  | .leaf .. => 376
  | .node .. => 296
def Tr.nms : Tr → List Str
  | .leaf .. => KL
  | .node .. => KN
def Tr.dct : Tr → Addr
  | .leaf _ d .. => d
  | .node _ d .. => d
theorem Tr.pre_eq (t : Tr) : t.pre = t.addr :: Tr.preL t.kids := by
  cases t with
  | leaf => unfold Tr.pre Tr.kids Tr.preL; rfl
  | node => unfold Tr.pre; rfl
theorem Tr.post_eq (t : Tr) : t.post = Tr.postL t.kids ++ [t.addr] := by
  cases t with
  | leaf => unfold Tr.post Tr.kids Tr.postL; rfl
  | node => unfold Tr.post; rfl
theorem Tr.preL_append (a b : List Tr) : Tr.preL (a ++ b) = Tr.preL a ++ Tr.preL b := by
  induction a with
  | nil => simp [Tr.preL]
  | cons t r ih => simp [Tr.preL, ih]
theorem Tr.postL_append (a b : List Tr) : Tr.postL (a ++ b) = Tr.postL a ++ Tr.postL b := by
  induction a with
  | nil => simp [Tr.postL]
  | cons t r ih => simp [Tr.postL, ih]
theorem Tr.kid_ht {t c : Tr} (h : c ∈ t.kids) : c.ht < t.ht := by
  cases t with
  | leaf => simp [Tr.kids] at h
  | node a d l ty ch =>
    have := Tr.htL_le (ts := ch) h
    have e : (Tr.node a d l ty ch).ht = Tr.htL ch + 1 := by unfold Tr.ht; rfl
    rw [e]; omega

def Tr.walk (above : Bool) (t : Tr) : List Addr := if above then t.pre else t.post
def Tr.walkL (above : Bool) (ts : List Tr) : List Addr := if above then Tr.preL ts else Tr.postL ts
theorem Tr.walkL_snoc (above : Bool) (a : List Tr) (t : Tr) : Tr.walkL above (a ++ [t]) = Tr.walkL above a ++ t.walk above := by
  cases above <;> simp [Tr.walkL, Tr.walk, Tr.preL_append, Tr.postL_append, Tr.preL, Tr.postL]

theorem AtL.all {P : Params} {κ : PM} : ∀ {ts : List Tr} {q : Addr}, (∀ t ∈ ts, At P κ t (some q)) → AtL P κ ts q
  | [], _, _ => by unfold AtL; trivial
  | t :: r, q, h => by unfold AtL; exact ⟨h t (.head _), AtL.all fun u hu => h u (.tail _ hu)⟩

theorem At.kids {P : Params} {κ : PM} {t : Tr} {par : Option Addr} (h : At P κ t par) :
    ∃ f l m, Inst P κ t.cls t.nms t.addr t.dct f ∧ f "children" = some (.ref l) ∧ κ l = some (listOf ((t.kids.map Tr.addr).map PySem.Value.ref).toArray m) ∧ ParIs f par ∧ ∀ c ∈ t.kids, At P κ c (some t.addr) := by
  cases t with
  | leaf a d ty val pre =>
    unfold At at h
    obtain ⟨f, i, F⟩ := h
    obtain ⟨l, n, h1, h2⟩ := F.ch
    exact ⟨f, l, n, i, h1, h2, F.par, fun c hc => nomatch hc⟩
  | node a d l ty ch =>
    unfold At at h
    obtain ⟨⟨f, i, F⟩, c⟩ := h
    obtain ⟨n, h2⟩ := F.li
    exact ⟨f, l, n, i, F.ch, h2, F.par, AtL.get c⟩

theorem own_children (P : Params) (t : Tr) : ownOk P t.cls "children" = true := by
  cases t
  · show ownOk P 376 "children" = true; kernel_rfl
  · show ownOk P 296 "children" = true; kernel_rfl

mutual
theorem Tr.post_len : ∀ t : Tr, t.post.length = t.pre.length
  | .leaf .. => by unfold Tr.post Tr.pre; rfl
  | .node a d l ty ch => by unfold Tr.post Tr.pre; simp [Tr.postL_len ch]
theorem Tr.postL_len : ∀ ts : List Tr, (Tr.postL ts).length = (Tr.preL ts).length
  | [] => by unfold Tr.postL Tr.preL; rfl
  | t :: r => by unfold Tr.postL Tr.preL; simp [Tr.post_len t, Tr.postL_len r]
end
theorem Tr.walk_len (above : Bool) (t : Tr) : (t.walk above).length = t.pre.length := by cases above <;> simp [Tr.walk, Tr.post_len]
theorem Tr.walkL_len (above : Bool) (ts : List Tr) : (Tr.walkL above ts).length = (Tr.preL ts).length := by cases above <;> simp [Tr.walkL, Tr.postL_len]
theorem Tr.preL_mem_len : ∀ {ts : List Tr} {c : Tr}, c ∈ ts → c.pre.length ≤ (Tr.preL ts).length
  | u :: r, c, h => by
    unfold Tr.preL
    rw [List.length_append]
    rcases List.mem_cons.mp h with rfl | h
    · omega
    · have := Tr.preL_mem_len h; omega
theorem Tr.preL_take_len : ∀ (ts : List Tr) (k : Nat), (Tr.preL (ts.take k)).length ≤ (Tr.preL ts).length
  | [], k => by simp
  | u :: r, 0 => by simp [Tr.preL]
  | u :: r, k + 1 => by
    simp only [List.take_succ_cons]
    unfold Tr.preL
    rw [List.length_append, List.length_append]
    have := Tr.preL_take_len r k; omega
theorem Tr.preL_len_lt (t : Tr) : t.pre.length = (Tr.preL t.kids).length + 1 := by rw [Tr.pre_eq]; rfl

section
variable {W : Wd} {A : Around} {κ : PM} {Q : Bool → PM → Prop}
theorem Wp.truthyBool {b : Bool} (h : Q b κ) : Wp W A T1 (truthy (.bool b)) κ Q := fun R s _ _ S => wpAny_truthy_bool ⟨κ, S, .of, h⟩
end
def rec397 : FnRec 397 := ⟨_, _, _, _, _, _, _, _, _, _, _, _, _, _, fun _ => rfl⟩

theorem g397 (P : Params) : nsIn (KF P) mainGlobals "_law_walk" = some (some (.ref 397)) := by kernel_rfl
theorem k397 (P : Params) : keepIn (KF P) (.ref 397) = true := by kernel_rfl

theorem walk_spec (W : Wd) : ∀ (N : Nat) (t : Tr), t.ht < N → ∀ (A : Around) (κ : PM) (par : Option Addr) (above : Bool) (Q : PySem.Value → PM → Prop), AOk A N → At W.w.params κ t par → t.pre.length ≤ 1000 →
    (∀ r κ' m, κ.le κ' → κ r = none → κ' r = some (listOf ((t.walk above).map PySem.Value.ref).toArray m) → Q (.ref r) κ') → Wp W A T1 (PySem.call (.ref 397) [.ref t.addr, .bool above]) κ Q := by
  intro N
  induction N with
  | zero => intro t h; exact absurd h (Nat.not_lt_zero _)
  | succ N ih =>
    intro t ht A κ par above Q a hat hlen hQ
    obtain ⟨f, l, m, hI, hch, hl, _, hk⟩ := hat.kids
    refine Wp.def rec397 a (BindsOk.eq rfl) [some (.ref t.addr), some (.bool above), none, none, none] rfl (by kernel_rfl) (by decide) (locs rfl) (by decide) fun L => ?_
    refine WX.cons (WS.assign 2 rfl (.inl rfl) (WE.list (WArgs.nil ⟨by decide, fun r hr => ?_⟩)))
    have l0 : κ.le (κ.put r (PySem.W.listOf #[] 0)) := PM.put_fresh hr _
    refine WX.cons (WS.forL (xs := ((t.kids.map Tr.addr).map PySem.Value.ref).toArray) (m := m) (a.deeper _).hh (fun l' k ρ κ' => l' = l ∧ (∃ u, ρ = [some (.ref t.addr), some (.bool above), some (.ref r), u, none]) ∧ κ.le κ' ∧
      ∃ j, κ' r = some (listOf ((Tr.walkL above (t.kids.take k)).map PySem.Value.ref).toArray j)) ?_ ?_ ?_ ?_)
    · refine WE.attr (WE.name 0 rfl rfl ?_)
      exact (hI.le l0).own (own_children _ _) hch rfl ⟨l, rfl, rfl, ⟨_, rfl⟩, l0, 0, by rw [PM.put_self]; cases above <;> simp [Tr.walkL, Tr.preL, Tr.postL]⟩
    · rintro l' k ρ κ' ⟨rfl, _, h, _⟩
      exact h _ _ hl
    · rintro l' k v ρ κ' hv ⟨rfl, ⟨u, rfl⟩, hle, j, hr'⟩
      have hv' : ((t.kids.map Tr.addr).map PySem.Value.ref)[k]? = some v := by simpa using hv
      rw [List.map_map, List.getElem?_map] at hv'
      obtain ⟨c, hc, rfl⟩ := Option.map_eq_some_iff.mp hv'
      have hcm := List.mem_of_getElem? hc
      refine WS.bindN 3 rfl (.inl rfl) (WX.cons (WS.aug 2 rfl (.inl rfl) rfl (WE.call (WE.glob rfl (g397 _) (call_with (.ref (k397 _)) (WArgs.cons (WE.name 3 rfl rfl (WArgs.cons (WE.name 1 rfl rfl (WArgs.nil ?_))))))))))
      refine ih c (by have := Tr.kid_ht hcm; omega) _ κ' _ above _ (a.deeper _) ((hk c hcm).le hle) ?_ fun r₂ κ₂ m₂ hle₂ hr₂ hl₂ => ?_
      · have := Tr.preL_mem_len hcm; have := t.preL_len_lt; omega
      · refine Wp.iaddLists (hle₂ _ _ hr') hl₂ ?_ fun j' => WX.nil ?_
        · have h1 := Tr.preL_take_len t.kids k; have h2 := Tr.preL_mem_len hcm; have h3 := t.preL_len_lt
          simp only [List.size_toArray, List.length_map, Tr.walkL_len, Tr.walk_len]; omega
        · refine ⟨rfl, ⟨_, rfl⟩, (hle.trans hle₂).put hr, j', ?_⟩
          rw [PM.put_self, List.take_add_one, hc, Option.toList_some, Tr.walkL_snoc]
          simp
    · rintro l' ρ κ' ⟨rfl, ⟨u, rfl⟩, hle, j, hr'⟩
      have hall : t.kids.take ((t.kids.map Tr.addr).map PySem.Value.ref).toArray.size = t.kids := by simp
      rw [hall] at hr'
      refine WX.cons (WS.ret (WE.ifexp (WT.value (WE.name 1 rfl rfl (Wp.truthyBool ?_)))))
      have hz : sizeLine = 16777216 := by decide
      have h3 := t.preL_len_lt
      have nod : ∀ {Q' : PySem.Value → PM → Prop}, (∀ q κ₂, κ'.le κ₂ → κ' q = none → κ₂ q = some (listOf #[.ref t.addr] 0) → Q' (.ref q) κ₂) →
          ∀ {pos p : Pos}, WE W (A.deeper (callEnv rec397.fd L 397)) (callEnv rec397.fd L 397) [some (.ref t.addr), some (.bool above), some (.ref r), u, none] (.List [.Name (Str.ofString "node") p] pos) κ' Q' := fun h pos p =>
        WE.list (WArgs.cons (WE.name 0 rfl rfl (WArgs.nil ⟨by show 1 ≤ sizeLine; decide, fun q hq => h q _ (PM.put_fresh hq _) hq (PM.put_self ..)⟩)))
      cases above with
      | true =>
        refine WE.binop (nod fun q κ₂ l₂ hq hq₂ => WE.name 2 rfl rfl (Wp.addLists hq₂ (l₂ _ _ hr') ?_ fun z hz => hQ _ _ 0 ((hle.trans l₂).trans (PM.put_fresh hz _)) ?_ ?_))
        · simp only [List.size_toArray, List.length_map, Tr.walkL_len]; show 1 + _ ≤ _; omega
        · exact (PM.le.none (hle.trans l₂) hz)
        · rw [PM.put_self]; simp [Tr.walk, Tr.pre_eq, Tr.walkL]
      | false =>
        refine WE.binop (WE.name 2 rfl rfl (nod fun q κ₂ l₂ hq hq₂ => (Wp.addLists (l₂ _ _ hr') hq₂ ?_ fun z hz => hQ _ _ 0 ((hle.trans l₂).trans (PM.put_fresh hz _)) ?_ ?_)))
        · simp only [List.size_toArray, List.length_map, Tr.walkL_len]; show _ + 1 ≤ _; omega
        · exact (PM.le.none (hle.trans l₂) hz)
        · rw [PM.put_self]; simp [Tr.walk, Tr.post_eq, Tr.walkL]
end Mine
end
section
open PySem PySem.W PySem.Calls PyProof.Rows
set_option maxRecDepth 100000
set_option maxHeartbeats 1000000
set_option linter.unusedVariables false
namespace Mine

/-- the frame of a comprehension: its own dict, its own cell if its name is caught -/
structure CF (cenv : Env) (x : Str) (φ : PM) : Prop where
  L : ∃ o es ep, φ cenv.locals = some o ∧ o.data = .dict es ep ∧ StrKeys es
  X : cenv.kindOf x = some .local ∨ (cenv.kindOf x = some .cell ∧ ∃ c o ov, cenv.cells.lookup x = some c ∧ φ c = some o ∧ o.data = .cell ov ∧ c ≠ cenv.locals)

section
variable {W : Wd} {A : Around} {env cenv : Env} {ρ : Loc} {κ φ R : PM} {s : Shared}
theorem CF.store {x : Str} {v : PySem.Value} (k : cenv.scope.kind = .function) (f : CF cenv x φ) (d : Dj φ R) (S : Sat κ (un φ R) s.heap) {Q' : Unit → Shared → Prop} {E : PySem.Value → Shared → Prop}
    (h : ∀ φ' h' tk, Dj φ' R → CF cenv x φ' → Rd cenv φ' x v → Sat κ (un φ' R) h' → Q' () { s with heap := h', toks := tk }) : wpAny W.M A (storeName cenv x v) Q' E s := by
  obtain ⟨⟨o, es, ep, ho, hd, hks⟩, X⟩ := f
  rcases X with hl | ⟨hl, c, oc, ov, hc, hoc, hdc, hne⟩
  · have hn : s.heap.Ns cenv.locals (fun y => nsFind es y) := ⟨o, es, ep, S.r _ _ (un_left ho), hd, hks, fun _ => rfl⟩
    refine wpAny_storeName_local hl hn (fun h' hn' hs' => ?_) (by rw [k]; rfl)
    obtain ⟨o', es', ep', ho', hd', hks', hf'⟩ := hn'
    exact h (φ.put cenv.locals o') h' _ (d.put ho) ⟨⟨o', es', ep', PM.put_self .., hd', hks'⟩, .inl hl⟩ (.inl ⟨hl, o', PM.put_self .., es', ep', hd', hks', by rw [hf']; simp⟩) (S.updR ho hs' ho')
  · refine wpAny_storeName_cell k hl hc ⟨oc, S.r _ _ (un_left hoc), hdc⟩ fun h' hv' hs' => ?_
    obtain ⟨o', ho', hd'⟩ := hv'
    exact h (φ.put c o') h' _ (d.put hoc) ⟨⟨o, es, ep, by rw [PM.put_ne _ _ (Ne.symm hne)]; exact ho, hd, hks⟩, .inr ⟨hl, c, o', _, hc, PM.put_self .., hd', hne⟩⟩ (.inr ⟨.inl hl, c, o', hc, PM.put_self .., hd'⟩) (S.updR hoc hs' ho')
end

/-- the tests of a clause -/
def tests (ifs : List Expr) (env : Env) : Sem Bool := forIn ifs true fun c r => if r = true then do let ok ← isTrue c env (eval c env); pure (ForInStep.yield ok) else pure (ForInStep.yield r)
section
variable {W : Wd} {A : Around} {env : Env} {ρ : Loc} {κ : PM} {Q : Bool → PM → Prop}
theorem tests0 (h : Q true κ) : Wp W A (FrameIs env ρ) (tests [] env) κ Q := by
  unfold tests; rw [List.forIn_nil]; exact Wp.pure h
theorem tests1 {c : Expr} (h : WT W A env ρ c κ Q) : Wp W A (FrameIs env ρ) (tests [c] env) κ Q := by
  unfold tests
  rw [List.forIn_cons]
  simp only [if_true]
  refine Wp.bind (Wp.bind (Wp.mono h fun b κ' q => ?_))
  refine Wp.pure ?_
  show Wp W A _ (forIn [] b _) κ' Q
  rw [List.forIn_nil]
  exact Wp.pure q
end

section
variable {W : Wd} {A : Around} {env cenv : Env} {ρc : Loc} {κ : PM}

theorem Sat.drop {κ φ R : PM} {h : Heap} (S : Sat κ (un φ R) h) (d : Dj φ R) : Sat κ R h := ⟨S.k, fun b o e => S.r _ _ (un_le d _ _ e), fun b o e => by
  have := S.d _ _ e
  cases e2 : φ b with
  | none => rw [un_right e2] at this; exact this
  | some o2 => rw [un_left e2] at this; cases this⟩

theorem comp_walk {elt iter : Expr} {x : Str} {px : Pos} {ifs : List Expr} {scope : Scope} {pos : Pos} {It D : Addr} {fp ls : List Addr} {n jx : Nat} {kx : NameKind} {P : Nat → PySem.Value → Prop} {St : Nat → Heap → Prop} {ob : Addr → Obj}
    (Wk : Walks PW W.w A It fp [It] n P St) (hfp : ∀ b ∈ fp, b = It ∨ b ∈ ls) (live : ∀ k h, St k h → ∃ o, h.get? It = some o) (I : Nat → List PySem.Value → PM → Prop) (hls : ∀ k ys κ, I k ys κ → ∀ b ∈ ls, κ b = some (ob b)) (hz : n ≤ sizeLine)
    (ok : EnvOk cenv) (hx : cenv.scope.names[jx]? = some (x, kx)) (hnd : (cenv.scope.names.map (·.1)).Nodup)
    (turn : ∀ k v ys κ, k < n → P k v → I k ys κ → Wp W A (FrameIs cenv (ρc.set jx (some v))) (tests ifs cenv) κ fun t κ₁ => if t = true then WE W A cenv (ρc.set jx (some v)) elt κ₁ fun y κ₂ => I (k + 1) (ys ++ [y]) κ₂ else I (k + 1) ys κ₁)
    {RR : Result → Shared → Prop} {R φ : PM} {s : Shared} (b : W.kB.le R) (cap : ∀ j y k u, cenv.scope.names[j]? = some (y, k) → j ≠ jx → ρc[j]? = some (some u) → Rd cenv R y u)
    (d : Dj φ R) (f : CF cenv x φ) (S : Sat κ (un φ R) s.heap) (hRI : R It = .none) (hφI : φ It = .none) (hκI : κ It = .none) (hRD : R D = .none) (hφD : φ D = .none) (hκD : κ D = .none) (hDI : D ≠ It)
    (hD : s.heap.get? D = some (listOf #[] 0)) (h0 : St 0 s.heap) (i0 : I 0 [] κ) (hSt : ∀ k h h', St k h → (∀ b o, b ≠ D → h.get? b = some o → h'.get? b = some o) → St k h')
    (fin : ∀ ys κ' φ' m h' tk (s' : Shared), I n ys κ' → Dj φ' R → CF cenv x φ' → Sat κ' (un φ' R) h' → κ' D = .none → φ' D = .none → h'.get? D = some (listOf ys.toArray m) → ys.length ≤ n → Fwd s s' → RR (.ok .next) { s' with heap := h', toks := tk }) :
    codeAny W.M A (.compLoop (.ListComp elt [⟨.Name x px, iter, ifs, 0⟩] scope pos) 0 (.ref It) (.ref D) cenv) RR s := by
  refine codeAny_compLoop_tests (fun m s' => ∃ k ys κ φ o c, m = n - k ∧ k ≤ n ∧ Dj φ ((R.put It o).put D (listOf ys.toArray c)) ∧ CF cenv x φ ∧ Sat κ (un φ ((R.put It o).put D (listOf ys.toArray c))) s'.heap ∧ Fwd s s' ∧ St k s'.heap ∧ I k ys κ ∧ ys.length ≤ k) ?_ n ?_
  · rintro m s' ⟨k, ys, κ, φ, o, c, rfl, hk, d, f, S, F, hst, hI, hlen⟩
    have hφD := d.off
    have hRD' : (R.put It o) D = .none := by rw [PM.put_ne _ _ hDI]; exact hRD
    have d₁ := d.unputR hRD'
    have hφI := d₁.off
    have d₀ := d₁.unputR hRI
    obtain ⟨S₁, hκD, hDg⟩ := S.unputR hφD hRD'
    obtain ⟨S₀, hκI, hIg⟩ := S₁.unputR hφI hRI
    by_cases hlt : k < n
    · refine Wk.item k s' _ _ hlt hst fun v h' tk hP hSt' hkeep => ?_
      obtain ⟨o', ho'⟩ := live _ _ hSt'
      have hkeep' : ∀ b ob, b ≠ It → s'.heap.get? b = some ob → h'.get? b = some ob := fun b ob q e => hkeep b ob (by simpa using q) e
      have e₁ : Sat κ (un φ (R.put It o')) h' := S₀.putR hφI hκI ho' hkeep'
      have e₂ : Sat κ (un φ ((R.put It o').put D (listOf ys.toArray c))) h' := e₁.putR hφD hκD (hkeep' _ _ hDI hDg) fun _ _ _ e => e
      have hRD₂ : (R.put It o') D = .none := by rw [PM.put_ne _ _ hDI]; exact hRD
      have dd : Dj φ ((R.put It o').put D (listOf ys.toArray c)) := (d₀.putR hφI).putR hφD
      have bb : R.le ((R.put It o').put D (listOf ys.toArray c)) := (PM.le_put hRI).trans (PM.le_put hRD₂)
      refine wpAny_assign_Name (CF.store (s := { s' with heap := h', toks := tk }) ok.k f dd e₂ fun φ₂ h₂ tk₂ d₂ f₂ r₂ S₂ => ?_)
      have fr : FrameIs cenv (ρc.set jx (some v)) (un φ₂ ((R.put It o').put D (listOf ys.toArray c))) := by
        refine ⟨ok, fun j y k' u hy hu => ?_⟩
        by_cases q : j = jx
        · subst q
          rw [hx] at hy; cases hy
          rw [List.getElem?_set_self'] at hu
          cases e : ρc[j]? with
          | none => rw [e] at hu; simp at hu
          | some z => rw [e] at hu; simp at hu; subst hu; exact r₂.le fun b o e => un_left e
        · rw [List.getElem?_set_ne (Ne.symm q)] at hu
          exact (cap j y k' u hy q hu).le (bb.trans (un_le d₂))
      have T := turn k v ys κ hlt hP hI
      refine T.seq (s := { s' with heap := h₂, toks := tk₂ }) ((b.trans bb).trans (un_le d₂)) fr S₂ fun t κ₁ s₁ S₃ F₁ T₁ => ?_
      have FF : Fwd s s₁ := (F.trans (.of (s := s') (s' := { s' with heap := h₂, toks := tk₂ }))).trans F₁
      have keepSt : ∀ κ₂ (s₂ : Shared), Sat κ₂ (un φ₂ ((R.put It o').put D (listOf ys.toArray c))) s₂.heap → (∀ b ∈ ls, κ₂ b = some (ob b)) → St (k + 1) s₂.heap := fun κ₂ s₂ S₄ hq => by
        have d₃ := d₂.unputR hRD₂
        obtain ⟨S₅, _, _⟩ := S₄.unputR d₂.off hRD₂
        obtain ⟨S₆, _, hI₆⟩ := S₅.unputR d₃.off hRI
        refine Wk.frame _ _ _ hSt' fun b hb ob e => ?_
        rcases hfp b hb with rfl | hb
        · rw [ho'] at e; cases e; exact hI₆
        · have e1 := e₂.k _ _ (hls _ _ _ hI b hb)
          rw [e1] at e; cases e
          exact S₄.k _ _ (hq b hb)
      cases t with
      | false =>
        simp only [Bool.false_eq_true, if_false] at T₁ ⊢
        exact ⟨n - (k + 1), by omega, k + 1, ys, κ₁, φ₂, o', c, rfl, hlt, d₂, f₂, S₃, FF, keepSt _ _ S₃ (hls _ _ _ T₁), T₁, by omega⟩
      | true =>
        simp only [if_true] at T₁ ⊢
        refine T₁.seq ((b.trans bb).trans (un_le d₂)) fr S₃ fun y κ₂ s₂ S₄ F₂ q => ?_
        have hpl : s₂.heap.PlainList D ys.toArray := ⟨c, S₄.r _ _ (by rw [un_right d₂.off, PM.put_self])⟩
        refine wpAny_list_append_plain (hsz := by simp; omega) hpl fun h₅ hl₅ hs₅ => ?_
        obtain ⟨c', hc'⟩ := hl₅
        obtain ⟨S₅, hκ₅, _⟩ := S₄.unputR d₂.off hRD₂
        have S₆ : Sat κ₂ (un φ₂ ((R.put It o').put D (listOf (ys ++ [y]).toArray c'))) h₅ := S₅.putR d₂.off hκ₅ (by rw [hc']; simp) fun b ob q e => (hs₅.2 b q).trans e
        exact ⟨n - (k + 1), by omega, k + 1, ys ++ [y], κ₂, φ₂, o', c', rfl, hlt, (d₂.unputR hRD₂).putR d₂.off, f₂, S₆, (FF.trans F₂).trans .of,
          hSt _ _ _ (keepSt _ _ S₄ (hls _ _ _ q)) fun b o hb e => (hs₅.2 b hb).trans e, q, by simp; omega⟩
    · have hkn : k = n := by omega
      subst hkn
      refine Wk.done s' _ _ hst fun h' tk hkeep => ?_
      have S' : Sat κ (un φ R) h' := ⟨fun b ob e => hkeep b ob (by simpa using PM.ne_of hκI e) (S₀.k _ _ e), fun b ob e => hkeep b ob (by simpa using PM.ne_of (by rw [un_right hφI]; exact hRI) e) (S₀.r _ _ e), S₀.d⟩
      exact fin ys κ φ c h' tk s' hI d₀ f S' hκD hφD (hkeep _ _ (by simpa using hDI) hDg) hlen F
  · obtain ⟨o, ho⟩ := live _ _ h0
    have hRD' : (R.put It o) D = .none := by rw [PM.put_ne _ _ hDI]; exact hRD
    exact ⟨0, [], κ, φ, o, 0, rfl, Nat.zero_le _, (d.putR hφI).putR hφD, f, ((S.putR hφI hκI ho fun _ _ _ e => e).putR hφD hκD hD fun _ _ _ e => e), .of, h0, i0, Nat.le_refl _⟩
end
end Mine
end
section
open PySem PySem.W PySem.Calls PyProof.Rows
set_option maxRecDepth 100000
set_option maxHeartbeats 1000000
set_option linter.unusedVariables false
namespace Mine

/-! ## the frame of a comprehension -/
def ownC (names : List (Str × NameKind)) : List (Str × NameKind) := names.filter fun y => y.2 == NameKind.cell
theorem cells_none : ∀ {names : List (Str × NameKind)} (h : Heap) (n : Nat) (acc : List (Str × Addr)), ownC names = [] → pushCells h names = h ∧ cellsFrom n names acc = acc
  | [], _, _, _, _ => ⟨rfl, rfl⟩
  | (x, k) :: r, h, n, acc, e => by
    unfold ownC at e
    rw [List.filter_cons] at e
    split at e
    · cases e
    · rename_i q
      unfold pushCells cellsFrom
      have q' : ¬ (k == NameKind.cell) = true := q
      rw [if_neg q', if_neg q']
      exact cells_none h n acc e
theorem cells_one : ∀ {names : List (Str × NameKind)} {x : Str} (h : Heap) (n : Nat) (acc : List (Str × Addr)), ownC names = [(x, .cell)] →
    pushCells h names = h.push { cls := .type "cell", data := .cell none } ∧ cellsFrom n names acc = (x, n) :: acc
  | [], _, _, _, _, e => by cases e
  | (y, k) :: r, x, h, n, acc, e => by
    unfold ownC at e
    rw [List.filter_cons] at e
    unfold pushCells cellsFrom
    split at e
    · rename_i q
      have q' : (k == NameKind.cell) = true := q
      simp only [List.cons.injEq, Prod.mk.injEq] at e
      rw [if_pos q', if_pos q', e.1.1]
      have := cells_none (names := r) (h.push { cls := .type "cell", data := .cell none }) (n + 1) ((x, n) :: acc) e.2
      exact ⟨this.1, this.2⟩
    · rename_i q
      have q' : ¬ (k == NameKind.cell) = true := q
      rw [if_neg q', if_neg q']
      exact cells_one h n acc e
def cpEnv (scope : Scope) (env : Env) (cl : List (Str × Addr)) (L : Addr) : Env :=
  { scope := relabel scope env, locals := L, globals := env.globals, cells := cellsFrom (L + 1) scope.names cl, qual := env.qual, func := none, code := env.code, frame := env.frame, builtins := env.builtins }

theorem comp_env {M : Model} {A : Around} {E : PySem.Value → Shared → Prop} {s : Shared} {scope : Scope} {g : Addr} {cl : List (Str × Addr)} {qual : Str} {env : Env} {Q : Env → Shared → Prop}
    (h : Q (newEnv scope s.heap.objs.size g (cellsFrom (s.heap.objs.size + 1) scope.names cl) qual none .none (some env) builtinsNs) { s with heap := pushCells (s.heap.push { cls := .type "dict", data := .dict #[] }) scope.names }) :
    wpAny M A (newFunctionEnv scope g cl [] qual none .none (some env)) Q E s := by
  simp only [newFunctionEnv, Option.isSome_some, if_true]
  refine wpAny_bind (wpAny_alloc ?_)
  refine wpAny_bind (wpAny_layCells _ (fun name kind cells => by cases hkc : kind == NameKind.cell <;> simp [hkc]) _ _ _ _ ?_)
  rw [show ({ s with heap := s.heap.push { cls := .type "dict", data := .dict #[] } } : Shared).heap.objs.size = s.heap.objs.size + 1 from Heap.size_push ..]
  rw [List.forIn_nil]
  exact wpAny_bind (wpAny_pure (wpAny_pure h))

/-- what may be looped over -/
def Src (W : Wd) (A : Around) (v : PySem.Value) (n : Nat) (P : Nat → PySem.Value → Prop) (ls : List Addr) (ob : Addr → Obj) : Prop :=
  ∀ (R κ : PM) (s : Shared), W.kB.le R → Sat κ R s.heap → (∀ b ∈ ls, κ b = some (ob b)) → ∀ (Q : PySem.Value → Shared → Prop) (E : PySem.Value → Shared → Prop),
    (∀ (o : Obj) (St : Nat → Heap → Prop) (fp : List Addr) (tk : Nat), o.isFreed = false → Walks PW W.w A s.heap.objs.size fp [s.heap.objs.size] n P St → (∀ b ∈ fp, b = s.heap.objs.size ∨ b ∈ ls) →
      (∀ k h, St k h → ∃ o, h.get? s.heap.objs.size = some o) → St 0 (s.heap.push o) → Q (.ref s.heap.objs.size) { s with heap := s.heap.push o, toks := tk }) → wpAny W.M A (pyIter v) Q E s

theorem Src.list {W : Wd} {A : Around} (hh : A.handled = none) (l : Addr) (xs : Array PySem.Value) (m : Nat) : Src W A (.ref l) xs.size (fun i v => xs[i]? = some v) [l] (fun _ => listOf xs m) := by
  intro R κ s b S hls Q E h
  have h1 : s.heap.get? l = some (listOf xs m) := S.k _ _ (hls l (.head _))
  refine wpAny_pyIter_list ⟨_, h1, rfl, m, rfl⟩ ?_
  have hne : l ≠ s.heap.objs.size := Nat.ne_of_lt (Heap.lt_size h1)
  exact h { cls := .type "list_iterator", data := .fields #[.ref l, .int 0 0] } _ _ s.toks rfl (Walks.list hh s.heap.objs.size l hne xs) (fun b hb => by simpa using hb)
    (fun k h st => let ⟨o, ho, _⟩ := st.1; ⟨o, ho⟩) ⟨⟨_, Heap.get?_push_size _ rfl, rfl, rfl⟩, ⟨_, Heap.get?_push_of_some _ h1, rfl, m, rfl⟩⟩
theorem Src.tuple {W : Wd} {A : Around} (hh : A.handled = none) (l : Addr) (xs : Array PySem.Value) : Src W A (.ref l) xs.size (fun i v => xs[i]? = some v) [l] (fun _ => tupOf xs) := by
  intro R κ s b S hls Q E h
  have h1 : s.heap.get? l = some (tupOf xs) := S.k _ _ (hls l (.head _))
  refine wpAny_pyIter_tuple ⟨_, h1, rfl, _, rfl⟩ ?_
  have hne : l ≠ s.heap.objs.size := Nat.ne_of_lt (Heap.lt_size h1)
  exact h { cls := .type "tuple_iterator", data := .fields #[.ref l, .int 0 0] } _ _ s.toks rfl (Walks.tuple hh s.heap.objs.size l hne xs) (fun b hb => by simpa using hb)
    (fun k h st => let ⟨o, ho, _⟩ := st.1; ⟨o, ho⟩) ⟨⟨_, Heap.get?_push_size _ rfl, rfl, rfl⟩, ⟨_, Heap.get?_push_of_some _ h1, rfl, _, rfl⟩⟩

abbrev rangeOf (n : Nat) (t u v : Tok) : Obj := { cls := .type "range", data := .fields #[.int 0 t, .int n u, .int 1 v] }
theorem Src.range {W : Wd} {A : Around} (hh : A.handled = none) (r : Addr) (n : Nat) (hn : n ≤ 1000000) (t u v : Tok) : Src W A (.ref r) n (fun i v => ∃ t, v = .int (i : Int) t) [r] (fun _ => rangeOf n t u v) := by
  intro R κ s b S hls Q E h
  have h1 : s.heap.get? r = some (rangeOf n t u v) := S.k _ _ (hls r (.head _))
  have hs : Builtin.Range.rangeSize 0 (n : Int) 1 = n := by
    unfold Builtin.Range.rangeSize
    rw [if_pos (by decide)]
    split
    · rw [Int.ediv_one]; omega
    · omega
  refine wpAny_pyIter_range (a := 0) (b := n) (c := 1) (t := t) (u := u) (v := v) h1 (by unfold Builtin.Range.small Builtin.Range.rangeFitsLong; rw [hs]; simp; omega) ?_
  rw [hs]
  have Wk := LCg.range_walks (prog := PW) (w := W.w) (A := A) (I := s.heap.objs.size) hh 0 n
  simp only [Int.zero_add] at Wk
  exact h { cls := .type "range_iterator", data := .fields #[rawInt 0, rawInt n, rawInt 1] } _ _ s.toks rfl Wk (fun b hb => by simp at hb; exact .inl hb)
    (fun k h st => ⟨_, st⟩) (by show IsRangeIter _ _ _ _ _; simpa using Heap.get?_push_size _ rfl)
end Mine
end
section
open PySem PySem.W PySem.Calls PyProof.Rows
set_option maxRecDepth 100000
set_option maxHeartbeats 1000000
set_option linter.unusedVariables false
namespace Mine

theorem Sat.frame {κ φ R : PM} {h h' : Heap} (S : Sat κ R h) (keep : ∀ b o, h.get? b = some o → h'.get? b = some o) (hφ : ∀ b o, φ b = some o → h.get? b = none ∧ h'.get? b = some o) : Dj φ R ∧ Sat κ (un φ R) h' := by
  refine ⟨fun b o e => (S.fresh (hφ b o e).1).2, fun b o e => keep _ _ (S.k _ _ e), fun b o e => ?_, fun b o e => ?_⟩
  · cases q : φ b with
    | none => rw [un_right q] at e; exact keep _ _ (S.r _ _ e)
    | some o₂ => rw [un_left q] at e; cases e; exact (hφ _ _ q).2
  · have : φ b = none := by
      cases q : φ b with
      | none => rfl
      | some o₂ => have := (hφ _ _ q).1; rw [S.k _ _ e] at this; cases this
    rw [un_right this]; exact S.d _ _ e

def dictE : Obj := { cls := .type "dict", data := .dict #[] }
def cellE : Obj := { cls := .type "cell", data := .cell none }

/-- what follows the source of a comprehension -/
structure CpRest (W : Wd) (A : Around) (cenv : Addr → Env) (ρc : Loc) (jx : Nat) (elt : Expr) (ifs : List Expr) (Q : PySem.Value → PM → Prop) (v : PySem.Value) (κ : PM)
    (n : Nat) (P : Nat → PySem.Value → Prop) (ls : List Addr) (ob : Addr → Obj) (I : Nat → List PySem.Value → PM → Prop) : Prop where
  src : Src W A v n P ls ob
  small : n ≤ sizeLine
  first : I 0 [] κ
  hls : ∀ k ys κ, I k ys κ → ∀ b ∈ ls, κ b = some (ob b)
  turn : ∀ L k v ys κ, k < n → P k v → I k ys κ → Wp W A (FrameIs (cenv L) (ρc.set jx (some v))) (tests ifs (cenv L)) κ fun t κ₁ =>
    if t = true then WE W A (cenv L) (ρc.set jx (some v)) elt κ₁ fun y κ₂ => I (k + 1) (ys ++ [y]) κ₂ else I (k + 1) ys κ₁
  fin : ∀ ys κ D m, I n ys κ → κ D = none → ys.length ≤ n → Q (.ref D) (κ.put D (listOf ys.toArray m))

section
variable {W : Wd} {A : Around} {env : Env} {ρ : Loc} {κ : PM} {Q : PySem.Value → PM → Prop}

theorem relabel_fst (scope : Scope) (env : Env) : (relabel scope env).names.map (·.1) = scope.names.map (·.1) := by
  unfold relabel
  simp only [List.map_map]
  apply List.map_congr_left
  intro a _
  simp only [Function.comp]
  split <;> rfl
theorem we_comp (jx : Nat) {kx : NameKind} {elt iter : Expr} {x : Str} {px pos : Pos} {ifs : List Expr} {scope : Scope} {cl : List (Str × Addr)} (ρc : Loc)
    (hclos : closureFor scope env = Pure.pure cl) (hkind : scope.kind = .function) (hok : EnvOk env) (hx : (relabel scope env).names[jx]? = some (x, kx)) (hnd0 : (scope.names.map (·.1)).Nodup)
    (hnames : ∀ y ∈ scope.names, y.2 = .local → scope.names.lookup y.1 = some .local)
    (hown : (ownC scope.names = [] ∧ kx = .local) ∨ (ownC scope.names = [(x, .cell)] ∧ kx = .cell))
    (cap : ∀ L R, FrameIs env ρ R → ∀ j y k u, (relabel scope env).names[j]? = some (y, k) → j ≠ jx → ρc[j]? = some (some u) → Rd (cpEnv scope env cl L) R y u)
    (hi : WE W A env ρ iter κ fun v κ₁ => ∃ n P ls ob I, CpRest W A (cpEnv scope env cl) ρc jx elt ifs Q v κ₁ n P ls ob I)
    (hs : ∀ x, foldedSetIterable iter env x = Pure.pure x := by intro _; rfl) : WE W A env ρ (.ListComp elt [⟨.Name x px, iter, ifs, 0⟩] scope pos) κ Q := by
  have hnd : ((relabel scope env).names.map (·.1)).Nodup := by rw [relabel_fst]; exact hnd0
  intro R s b p S
  rw [eval_ListComp]
  refine wpAny_comprehension_free (e := .ListComp elt [⟨.Name x px, iter, ifs, 0⟩] scope pos) (g := ⟨.Name x px, iter, ifs, 0⟩) (gs := []) (use := Option.none) rfl hs hclos hkind hnames ?_
  show wpAny W.M A (eval iter env) _ _ s
  refine hi.seq b p S fun v κ₁ s₁ S₁ F₁ ⟨n, P, ls, ob, I, C⟩ => ?_
  refine C.src R κ₁ s₁ b S₁ (C.hls _ _ _ C.first) _ _ fun o St fp tk hfo Wk hfp live st0 => wpAny_newObj_type (comp_env ?_)
  have hIt : s₁.heap.get? s₁.heap.objs.size = none := get_size_none _
  generalize hg0 : s₁.heap.objs.size = It at *
  have e1 : (s₁.heap.push o).objs.size = It + 1 := by rw [Heap.size_push, hg0]
  have e2 : ((s₁.heap.push o).push { cls := .type "list", dict := none, data := .seq ([] : List PySem.Value).toArray }).objs.size = It + 2 := by rw [Heap.size_push, e1]
  have e3 : (((s₁.heap.push o).push { cls := .type "list", dict := none, data := .seq ([] : List PySem.Value).toArray }).push dictE).objs.size = It + 3 := by rw [Heap.size_push, e2]
  dsimp only
  rw [e2, e1]
  have none_at : ∀ a, It ≤ a → s₁.heap.get? a = none := fun a ha => by
    cases e : s₁.heap.get? a with
    | none => rfl
    | some o' => exact absurd (hg0 ▸ Heap.lt_size e) (Nat.not_lt.mpr ha)
  generalize hH2 : (s₁.heap.push o).push { cls := .type "list", dict := none, data := .seq ([] : List PySem.Value).toArray } = H2 at e2 e3 ⊢
  have gI : H2.get? It = some o := by rw [← hH2]; exact Heap.get?_push_of_some _ (by rw [← hg0]; exact Heap.get?_push_size _ hfo)
  have gD : H2.get? (It + 1) = some (listOf #[] 0) := by rw [← hH2, ← e1]; exact Heap.get?_push_size _ rfl
  have keep2 : ∀ a ob, s₁.heap.get? a = some ob → H2.get? a = some ob := fun a ob e => by rw [← hH2]; exact Heap.get?_push_of_some _ (Heap.get?_push_of_some _ e)
  have keepI : ∀ a ob, (s₁.heap.push o).get? a = some ob → H2.get? a = some ob := fun a ob e => by rw [← hH2]; exact Heap.get?_push_of_some _ e
  -- the frame
  obtain ⟨φ, h4, hφ4, ⟨keep4, hφ⟩, hcf, hφI, hφD⟩ : ∃ (φ : PM) (h4 : Heap), h4 = pushCells (H2.push { cls := .type "dict", data := .dict #[] }) scope.names ∧ ((∀ a ob, H2.get? a = some ob → h4.get? a = some ob) ∧ (∀ a ob, φ a = some ob → It ≤ a ∧ h4.get? a = some ob)) ∧
      CF (cpEnv scope env cl (It + 2)) x φ ∧ φ It = none ∧ φ (It + 1) = none := by
    have gC : (H2.push dictE).get? (It + 2) = some dictE := by rw [← e2]; exact Heap.get?_push_size _ rfl
    have hl : (cpEnv scope env cl (It + 2)).kindOf x = some kx := lookup_of_get hnd hx
    rcases hown with ⟨ho, hkx⟩ | ⟨ho, hkx⟩
    · refine ⟨fun a => if a = It + 2 then some dictE else none, _, rfl, ⟨fun a ob e => ?_, fun a ob e => ?_⟩, ⟨⟨dictE, _, _, if_pos rfl, rfl, fun e he => (by simp at he)⟩, .inl (hkx ▸ hl)⟩, if_neg (Nat.ne_of_lt (Nat.lt_add_of_pos_right (by decide))), if_neg (Nat.ne_of_lt (Nat.lt_succ_self _))⟩
      · rw [(cells_none _ 0 [] ho).1]; exact Heap.get?_push_of_some _ e
      · by_cases q : a = It + 2
        · subst q; simp at e; subst e; exact ⟨by omega, by rw [(cells_none _ 0 [] ho).1]; exact gC⟩
        · simp [q] at e
    · have gc : ((H2.push dictE).push cellE).get? (It + 3) = some cellE := by rw [← e3]; exact Heap.get?_push_size _ rfl
      refine ⟨fun a => if a = It + 2 then some dictE else if a = It + 3 then some cellE else none, _, rfl, ⟨fun a ob e => ?_, fun a ob e => ?_⟩,
        ⟨⟨dictE, _, _, if_pos rfl, rfl, fun e he => (by simp at he)⟩, .inr ⟨hkx ▸ hl, It + 3, cellE, none, ?_, by simp, rfl, by show (It + 3 : Nat) ≠ It + 2; omega⟩⟩, by simp, by simp⟩
      · rw [(cells_one _ 0 [] ho).1]; exact Heap.get?_push_of_some _ (Heap.get?_push_of_some _ e)
      · rw [(cells_one _ 0 [] ho).1]
        by_cases q : a = It + 2
        · subst q; simp at e; subst e; exact ⟨by omega, Heap.get?_push_of_some _ gC⟩
        · by_cases q' : a = It + 3
          · subst q'; simp at e; subst e; exact ⟨by omega, gc⟩
          · simp [q, q'] at e
      · show (cellsFrom (It + 2 + 1) scope.names cl).lookup x = some (It + 3)
        rw [(cells_one H2 _ cl ho).2]; simp
  rw [← hφ4]
  have keep : ∀ a ob, s₁.heap.get? a = some ob → h4.get? a = some ob := fun a ob e => keep4 _ _ (keep2 _ _ e)
  obtain ⟨d, S4⟩ := S₁.frame keep fun a ob e => ⟨none_at _ (hφ a ob e).1, (hφ a ob e).2⟩
  have stF : ∀ k h h', St k h → (∀ b ∈ fp, ∀ ob, h.get? b = some ob → h'.get? b = some ob) → St k h' := fun k h h' st e => Wk.frame k h h' st e
  have hRn : ∀ a, It ≤ a → R a = none := fun a ha => (S₁.fresh (none_at a ha)).2
  have hκn : ∀ a, It ≤ a → κ₁ a = none := fun a ha => (S₁.fresh (none_at a ha)).1
  have st4 : St 0 h4 := Wk.frame _ _ _ st0 fun a ha ob e => keep4 _ _ (keepI _ _ e)
  have main : ∀ (s₄ : Shared), s₄.heap = h4 → Fwd s₁ s₄ → codeAny W.M A (.compLoop (.ListComp elt [⟨.Name x px, iter, ifs, 0⟩] scope pos) 0 (.ref It) (.ref (It + 1)) (cpEnv scope env cl (It + 2)))
      (compPost W.M A (fun _ _ => False) Option.none (fun v s' => ∃ κ', Sat κ' R s'.heap ∧ Fwd s s' ∧ Q v κ') (.ref (It + 1)) (It + 2)) s₄ := by
    rintro s₄ rfl F₄
    refine comp_walk (cenv := cpEnv scope env cl (It + 2)) Wk hfp live I C.hls C.small ⟨by show scope.kind = _; exact hkind, hok.g, hok.b⟩ hx hnd (fun k v ys κ hk hP hI => C.turn (It + 2) k v ys κ hk hP hI) b
      (fun j y k u hy hj hu => cap (It + 2) R p j y k u hy hj hu) d hcf S4 (hRn _ (Nat.le_refl _)) hφI (hκn _ (Nat.le_refl _)) (hRn _ (by omega)) hφD (hκn _ (by omega)) (by show (It + 1 : Nat) ≠ It; omega) (keep4 _ _ gD) st4 C.first ?_ ?_
    · intro k h h' st e
      refine Wk.frame _ _ _ st fun a ha ob ea => e a ob (fun q => ?_) ea
      subst q
      rcases hfp _ ha with q | q
      · exact absurd q (by show (It + 1 : Nat) ≠ It; omega)
      · have := C.hls _ _ _ C.first _ q; rw [hκn _ (by omega)] at this; cases this
    · intro ys κ' φ' m h' tk s' hI d' f' S' hκD hφD' hD' hlen F'
      obtain ⟨oL, es, ep, hoL, hdL, hks⟩ := f'.L
      have hoL : φ' (It + 2) = some oL := hoL
      refine ⟨_, ⟨oL, es, ep, S'.r _ _ (un_left hoL), hdL, hks, fun _ => rfl⟩, fun h'' hs'' => ?_⟩
      have hDC : (It + 1 : Addr) ≠ It + 2 := by show (It + 1 : Nat) ≠ It + 2; omega
      refine ⟨κ'.put (It + 1) (listOf ys.toArray m), ⟨fun a ob e => ?_, fun a ob e => ?_, fun a ob e => ?_⟩, (F₁.trans F₄).trans (F'.trans .of), C.fin ys κ' (It + 1) m hI hκD hlen⟩
      · by_cases q : a = It + 1
        · subst q; rw [PM.put_self] at e; cases e; exact (hs''.2 _ hDC).trans hD'
        · rw [PM.put_ne _ _ q] at e
          have : a ≠ It + 2 := fun q => by have := S'.d _ _ e; rw [q, un_left hoL] at this; cases this
          exact (hs''.2 _ this).trans (S'.k _ _ e)
      · have h1 := un_le d' _ _ e
        have : a ≠ It + 2 := fun q => by have := d' _ _ hoL; subst q; rw [e] at this; cases this
        exact (hs''.2 _ this).trans (S'.r _ _ h1)
      · by_cases q : a = It + 1
        · subst q; exact hRn _ (by omega)
        · rw [PM.put_ne _ _ q] at e
          exact (S'.drop d').d _ _ e
  exact codeAny_compStart_list (main _ rfl .of) (Wk.self 0 _ _ _ st4 (main _ rfl .of))
end
end Mine
end
section
open PySem PySem.W PySem.Calls PyProof.Rows
set_option maxRecDepth 100000
set_option maxHeartbeats 1000000
set_option linter.unusedVariables false
namespace Mine
section
variable {W : Wd} {A : Around} {κ : PM} {Q : PySem.Value → PM → Prop} {a b : Int} {t u : Tok}

theorem t_mod (hb : b ≠ 0) (h : ∀ t, Q (.int (a.fmod b) t) κ) : Wp W A T1 (binaryOp .Mod (.int a t) (.int b u)) κ Q := fun R s _ _ S => mod_int' hb ⟨κ, S, .of, h _⟩
theorem t_fdiv (hb : b ≠ 0) (hp : Builtin.divisionGoesByPylong a b = false) (h : ∀ t, Q (.int (a.fdiv b) t) κ) : Wp W A T1 (binaryOp .FloorDiv (.int a t) (.int b u)) κ Q :=
  fun R s _ _ S => floordiv_int hb ⟨κ, S, .of, h _⟩ (.inl hp)
theorem t_add (h : ∀ t, Q (.int (a + b) t) κ) : Wp W A T1 (binaryOp .Add (.int a t) (.int b u)) κ Q := fun R s _ _ S => wpAny_add_int ⟨κ, S, .of, h _⟩
theorem t_sub (h : ∀ t, Q (.int (a - b) t) κ) : Wp W A T1 (binaryOp .Sub (.int a t) (.int b u)) κ Q := fun R s _ _ S => sub_int ⟨κ, S, .of, h _⟩
theorem t_neg (h : ∀ t, Q (.int (-a) t) κ) : Wp W A T1 (unaryOp .USub (.int a t)) κ Q := fun R s _ _ S => neg_int ⟨κ, S, .of, h _⟩
theorem t_abs (h : ∀ t, Q (.int (if a < 0 then -a else a) t) κ) : Wp W A T1 (call (.builtin "abs") [.int a t]) κ Q := fun R s _ _ S => call_abs_int fun _ _ => ⟨κ, S, .of, h _⟩
theorem t_pow7 {m : Nat} (hm : m ≤ 1000) (h : ∀ t, Q (.int (7 ^ m) t) κ) : Wp W A T1 (binaryOp .Pow (.int 7 t) (.int (m : Int) u)) κ Q := by
  intro R s _ _ S
  rcases Nat.eq_zero_or_pos m with rfl | hp
  · exact AutoIntOps.pow_0 (by decide) rfl ⟨κ, S, .of, h _⟩
  · refine AutoIntOps.pow_4 (by omega) (by simp; omega) (by decide) (by decide) ?_ ⟨κ, S, .of, ?_⟩
    · unfold Builtin.Int.intTooBig
      have : Builtin.Int.intBits 7 = 3 := by decide +kernel
      rw [this]
      have hb : bitsLine = 134217728 := by decide +kernel
      simp [hb]; omega
    · have := h s.toks
      simpa using this
theorem t_mulStr {x : Str} {n : Nat} (hx : x.length ≤ 10) (hn : n ≤ 10) (h : ∀ t, Q (.str (Txt.mul x n) t) κ) : Wp W A T1 (binaryOp .Mult (.str x t) (.int (n : Int) u)) κ Q := by
  intro R s _ _ S
  refine SB.mul ⟨by simp; omega, fun h1 _ => ?_, fun h1 _ => ?_⟩ fun t' k => ⟨κ, S, .of, h _⟩
  · have h2 : (922337203685477580 : Int) ≤ (2 ^ 63 - 1) / (n : Int) := by
      rw [Int.le_ediv_iff_mul_le (by omega)]; omega
    omega
  · unfold Builtin.Str.tooLong
    have hz' : sizeLine = 16777216 := by decide
    have : x.length * (n : Int).toNat ≤ 10 * 10 := Nat.mul_le_mul hx (by omega)
    simp only [hz', decide_eq_false_iff_not]; omega
theorem t_eq (h : Q (.bool (a == b)) κ) : Wp W A T1 (compareOp .Eq (.int a t) (.int b u)) κ Q := fun R s _ _ S => PySem.P.eq_int ⟨κ, S, .of, h⟩
theorem t_ne (h : Q (.bool (a != b)) κ) : Wp W A T1 (compareOp .NotEq (.int a t) (.int b u)) κ Q := fun R s _ _ S => PySem.P.ne_int ⟨κ, S, .of, h⟩
theorem t_lt (h : Q (.bool (decide (a < b))) κ) : Wp W A T1 (compareOp .Lt (.int a t) (.int b u)) κ Q := fun R s _ _ S => wpAny_lt_int ⟨κ, S, .of, h⟩
theorem t_gt (h : Q (.bool (decide (a > b))) κ) : Wp W A T1 (compareOp .Gt (.int a t) (.int b u)) κ Q := fun R s _ _ S => gt_int ⟨κ, S, .of, h⟩
theorem t_ge (h : Q (.bool (decide (a ≥ b))) κ) : Wp W A T1 (compareOp .GtE (.int a t) (.int b u)) κ Q := fun R s _ _ S => ge_int ⟨κ, S, .of, h⟩
theorem t_le (h : Q (.bool (decide (a ≤ b))) κ) : Wp W A T1 (compareOp .LtE (.int a t) (.int b u)) κ Q := fun R s _ _ S => le_int ⟨κ, S, .of, h⟩
theorem t_isNone {v : PySem.Value} (h : Q (.bool (v == .none)) κ) : Wp W A T1 (compareOp .Is v .none) κ Q := fun R s _ _ S => is_none ⟨κ, S, .of, h⟩
theorem t_isNotNone {v : PySem.Value} (h : Q (.bool (!(v == .none))) κ) : Wp W A T1 (compareOp .IsNot v .none) κ Q := fun R s _ _ S => isNot_none ⟨κ, S, .of, h⟩
theorem t_is {x y : Addr} {ox oy : Obj} (hx : κ x = some ox) (hy : κ y = some oy) (hn : ox.cls ≠ .type "tuple") (h : Q (.bool (x == y)) κ) : Wp W A T1 (compareOp .Is (.ref x) (.ref y)) κ Q := fun R s _ _ S => by
  by_cases e : x = y
  · subst e; exact wpAny_is_ref_self ⟨κ, S, .of, by simpa using h⟩
  · exact wpAny_is_ref_other e (S.k _ _ hx) (S.k _ _ hy) hn ⟨κ, S, .of, by rwa [beq_eq_false_iff_ne.mpr e] at h⟩
theorem t_isNot {x y : Addr} {ox oy : Obj} (hx : κ x = some ox) (hy : κ y = some oy) (hn : ox.cls ≠ .type "tuple") (h : Q (.bool (x != y)) κ) : Wp W A T1 (compareOp .IsNot (.ref x) (.ref y)) κ Q := fun R s _ _ S => by
  by_cases e : x = y
  · subst e; exact wpAny_isNot_ref_self ⟨κ, S, .of, by simpa using h⟩
  · exact wpAny_isNot_ref_other e (S.k _ _ hx) (S.k _ _ hy) hn ⟨κ, S, .of, by rwa [bne_iff_ne.mpr e] at h⟩
theorem t_isNot_nr {y : Addr} (h : Q (.bool true) κ) : Wp W A T1 (compareOp .IsNot .none (.ref y)) κ Q := fun R s _ _ S => wpAny_isNot_other rfl (by intro e; cases e) ⟨κ, S, .of, h⟩
theorem t_addStr {x y : Str} (hx : x.length ≤ 1000000) (hy : y.length ≤ 1000000) (h : ∀ t, Q (.str (x ++ y) t) κ) : Wp W A T1 (binaryOp .Add (.str x t) (.str y u)) κ Q := fun R s _ _ S =>
  KXadd.add (K := 1000000) (L := 1000000) hx hy (by decide) fun _ _ _ => ⟨κ, S, .of, h _⟩
theorem t_eqStr {x y : Str} (h : Q (.bool (x == y)) κ) : Wp W A T1 (compareOp .Eq (.str x t) (.str y u)) κ Q := fun R s _ _ S => eq_str ⟨κ, S, .of, h⟩
theorem t_neStr {x y : Str} (h : Q (.bool (x != y)) κ) : Wp W A T1 (compareOp .NotEq (.str x t) (.str y u)) κ Q := fun R s _ _ S => ne_str ⟨κ, S, .of, h⟩
variable {l : Addr} {xs ys : Array PySem.Value} {n : Nat}
theorem t_len (hl : κ l = some (listOf xs n)) (hz : xs.size ≤ 10000) (h : ∀ t, Q (.int (xs.size : Nat) t) κ) : Wp W A T1 (call (.builtin "len") [.ref l]) κ Q := fun R s _ _ S =>
  kun_lenL ⟨_, S.k _ _ hl, rfl, n, rfl⟩ rfl (by omega) ⟨κ, S, .of, h _⟩
theorem t_range (h : ∀ r t u v, κ r = none → Q (.ref r) (κ.put r (rangeOf n t u v))) : Wp W A T1 (call (.type "range") [.int (n : Int) t]) κ Q := fun R s _ _ S =>
  call_range_1 ⟨_, S.push _, .of, h _ _ _ _ S.hole⟩
theorem t_item {value slice : PySem.Expr} {k : Nat} {x : PySem.Value} (hl : κ l = some (listOf xs n)) (hk : k ≤ 1000000) (hx : xs[k]? = some x) (h : Q x κ)
    (hs : subscripted slice false (.ref l) (.int (k : Int) u) = operate [.ref l, .int (k : Int) u] (getItem (.ref l) (.int (k : Int) u)) := by with_unfolding_all rfl) : Wp W A T1 (subscriptTail value slice (.ref l) (.int (k : Int) u)) κ Q := fun R s _ _ S =>
  item_listR ⟨_, S.k _ _ hl, rfl, n, rfl⟩ (by omega) (by omega) (by simpa using hx) ⟨κ, S, .of, h⟩ hs
theorem t_itemT {value slice : PySem.Expr} {k : Nat} {x : PySem.Value} (hl : κ l = some (tupOf xs)) (hk : k ≤ 1000000) (hx : xs[k]? = some x) (h : Q x κ)
    (hs : subscripted slice false (.ref l) (.int (k : Int) u) = operate [.ref l, .int (k : Int) u] (getItem (.ref l) (.int (k : Int) u)) := by with_unfolding_all rfl)
    (hg : ∀ r, letTemporaryGo value (.ref l) r = Pure.pure () := by intro _; with_unfolding_all rfl) : Wp W A T1 (subscriptTail value slice (.ref l) (.int (k : Int) u)) κ Q := fun R s _ _ S =>
  item_tuple ⟨_, S.k _ _ hl, rfl, _, rfl⟩ (by omega) (by omega) (by have := (Array.getElem?_eq_some_iff.mp hx).1; exact seqIndex_of (by omega) (by omega)) (by simpa using hx) ⟨κ, S, .of, h⟩ hs hg
theorem t_setItem {k : Nat} {v : PySem.Value} {Q : Unit → PM → Prop} (hl : κ l = some (listOf xs n)) (hk : k < xs.size) (hz : xs.size ≤ 1000000) (h : ∀ m, Q () (κ.put l (listOf (xs.setIfInBounds k v) m))) :
    Wp W A T1 (setItem (.ref l) (.int (k : Int) u) v) κ Q := fun R s _ _ S => by
  have h1 : IsL s.heap l xs n := S.k _ _ hl
  exact ki_setAt h1 (by omega) (by omega) (by omega) ⟨_, S.upd hl (Heap.SameBut.update ..) (h1.update _), .of, h _⟩
theorem t_truthyList {Q : Bool → PM → Prop} (hl : κ l = some (listOf xs n)) (hz : xs.size ≤ 1000000) (h : Q (!xs.isEmpty) κ) : Wp W A T1 (truthy (.ref l)) κ Q := fun R s _ _ S =>
  wpAny_truthy_list ⟨_, S.k _ _ hl, rfl, n, rfl⟩ (by omega) ⟨κ, S, .of, h⟩
theorem t_truthyNone {Q : Bool → PM → Prop} (h : Q false κ) : Wp W A T1 (truthy .none) κ Q := fun R s _ _ S => truthy_none ⟨κ, S, .of, h⟩
theorem t_truthyInt {Q : Bool → PM → Prop} (h : Q (a != 0) κ) : Wp W A T1 (truthy (.int a t)) κ Q := fun R s _ _ S => PyProof.Rows.truthy_int ⟨κ, S, .of, h⟩
end
end Mine
end
section
open PySem PySem.W PySem.Calls PyProof.Rows
set_option maxRecDepth 100000
set_option maxHeartbeats 1000000
set_option linter.unusedVariables false
namespace Mine

/-! ## calls as codes -/
def Cd (W : Wd) (A : Around) (c : Code) (κ : PM) (Q : PySem.Value → PM → Prop) : Prop :=
  ∀ (R : PM) (s : Shared), W.kB.le R → Sat κ R s.heap → codeAny W.M A c (fun r s' => match r with | .ok (.ret v) => ∃ κ', Sat κ' R s'.heap ∧ Fwd s s' ∧ Q v κ' | _ => False) s
section
variable {W : Wd} {A : Around} {κ : PM} {Q : PySem.Value → PM → Prop} {n : Nat} {f : Addr} {args : List PySem.Value} {kw : List (Str × PySem.Value)} {binds : List (Str × PySem.Value)}
theorem Wp.ofCd {g : PySem.Value} (h : Cd W A (.call g ⟨args, kw⟩) κ Q) : Wp W A T1 (PySem.call g args kw) κ Q := fun R s b _ S =>
  wpAny_call (codeAny_mono (h R s b S) fun r s' hr => by rcases r with e | (v | _ | _ | _) <;> first | exact hr | exact hr.elim)
theorem Cd.seq {Q₁ : PySem.Value → PM → Prop} {c : Code} {RR : Result → Shared → Prop} {R : PM} {s : Shared} (h : Cd W A c κ Q₁) (b : W.kB.le R) (S : Sat κ R s.heap)
    (k : ∀ v κ' s', Sat κ' R s'.heap → Fwd s s' → Q₁ v κ' → RR (.ok (.ret v)) s') : codeAny W.M A c RR s :=
  codeAny_mono (h R s b S) fun r s' hr => by
    rcases r with e | fl
    · exact hr.elim
    · cases fl with
      | ret v => obtain ⟨κ', S', F, q⟩ := hr; exact k v κ' s' S' F q
      | _ => exact hr.elim
theorem Cd.mono {Q Q' : PySem.Value → PM → Prop} {c : Code} (h : Cd W A c κ Q) (k : ∀ v κ', Q v κ' → Q' v κ') : Cd W A c κ Q' :=
  fun R s b S => h.seq b S fun v κ' s' S' F q => ⟨κ', S', F, k _ _ q⟩

theorem AOk.same {A B : Around} {n : Nat} (a : AOk A n) (h1 : B.handled = A.handled) (h2 : B.depth = A.depth) (h3 : B.units ≤ A.units) : AOk B n := ⟨h1.trans a.hh, by rw [h2]; exact a.hd, by have := a.hu; omega⟩

theorem cells_keep : ∀ {names : List (Str × NameKind)} {n : Nat} {acc : List (Str × Addr)} {x : Str}, (acc.lookup x).isSome = true → ((cellsFrom n names acc).lookup x).isSome = true
  | [], _, _, _, h => h
  | (y, k) :: r, n, acc, x, h => by
    unfold cellsFrom
    split
    · refine cells_keep ?_
      rw [List.lookup_cons]
      split
      · rfl
      · exact h
    · exact cells_keep h
theorem cells_has : ∀ {names : List (Str × NameKind)} {n : Nat} {acc : List (Str × Addr)} {x : Str}, (x, NameKind.cell) ∈ names → ((cellsFrom n names acc).lookup x).isSome = true
  | (y, k) :: r, n, acc, x, h => by
    unfold cellsFrom
    rcases List.mem_cons.mp h with e | h
    · cases e
      rw [if_pos (by rfl)]
      exact cells_keep (by rw [List.lookup_cons]; simp)
    · split <;> exact cells_has h

/-- a def of the text's, called -/
theorem Cd.def (r : FnRec f) (a : AOk A n) (hb : BindsOk W r.fd args kw binds) (ρ₀ : Loc) (hρ : r.sc.names.map (fun y => binds.reverse.lookup y.1) = ρ₀)
    (hcd : codeIn (KF W.w.params) r.cdv r.qual = true) (hcell : ∀ x ∈ r.sc.names, x.2 ≠ .cell) (hloc : ∀ x ∈ binds, r.sc.names.lookup x.1 = some .local) (hnd : (r.sc.names.map (·.1)).Nodup)
    (h : ∀ L, WX W (A.deeper (callEnv r.fd L f)) (callEnv r.fd L f) ρ₀ r.body κ fun fl _ κ' => Q (retv fl) κ')
    (hco : r.sc.isCoroutine = false := by rfl) (hgen : r.sc.isGenerator = false := by rfl) (hk : r.sc.kind = .function := by rfl) : Cd W A (.call (.ref f) ⟨args, kw⟩) κ Q := by
  intro R s b S
  have X := W.inK b S
  refine codeAny_call_def (fd := r.fd) (body := r.body) (binds := binds) a.room (X _ _ (r.eq _)) rfl (W.lim b S) (codeRec_of X hcd) rfl (hb κ R s b S) hcell hloc (fun h₀ hns hk₀ => ?_) hco hgen hk
  obtain ⟨o, es, ep, hL, hd, hks, hf⟩ := hns
  generalize hLe : s.heap.objs.size = L at hL ⊢
  have hR : R L = none := (S.fresh (hLe ▸ get_size_none _)).2
  have hκ : κ L = none := (S.fresh (hLe ▸ get_size_none _)).1
  let φ : PM := fun b => if b = L then some o else none
  have hφ : ∀ b o', φ b = some o' → b = L ∧ o' = o := fun b o' e => by
    by_cases q : b = L
    · simp [φ, q] at e; exact ⟨q, e.symm⟩
    · simp [φ, q] at e
  have hφL : φ L = some o := by simp [φ]
  obtain ⟨d, S'⟩ := S.frame (φ := φ) hk₀ fun b o' e => by obtain ⟨rfl, rfl⟩ := hφ b o' e; exact ⟨hLe ▸ get_size_none _, hL⟩
  have fw : FrameW (callEnv r.fd L f) ρ₀ φ := by
    refine ⟨⟨hk, rfl, rfl⟩, hnd, fun i x k v hx hv => ?_, ⟨o, es, ep, hφL, hd, hks⟩, fun i x hx => ?_, fun x y c hc => (nomatch hc), fun x c hc => (nomatch hc)⟩
    · have hx' : r.sc.names[i]? = some (x, k) := hx
      rw [← hρ, List.getElem?_map, hx'] at hv
      simp only [Option.map_some, Option.some.injEq] at hv
      have hm : (x, v) ∈ binds := by
        have := List.lookup_eq_some_iff.mp hv
        obtain ⟨l₁, l₂, e, _⟩ := this
        exact List.mem_reverse.mp (e ▸ by simp)
      exact .inl ⟨hloc _ hm, o, hφL, es, ep, hd, hks, (hf x).trans hv⟩
    · exact absurd rfl (hcell _ (List.mem_of_getElem? hx))
  refine (h L).seq b d fw S' fun fl κ' ρ' φ' s' d' f' S₂ F q => ?_
  cases fl <;> exact ⟨κ', S₂.drop d', ⟨F.os, F.gsz, F.gold, F.bare⟩, q⟩

def bindsAt (sc : Scope) (binds : List (Str × PySem.Value)) (y : Str × NameKind) : Option PySem.Value :=
  match y.2 with
  | .local => bindL (fun x => sc.names.lookup x) binds (fun _ => none) y.1
  | .cell => bindC (fun x => sc.names.lookup x) binds (fun _ => none) y.1
  | _ => none
/-- a def with cells -/
theorem Cd.defC (r : FnRec f) (a : AOk A n) (hb : bindArgs r.fd ⟨args, []⟩ = Pure.pure binds) (ρ₀ : Loc) (hρ : r.sc.names.map (bindsAt r.sc binds) = ρ₀)
    (hcd : codeIn (KF W.w.params) r.cdv r.qual = true) (hloc' : (binds.all fun x => decide (r.sc.names.lookup x.1 = some .local) || (decide (r.sc.names.lookup x.1 = some .cell) && decide ((x.1, NameKind.cell) ∈ r.sc.names))) = true) (hnd : (r.sc.names.map (·.1)).Nodup)
    (h : ∀ L, WX W (A.deeper (callEnvC r.fd L f)) (callEnvC r.fd L f) ρ₀ r.body κ fun fl _ κ' => Q (retv fl) κ')
    (hco : r.sc.isCoroutine = false := by rfl) (hgen : r.sc.isGenerator = false := by rfl) (hk : r.sc.kind = .function := by rfl) : Cd W A (.call (.ref f) ⟨args, []⟩) κ Q := by
  have hloc : ∀ x ∈ binds, r.sc.names.lookup x.1 = some .local ∨ (r.sc.names.lookup x.1 = some .cell ∧ (x.1, NameKind.cell) ∈ r.sc.names) := fun x hx => by
    have := List.all_eq_true.mp hloc' x hx
    simpa using this
  intro R s b S
  have X := W.inK b S
  refine codeAny_call_cells (fd := r.fd) (body := r.body) (binds := binds) a.room (X _ _ (r.eq _)) rfl (W.lim b S) (codeRec_of X hcd) rfl hb rfl (fun x hx => (hloc x hx).imp id fun q => ⟨q.1, cells_has q.2⟩) (fun s₁ hc => ?_) hco hgen hk
  generalize hLe : s.heap.objs.size = L at hc ⊢
  obtain ⟨⟨hsame, hns, hkeep, hfr⟩, hcell, hap, hab⟩ := hc
  obtain ⟨h₁, tk, rfl⟩ := hsame
  let φ : PM := fun b => if s.heap.objs.size ≤ b then h₁.get? b else none
  have hφ : ∀ b o', φ b = some o' → s.heap.objs.size ≤ b ∧ h₁.get? b = some o' := fun b o' e => by
    by_cases q : s.heap.objs.size ≤ b
    · simp only [φ, if_pos q] at e; exact ⟨q, e⟩
    · simp [φ, if_neg q] at e
  have hφu : ∀ b, s.heap.objs.size ≤ b → φ b = h₁.get? b := fun b e => if_pos e
  obtain ⟨d, S'⟩ := S.frame (φ := φ) (h' := h₁) hkeep fun b o' e => ⟨by
    cases q : s.heap.get? b with
    | none => rfl
    | some o => exact absurd (Heap.lt_size q) (Nat.not_lt.mpr (hφ b o' e).1), (hφ b o' e).2⟩
  have hLL : (callEnvC r.fd L f).locals = L := rfl
  have fw : FrameW (callEnvC r.fd L f) ρ₀ φ := by
    have hns' := hns
    obtain ⟨o, es, ep, hL, hd, hks, hf⟩ := hns
    have hφL : φ L = some o := (hφu _ hfr).trans hL
    have cellAt : ∀ x c, (callEnvC r.fd L f).cells.lookup x = some c → ∃ o, φ c = some o ∧ o.data = .cell (bindC (callEnvC r.fd L f).kindOf binds (fun _ => none) x) := fun x c e => by
      obtain ⟨oc, ho, hdc⟩ := hcell x c e
      exact ⟨oc, (hφu _ (by have := hab _ _ (mem_of_lookup e); rw [hLL] at this; exact Nat.le_trans hfr (Nat.le_of_lt this))).trans ho, hdc⟩
    refine ⟨⟨hk, rfl, rfl⟩, hnd, fun i x k v hx hv => ?_, ⟨o, es, ep, hφL, hd, hks⟩, fun i x hx => ?_, fun x y c hx hy => name_of_addr hap (mem_of_lookup hx) (mem_of_lookup hy), fun x c hx => ?_⟩
    · have hx' : r.sc.names[i]? = some (x, k) := hx
      rw [← hρ, List.getElem?_map, hx'] at hv
      simp only [Option.map_some, Option.some.injEq] at hv
      have hkd : (callEnvC r.fd L f).kindOf x = some k := lookup_of_get hnd hx'
      cases k with
      | «local» => exact .inl ⟨hkd, o, hφL, es, ep, hd, hks, (hf x).trans hv⟩
      | cell =>
        obtain ⟨c, hc⟩ := Option.isSome_iff_exists.mp (cells_has (n := L + 1) (acc := []) (List.mem_of_getElem? hx'))
        obtain ⟨oc, h1, h2⟩ := cellAt x c hc
        exact .inr ⟨.inl hkd, c, oc, hc, h1, h2.trans (congrArg _ hv)⟩
      | _ => cases hv
    · obtain ⟨c, hc⟩ := Option.isSome_iff_exists.mp (cells_has (n := L + 1) (acc := []) (List.mem_of_getElem? hx))
      obtain ⟨oc, h1, h2⟩ := cellAt x c hc
      exact ⟨c, oc, _, hc, h1, h2⟩
    · have := hab _ _ (mem_of_lookup hx)
      exact Nat.ne_of_gt this
  refine (h L).seq (s := { s with heap := h₁, toks := tk }) b d fw S' fun fl κ' ρ' φ' s' d' f' S₂ F q => ?_
  cases fl <;> exact ⟨κ', S₂.drop d', ⟨F.os, F.gsz, F.gold, F.bare⟩, q⟩
end
end Mine
end
section
open PySem PySem.W PySem.Calls PyProof.Rows
set_option maxRecDepth 100000
set_option maxHeartbeats 1000000
set_option linter.unusedVariables false
namespace Mine
noncomputable section
def boolOk (P : Params) (C : Addr) : Bool := findIn (KF P) (.ref C) "__bool__" == some none && findIn (KF P) (.ref C) "__len__" == some none
def isNotOk (P : Params) (D C : Addr) : Bool := kin_not (KF P) D C && plainGet (KF P) D "__class__" && hasDictIn (KF P) D && findIn (KF P) (.ref D) "__class__" == some (some (.builtin "object.__class__")) &&
  specialIn (KF P) (.builtin "object.__class__") "__get__" == some (some (.builtin "getset_descriptor.__get__")) && takesIn (KF P) (.builtin "object.__class__") == some true && mroIn (KF P) D (.type "object") == some true
def classOk (P : Params) (C : Addr) : Bool := plainGet (KF P) C "__class__" && hasDictIn (KF P) C && (clsIn (KF P) C).isSome && findIn (KF P) (.ref C) "__class__" == some (some (.builtin "object.__class__")) &&
  specialIn (KF P) (.builtin "object.__class__") "__get__" == some (some (.builtin "getset_descriptor.__get__")) && takesIn (KF P) (.builtin "object.__class__") == some true && mroIn (KF P) C (.type "object") == some true
def propOk (P : Params) (C : Addr) (name : Str) (p fget : Addr) : Bool := plainGet (KF P) C name && (clsIn (KF P) C).isSome && findIn (KF P) (.ref C) name == some (some (.ref p)) &&
  specialIn (KF P) (.ref p) "__get__" == some (some (.builtin "property.__get__")) && takesIn (KF P) (.ref p) == some true && (match recIn (KF P) p "property" with | some (.ref g :: _) => g == fget | _ => false)
def propSetOk (P : Params) (C : Addr) (name : Str) (p fset : Addr) : Bool := findIn (KF P) (.ref C) "__setattr__" == some (some (.builtin "object.__setattr__")) && plainOver (KF P) C && takerIn (KF P) C name == some (some (.ref p)) &&
  typeIn (KF P) (.ref p) == some (.type "property") && (match recIn (KF P) p "property" with | some (_ :: .ref g :: _) => g == fset | _ => false)
def setOk (P : Params) (C : Addr) (name : Str) : Bool := findIn (KF P) (.ref C) "__setattr__" == some (some (.builtin "object.__setattr__")) && plainOver (KF P) C && takerIn (KF P) C name == some none && (clsIn (KF P) C).any (·.hasDict)
def makeOk (P : Params) (C fI : Addr) : Bool := makesIn (KF P) C && findIn (KF P) (.ref C) "__init__" == some (some (.ref fI)) && typeIn (KF P) (.ref fI) == some (.type "function")
def make0Ok (P : Params) (C : Addr) : Bool := makesIn (KF P) C && findIn (KF P) (.ref C) "__init__" == some (some (.builtin "object.__init__"))
end
section
variable {W : Wd} {A : Around} {κ : PM} {Q : PySem.Value → PM → Prop} {C D a d : Addr} {names : List Str} {f : Str → Option PySem.Value} {name : Str} {v : PySem.Value}

theorem Inst.at {P : Params} {R : PM} {h : Heap} (S : Sat κ R h) (i : Inst P κ C names a d f) : ∃ es n, InstAt h a (instObj C d) C (some (dictOf es n)) ∧ Dc P names f es ∧ κ d = some (dictOf es n) := by
  obtain ⟨h1, es, n, h2, h3⟩ := i
  exact ⟨es, n, instAt S h1 h2, h3, h2⟩
theorem Inst.truthy {Q : Bool → PM → Prop} (i : Inst W.w.params κ C names a d f) (ok : boolOk W.w.params C = true) (h : Q true κ) : Wp W A T1 (PySem.truthy (.ref a)) κ Q := fun R s b _ S => by
  obtain ⟨es, n, I, _⟩ := i.at S
  unfold boolOk at ok
  simp only [Bool.and_eq_true, beq_iff_eq] at ok
  have X := W.inK b S
  unfold PySem.truthy
  refine wpAny_bind (m := callSpecial? (.ref a) (Str.ofString "__bool__")) (wpAny_bind (wpAny_bind (I.type.here ((looks_findIn X ok.1).here (wpAny_pure ?_)))))
  refine wpAny_bind (wpAny_bind (I.type.here ((looks_findIn X ok.2).here ?_)))
  exact wpAny_pure ⟨κ, S, .of, h⟩
theorem Inst.isi (i : Inst W.w.params κ C names a d f) (ok : isIn (KF W.w.params) (.ref C) D = true) (h : Q (.bool true) κ) : Wp W A T1 (PySem.call (.builtin "isinstance") [.ref a, .ref D]) κ Q := fun R s b _ S => by
  obtain ⟨es, n, I, _⟩ := i.at S
  exact isi_call (W.inK b S) (fun M => I.type) ok (by intro e; cases e) ⟨κ, S, .of, h⟩
theorem Inst.notIsi (i : Inst W.w.params κ C names a d f) (ok : isNotOk W.w.params C D = true) (h : Q (.bool false) κ) : Wp W A T1 (PySem.call (.builtin "isinstance") [.ref a, .ref D]) κ Q := fun R s b _ S => by
  obtain ⟨es, n, I, _⟩ := i.at S
  unfold isNotOk at ok
  simp only [Bool.and_eq_true, beq_iff_eq] at ok
  obtain ⟨⟨⟨⟨⟨⟨h1, h2⟩, h3⟩, h4⟩, h5⟩, h6⟩, h7⟩ := ok
  exact kin_callC (W.inK b S) I h1 h2 h3 h4 h5 h6 h7 ⟨κ, S, .of, h⟩
theorem Inst.cls' {x : Bool} (i : Inst W.w.params κ C names a d f) (ok : classOk W.w.params C = true) (h : Q (.ref C) κ) : Wp W A T1 (PySem.getAttr (.ref a) "__class__" x) κ Q := fun R s b _ S => by
  obtain ⟨es, n, I, _⟩ := i.at S
  unfold classOk at ok
  simp only [Bool.and_eq_true, beq_iff_eq] at ok
  obtain ⟨⟨⟨⟨⟨⟨h1, h2⟩, h3⟩, h4⟩, h5⟩, h6⟩, h7⟩ := ok
  have X := W.inK b S
  exact get_bind X I (plainGet_of h1).1 (findObj_data h3 h4 h5 h6) (plainGet_of h1).2 (wpAny_call (class_get (s := { s with toks := s.toks + 1 }) (ox := instObj C d) X I h7 (handed_on rfl ⟨κ, S, .of, h⟩)))
theorem Inst.prop {x : Bool} {p g : Addr} (i : Inst W.w.params κ C names a d f) (ok : propOk W.w.params C name p g = true) (h : Cd W A.in1 (.call (.ref g) ⟨[.ref a], []⟩) κ fun v κ' => handedIn v = true ∧ Q v κ') : Wp W A T1 (PySem.getAttr (.ref a) name x) κ Q := fun R s b _ S => by
  obtain ⟨es, n, I, _⟩ := i.at S
  unfold propOk at ok
  simp only [Bool.and_eq_true, beq_iff_eq] at ok
  obtain ⟨⟨⟨⟨⟨h1, h2⟩, h3⟩, h4⟩, h5⟩, h6⟩ := ok
  split at h6
  · rename_i g' r e
    have X := W.inK b S
    rw [beq_iff_eq.mp h6] at e
    refine get_bind X I (plainGet_of h1).1 (findObj_data h2 h3 h4 h5) (plainGet_of h1).2 (wpAny_call (prop_get (s := { s with toks := s.toks + 1 }) X e ?_))
    exact h.seq (s := { s with toks := s.toks + 1 }) b S fun v κ' s' S' F q => handed_on q.1 ⟨κ', S', (Fwd.of (s := s) (s' := { s with toks := s.toks + 1 })).trans F, q.2⟩
  · cases h6
theorem Inst.propSet {Q : Unit → PM → Prop} {p g : Addr} (i : Inst W.w.params κ C names a d f) (ok : propSetOk W.w.params C name p g = true) (h : Cd W A.in1.in1 (.call (.ref g) ⟨[.ref a, v], []⟩) κ fun _ κ' => Q () κ') : Wp W A T1 (PySem.setAttr (.ref a) name v) κ Q := fun R s b _ S => by
  obtain ⟨es, n, I, _⟩ := i.at S
  unfold propSetOk at ok
  simp only [Bool.and_eq_true, beq_iff_eq] at ok
  obtain ⟨⟨⟨⟨h1, h2⟩, h3⟩, h4⟩, h5⟩ := ok
  split at h5
  · rename_i hd0 g' r q
    have X := W.inK b S
    rw [beq_iff_eq.mp h5] at q
    refine set_plain X I h1 (osa_descr (s := { s with toks := s.toks + 1 }) KF.slot_pset X I h2 h3 h4 (prop_set (s := { s with toks := s.toks + 1 }) X q ?_))
    exact h.seq (s := { s with toks := s.toks + 1 }) b S fun v κ' s' S' F q => ⟨κ', S', (Fwd.of (s := s) (s' := { s with toks := s.toks + 1 })).trans F, q⟩
  · cases h5

theorem osa_put {R' : Result → Shared → Prop} {s : Shared} {ox : Obj} {es : List DictEntry} {n : Nat} {tk : Tok} (X : (KF W.w.params).In s.heap) (I : InstAt s.heap a (instObj C d) C (some (dictOf es n))) (h2 : plainOver (KF W.w.params) C = true)
    (h3 : takerIn (KF W.w.params) C name = some none) (h4 : (clsIn (KF W.w.params) C).any (·.hasDict) = true) (hr : es.any (·.refKey) = false) (hz : (putL name (PyData.keyHash W.w.params name) (.str name s.toks) v es).length ≤ 1000)
    (h : ∀ h', Heap.SameBut d s.heap h' → h'.get? d = some (dictOf (putL name (PyData.keyHash W.w.params name) (.str name s.toks) v es) (putN name es n)) → R' (.ok (.ret .none)) { s with heap := h', toks := s.toks + 1 }) :
    codeAny W.M A (.call (.builtin "object.__setattr__") ⟨[.ref a, .str name tk, v], []⟩) R' s := by
  refine osa_open X I h2 h3 fun bb => ?_
  obtain ⟨cd, hc, hd'⟩ := any_some h4
  have hx : s.heap.get? a = some (instObj C d) := I.at_
  have D : s.heap.get? d = some (dictOf es n) := I.dict
  refine wpAny_bind (wpAny_pure (wpAny_bind (wpAny_bind (wpAny_loadPart hx (wpAny_bind ((looks_clsIn X hc).here ?_))))))
  rw [hd']
  refine wpAny_pure (a := some d) (wpAny_bind (wpAny_pure (wpAny_bind ?_)))
  unfold nsSet
  refine wpAny_bind (wpAny_bind (wpAny_askSetting (wpAny_pure (wpAny_bind (wpAny_mkText (wpAny_bind (wpAny_loadPart D ?_)))))))
  dsimp only
  have c : (!es.toArray.any (·.key.isStr name) && es.toArray.any (·.refKey)) = false := by
    rw [← Array.any_toList, ← Array.any_toList, hr, Bool.and_false]
  rw [aRefKeyMayBeTheName_at, c]
  refine wpAny_updatePart D ?_
  have D' : (s.heap.update d (Obj.putName name (PyData.keyHash W.w.params name) (.str name s.toks) v)).get? d = some (dictOf (putL name (PyData.keyHash W.w.params name) (.str name s.toks) v es) (putN name es n)) := by
    rw [Heap.get?_update_self _ D (by rw [putName_dict]; rfl), putName_dict]
  refine wpAny_bind (wpAny_lookBehind D' (pastItsLine_dict (by rw [List.size_toArray, sizeLine_eq]; omega)) ?_)
  exact wpAny_pure (h _ (Heap.SameBut.update ..) D')
theorem Inst.set {Q : Unit → PM → Prop} (i : Inst W.w.params κ C names a d f) (ok : setOk W.w.params C name = true) (hn : name ∈ names) (hz : names.length ≤ 100) (h : ∀ o', Inst W.w.params (κ.put d o') C names a d (upd f name v) → Q () (κ.put d o')) :
    Wp W A T1 (PySem.setAttr (.ref a) name v) κ Q := fun R s b _ S => by
  have ia := i.1
  obtain ⟨es, n, I, hD, hd⟩ := i.at S
  unfold setOk at ok
  simp only [Bool.and_eq_true, beq_iff_eq] at ok
  obtain ⟨⟨⟨h1, h2⟩, h3⟩, h4⟩ := ok
  have X := W.inK b S
  have D2 := hD.put (t := s.toks + 1) (v := v) hn
  refine set_plain X I h1 (osa_put (ox := instObj C d) (s := { s with toks := s.toks + 1 }) X I h2 h3 h4 hD.any (Nat.le_trans (Nat.le_trans D2.len hz) (by decide)) fun h' hs ho => ?_)
  have hne : a ≠ d := fun q => by subst q; rw [hd] at ia; simp at ia
  exact ⟨_, S.upd hd hs ho, .of, h _ ⟨by rw [PM.put_ne _ _ hne]; exact ia, _, _, PM.put_self .., D2⟩⟩

theorem AOk.tc {A : Around} {n : Nat} {rest : List PySem.Value} {kw : List (Str × PySem.Value)} (a : AOk A (n + 1)) : AOk (A.under (.builtin "type.__call__" ⟨.ref C :: rest, kw⟩)) n := by
  have hf : (Code.builtin "type.__call__" ⟨.ref C :: rest, kw⟩).frames = 0 := by
    have : (Code.builtin "type.__call__" ⟨.ref C :: rest, kw⟩).frames = (Code.builtin "type.__call__" ⟨[.ref 0], []⟩).frames := rfl
    rw [this]; decide +kernel
  have hw : (Code.builtin "type.__call__" ⟨.ref C :: rest, kw⟩).weight = 1 := by
    have : (Code.builtin "type.__call__" ⟨.ref C :: rest, kw⟩).weight = (Code.builtin "type.__call__" ⟨[.ref 0], []⟩).weight := rfl
    rw [this]; decide +kernel
  refine ⟨a.hh, ?_, ?_⟩
  · have := a.hd; show A.depth + (Code.builtin "type.__call__" ⟨.ref C :: rest, kw⟩).weight + n < 690; omega
  · have := a.hu
    show A.units + (1 + 3 * (Code.builtin "type.__call__" ⟨.ref C :: rest, kw⟩).frames) + 50 * n < cLine
    omega
/-- a class of the text's, called -/
theorem Cd.make {fI : Addr} {rest : List PySem.Value} {kw : List (Str × PySem.Value)} (ok : makeOk W.w.params C fI = true)
    (h : ∀ x dx, κ x = none → κ dx = none → x ≠ dx → Cd W (A.under (.builtin "type.__call__" ⟨.ref C :: rest, kw⟩)) (.call (.ref fI) ⟨.ref x :: rest, kw⟩) ((κ.put dx emptyDict).put x (instObj C dx)) fun v κ' => v = .none ∧ Q (.ref x) κ') : Cd W A (.call (.ref C) ⟨rest, kw⟩) κ Q := fun R s b S => by
  obtain ⟨hh, g, dr, t, os⟩ := s
  unfold makeOk at ok
  simp only [Bool.and_eq_true, beq_iff_eq] at ok
  obtain ⟨⟨h1, h2⟩, h3⟩ := ok
  have X := W.inK b S
  have S1 := S.push emptyDict
  have S2 := S1.push (instObj C hh.objs.size)
  rw [Heap.size_push] at S2
  refine make_core (makes_of X h1) (looks_findIn X h2) (fun self => bind_fn X self h3) (.inl rfl) ?_
  have hx : κ (hh.objs.size + 1) = none := by
    have := S1.hole
    rw [Heap.size_push, PM.put_ne _ _ (Nat.succ_ne_self _)] at this; exact this
  refine (h (hh.objs.size + 1) hh.objs.size hx S.hole (Nat.succ_ne_self _)).seq b S2 fun v κ' s' S' F q => ⟨q.1, κ', S', ⟨F.os, F.gsz, F.gold, F.bare⟩, q.2⟩
theorem Cd.make0 (ok : make0Ok W.w.params C = true) (h : ∀ x dx, κ x = none → κ dx = none → x ≠ dx → Q (.ref x) ((κ.put dx emptyDict).put x (instObj C dx))) : Cd W A (.call (.ref C) ⟨[], []⟩) κ Q := fun R s b S => by
  obtain ⟨hh, g, dr, t, os⟩ := s
  unfold make0Ok at ok
  simp only [Bool.and_eq_true, beq_iff_eq] at ok
  obtain ⟨h1, h2⟩ := ok
  have X := W.inK b S
  have S1 := S.push emptyDict
  have S2 := S1.push (instObj C hh.objs.size)
  rw [Heap.size_push] at S2
  have hx : κ (hh.objs.size + 1) = none := by
    have := S1.hole
    rw [Heap.size_push, PM.put_ne _ _ (Nat.succ_ne_self _)] at this; exact this
  have Y := makes_of (M := W.M) X h1
  have t1 : Looks W.M ((hh.push emptyDict).push (instObj C hh.objs.size)) (typeOf (.ref (hh.objs.size + 1))) (.ref C) := (Looks.ld (S2.k _ _ (PM.put_self ..))).andThen .now
  have t2 : Looks W.M ((hh.push emptyDict).push (instObj C hh.objs.size)) (isInstance (.ref (hh.objs.size + 1)) (.type "object")) true := t1.andThen (Y.top.keeps fun b o e => Heap.get?_push_of_some _ (Heap.get?_push_of_some _ e))
  refine make_core Y (looks_findIn X h2) (fun self => Looks.of_pure (oi_bind self)) (.inr ⟨rfl, rfl⟩) ?_
  refine codeAny_call_builtin oi_plain entry_oi (@check_slot W.M _ _ _ "object.__init__" "object" "__init__" (.ref (hh.objs.size + 1)) [] [] _ oi_kind oi_split t2 (oi_args (.ref (hh.objs.size + 1))) ?_)
  rw [oi_run]
  exact wpAny_pure (And.intro rfl ⟨_, S2, .of, h _ _ hx S.hole (Nat.succ_ne_self _)⟩)
end
end Mine
end
section
open PySem PySem.W PySem.Calls PyProof.Rows
set_option maxRecDepth 100000
set_option maxHeartbeats 1000000
set_option linter.unusedVariables false
namespace Mine
section
variable {W : Wd} {A : Around} {env : Env} {ρ : Loc} {κ : PM} {Q : Flow → Loc → PM → Prop} {pos p : Pos}
theorem WS.setsub {o i e : Expr} (h : WE W A env ρ e κ fun v κ₁ => WE W A env ρ o κ₁ fun ov κ₂ => WE W A env ρ i κ₂ fun iv κ₃ => Wp W A T1 (setItem ov iv v) κ₃ fun _ κ₄ => Q .next ρ κ₄)
    (hs : swapsWith e (some (.Subscript o i p)) pos.line env = Pure.pure false := by rfl) : WS W A env ρ (exec (.Assign [.Subscript o i p] e pos) env) κ Q :=
  fun R φ s b d f S => wpAny_Assign_Subscript (h.seqS b d f S fun v κ₁ s₁ S₁ F₁ h₁ => h₁.seqS b d f S₁ fun ov κ₂ s₂ S₂ F₂ h₂ => h₂.seqS b d f S₂ fun iv κ₃ s₃ S₃ F₃ h₃ => h₃.seqT b d S₃ fun _ κ₄ s₄ S₄ F₄ q =>
    ⟨κ₄, ρ, φ, d, f, S₄, ((F₁.trans F₂).trans F₃).trans F₄, q⟩) hs
theorem WS.exprS {e : Expr} (h : WE W A env ρ e κ fun _ κ₁ => Q .next ρ κ₁) (hi : interactive env = false := by rfl) (hs : swapsWith e .none pos.line env = Pure.pure false := by rfl) : WS W A env ρ (exec (.Expr e pos) env) κ Q :=
  fun R φ s b d f S => wpAny_Expr_any (h.seqS b d f S fun v κ₁ s₁ S₁ F₁ q => ⟨κ₁, ρ, φ, d, f, S₁, F₁, q⟩) hi hs
end
section
variable {W : Wd} {A : Around} {κ : PM} {Q : PySem.Value → PM → Prop} {l : Addr} {xs : Array PySem.Value} {n : Nat} {t u : Tok}
theorem t_item0 {value slice : PySem.Expr} {x : PySem.Value} (hl : κ l = some (listOf xs n)) (hx : xs[0]? = some x) (h : Q x κ)
    (hs : subscripted slice false (.ref l) (.int 0 u) = operate [.ref l, .int 0 u] (getItem (.ref l) (.int 0 u)) := by with_unfolding_all rfl) : Wp W A T1 (subscriptTail value slice (.ref l) (.int 0 u)) κ Q := fun R s _ _ S =>
  item_listR ⟨_, S.k _ _ hl, rfl, n, rfl⟩ (by omega) (by omega) (by simpa using hx) ⟨κ, S, .of, h⟩ hs
theorem t_itemI {value slice : PySem.Expr} {k : Int} {x : PySem.Value} (h0 : 0 ≤ k) (hl : κ l = some (listOf xs n)) (hk : k ≤ 1000000) (hx : xs[k.toNat]? = some x) (h : Q x κ)
    (hs : subscripted slice false (.ref l) (.int k u) = operate [.ref l, .int k u] (getItem (.ref l) (.int k u)) := by with_unfolding_all rfl) : Wp W A T1 (subscriptTail value slice (.ref l) (.int k u)) κ Q := fun R s _ _ S =>
  item_listR ⟨_, S.k _ _ hl, rfl, n, rfl⟩ h0 (by omega) hx ⟨κ, S, .of, h⟩ hs
theorem t_setItem0 {v : PySem.Value} {Q : Unit → PM → Prop} (hl : κ l = some (listOf xs n)) (hk : 0 < xs.size) (hz : xs.size ≤ 1000000) (h : ∀ m, Q () (κ.put l (listOf (xs.setIfInBounds 0 v) m))) :
    Wp W A T1 (setItem (.ref l) (.int 0 u) v) κ Q := t_setItem (k := 0) hl hk hz h
end
end Mine
end
section
open PySem PySem.W PySem.Calls PyProof.Rows
set_option maxRecDepth 100000
set_option maxHeartbeats 1000000
set_option linter.unusedVariables false
namespace Mine
def rec385 : FnRec 385 := ⟨_, _, _, _, _, _, _, _, _, _, _, _, _, _, fun _ => rfl⟩

/-- a list of ints -/
def Ints (xs : Array PySem.Value) : Prop := ∀ i, i < xs.size → ∃ z t, xs[i]? = some (.int z t)
theorem noPy {a b : Int} (h : b.natAbs < 2 ^ 3000) : Builtin.divisionGoesByPylong a b = false := by
  unfold Builtin.divisionGoesByPylong
  rw [Bool.and_eq_false_iff]
  left
  rw [decide_eq_false_iff_not]
  show ¬ _ > 300
  dsimp only
  split
  · omega
  · rename_i h0
    have : b.natAbs.log2 < 3000 := by
      have hb : b.natAbs ≠ 0 := by intro e; apply h0; simp [Int.natAbs_eq_zero.mp e]
      exact (Nat.log2_lt hb).mpr h
    omega
theorem pow7 {m : Nat} (h : m ≤ 1000) : ((7 : Int) ^ m).natAbs < 2 ^ 3000 := by
  rw [Int.natAbs_pow]
  show 7 ^ m < 2 ^ 3000
  have h1 : 7 ^ m ≤ 7 ^ 1000 := Nat.pow_le_pow_right (by decide) h
  have h2 : 7 ^ 1000 < 8 ^ 1000 := Nat.pow_lt_pow_left (by decide) (by decide)
  have h3 : 8 ^ 1000 = 2 ^ 3000 := by rw [show (8 : Nat) = 2 ^ 3 from rfl, ← Nat.pow_mul]
  omega
/-- _law_drawn -/
theorem drawn_spec {W : Wd} {A : Around} {n : Nat} {κ : PM} {Q : PySem.Value → PM → Prop} {lt la : Addr} {xs : Array PySem.Value} {m m' k : Nat} {t tb : Tok} {below : Int} (a : AOk A n) (hl : κ lt = some (listOf xs m)) (hx : Ints xs) (hne : 0 < xs.size)
    (hz : xs.size ≤ 1000) (hla : κ la = some (listOf #[.int k t] m')) (hlt : lt ≠ la) (hk : k ≤ 1000) (hb : 0 < below)
    (h : ∀ r t t' m'', 0 ≤ r → r < below → Q (.int r t) (κ.put la (listOf #[.int (k + 1 : Nat) t'] m''))) : Wp W A T1 (PySem.call (.ref 385) [.ref lt, .ref la, .int below tb]) κ Q := by
  refine Wp.def rec385 a (BindsOk.eq rfl) [some (.ref lt), some (.ref la), some (.int below tb), none, none, none] rfl (by kernel_rfl) (by decide) (locs rfl) (by decide) fun L => ?_
  refine WX.cons (WS.assign 3 rfl (.inl rfl) (WE.sub (WE.name 1 rfl rfl (WE.int fun _ => t_item0 hla rfl ?_))))
  refine WX.cons (WS.setsub (WE.binop (WE.name 3 rfl rfl (WE.int fun _ => t_add fun t' => WE.name 1 rfl rfl (WE.int fun _ => t_setItem0 hla (by show 0 < 1; decide) (by show 1 ≤ 1000000; decide) fun m'' => ?_)))))
  have hl' : (κ.put la (listOf (#[PySem.Value.int k t].setIfInBounds 0 (.int (k + 1 : Int) t')) m'')) lt = some (listOf xs m) := by rw [PM.put_ne _ _ hlt]; exact hl
  refine WX.cons (WS.ret (WE.binop (WE.binop (WE.binop ?_))))
  refine WE.call (WE.blt rfl rfl rfl (by decide) (call_with .builtin (WArgs.cons ?_)))
  refine WE.sub (WE.name 0 rfl rfl (WE.binop (WE.name 3 rfl rfl ?_)))
  refine WE.call (WE.blt rfl rfl rfl (by decide) (call_with .builtin (WArgs.cons (WE.name 0 rfl rfl (WArgs.nil ?_)))))
  refine t_len hl' (by omega) fun _ => t_mod (by omega) fun _ => ?_
  have e1 : ((k : Int).fmod (xs.size : Nat)) = ((k % xs.size : Nat) : Int) := by rw [Int.fmod_eq_emod_of_nonneg _ (by omega)]; rfl
  have hlt2 := Nat.mod_lt k hne
  obtain ⟨z, tz, hz'⟩ := hx _ hlt2
  rw [e1]
  refine t_item hl' (by omega) hz' (WArgs.nil (t_abs fun _ => ?_))
  refine WE.binop (WE.int fun _ => WE.binop (WE.name 3 rfl rfl ?_))
  refine WE.call (WE.blt rfl rfl rfl (by decide) (call_with .builtin (WArgs.cons (WE.name 0 rfl rfl (WArgs.nil ?_)))))
  have e2 : ((k : Int).fdiv (xs.size : Nat)) = ((k / xs.size : Nat) : Int) := by rw [Int.fdiv_eq_ediv_of_nonneg _ (by omega)]; rfl
  have hd : k / xs.size ≤ 1000 := Nat.le_trans (Nat.div_le_self _ _) hk
  refine t_len hl' (by omega) fun _ => t_fdiv (by omega) (noPy ?_) fun _ => ?_
  · exact Nat.lt_of_le_of_lt (by show xs.size ≤ 1000; omega) (show 1000 < 2 ^ 3000 from Nat.lt_of_lt_of_le (show 1000 < 2 ^ 10 by decide) (Nat.pow_le_pow_right (by decide) (by decide)))
  rw [e2]
  refine t_pow7 hd fun _ => t_fdiv (by have := Int.pow_pos (n := 7) (m := k / xs.size) (by decide); omega) (noPy (pow7 hd)) fun _ => ?_
  refine WE.name 3 rfl rfl (t_add fun _ => WE.name 2 rfl rfl (t_mod (by omega) fun _ => ?_))
  refine h _ _ _ _ ?_ ?_
  · exact Int.fmod_nonneg_of_pos _ hb
  · exact Int.fmod_lt_of_pos _ hb
end Mine
end
section
open PySem PySem.W PySem.Calls PyProof.Rows
set_option maxRecDepth 100000
set_option maxHeartbeats 1000000
set_option linter.unusedVariables false
namespace Mine
/-- an object known to the code at hand, or of the text's own -/
def RdO (W : Wd) (κ : PM) (l : Addr) (o : Obj) : Prop := κ l = some o ∨ (KF W.w.params).lookup l = some o
theorem RdO.get {W : Wd} {κ R : PM} {l : Addr} {o : Obj} {h : Heap} (x : RdO W κ l o) (b : W.kB.le R) (S : Sat κ R h) : h.get? l = some o := by
  rcases x with e | e
  · exact S.k _ _ e
  · exact W.inK b S _ _ e
section
variable {W : Wd} {A : Around} {env : Env} {ρ : Loc} {κ : PM} {Q : PySem.Value → PM → Prop} {l : Addr} {xs : Array PySem.Value} {n : Nat} {t u : Tok}
abbrev sliceAll : Obj := { cls := .type "slice", data := .fields #[.none, .none, .none] }
theorem we_slice {p : Pos} (h : ∀ a, κ a = none → Q (.ref a) (κ.put a sliceAll)) : WE W A env ρ (.Slice none none none p) κ Q := fun R s b _ S => by
  refine wpAny_Slice ?_
  rw [evalPart_none]
  refine wpAny_pure (wpAny_pure (wpAny_pure ?_))
  exact ⟨_, S.push _, .of, h _ S.hole⟩
theorem t_sliceAll {value slice : PySem.Expr} {sl : Addr} (hl : RdO W κ l (listOf xs n)) (hs : κ sl = some sliceAll) (hz : xs.size ≤ 1000000) (h : ∀ a, κ a = none → Q (.ref a) (κ.put a (listOf xs 0)))
    (he : subscripted slice false (.ref l) (.ref sl) = operate [.ref sl, .ref l] (getItem (.ref l) (.ref sl)) := by with_unfolding_all rfl) (ht : ∀ r, letTemporaryGo value (.ref l) r = Pure.pure () := by intro _; with_unfolding_all rfl) :
    Wp W A T1 (subscriptTail value slice (.ref l) (.ref sl)) κ Q := fun R s b _ S => by
  have hl' : s.heap.IsList l xs := ⟨_, hl.get b S, rfl, n, rfl⟩
  refine subscriptTail_ops hl'.typeIs list_getitem_lookup (wpAny_getItem_list_slice hl' ⟨_, S.k _ _ hs, rfl, rfl⟩ .none .none .none (by simp) ?_ (by rw [sizeLine_eq]; omega)) he ht
  rw [slicePick_all]
  exact ⟨_, S.push _, .of, h _ S.hole⟩
theorem t_listOf (hl : κ l = some (listOf xs n)) (hz : xs.size ≤ 1000000) (h : ∀ a c, κ a = none → Q (.ref a) (κ.put a (listOf xs c))) : Wp W A T1 (PySem.call (.type "list") [.ref l]) κ Q := fun R s b _ S => by
  refine call_list_seq (hsz := by rw [sizeLine_eq]; omega) l (.inl rfl) (S.k _ _ hl) rfl rfl fun h' c' hk hD => ?_
  have f := S.fresh (get_size_none _)
  refine ⟨κ.put s.heap.objs.size (listOf xs c'), ⟨fun b o e => ?_, fun b o e => hk _ _ (S.r _ _ e), fun b o e => ?_⟩, .of, h _ _ f.1⟩
  · by_cases q : b = s.heap.objs.size
    · subst q; rw [PM.put_self] at e; cases e; exact hD
    · rw [PM.put_ne _ _ q] at e; exact hk _ _ (S.k _ _ e)
  · by_cases q : b = s.heap.objs.size
    · subst q; exact f.2
    · rw [PM.put_ne _ _ q] at e; exact S.d _ _ e
theorem t_strItem {value slice : PySem.Expr} {x : Str} {k : Int} (h0 : 0 ≤ k) (h1 : k < x.length) (hx : x.length ≤ 1000) (h : ∀ t, Q (.str (Txt.item x k) t) κ)
    (hs : subscripted slice false (.str x t) (.int k u) = operate [.str x t, .int k u] (getItem (.str x t) (.int k u)) := by with_unfolding_all rfl)
    (ht : ∀ r, letTemporaryGo value (.str x t) r = Pure.pure () := by intro _; with_unfolding_all rfl) : Wp W A T1 (subscriptTail value slice (.str x t) (.int k u)) κ Q := fun R s b _ S =>
  KXi.item (n := x.length) rfl (by omega) h1 (by omega) (fun _ => ⟨κ, S, .of, h _⟩) hs ht
end
section
variable {W : Wd} {A : Around} {env : Env} {ρ : Loc} {κ : PM} {Q : Flow → Loc → PM → Prop} {pos p : Pos}
theorem ws_unpack {elts : List Expr} {k : Nat} {e : Expr} (hh : A.handled = none) (h : WE W A env ρ e κ fun v κ₁ => ∃ t xs, v = .ref t ∧ κ₁ t = some (tupOf xs) ∧ (assignEach elts env).length = xs.size ∧
      WS W A env ρ (assignInOrder ((assignEach elts env).map (·.2)) xs.toList) κ₁ fun _ ρ' κ' => Q .next ρ' κ') (hst : (assignEach elts env).findIdx? (·.1) = none := by rfl)
    (hs : swapsWithSole [.Tuple elts k p] e pos.line env = Pure.pure false := by rfl) (hw : swappedStores [.Tuple elts k p] e env = Pure.pure none := by rfl) : WS W A env ρ (exec (.Assign [.Tuple elts k p] e pos) env) κ Q := by
  intro R φ s b d f S
  refine Assign_Tuple (h.seqS b d f S fun v κ₁ s₁ S₁ F₁ ⟨t, xs, hv, ht, hn, q⟩ => ?_) hs hw
  subst hv
  refine wpAny_assign_Tuple hh ⟨_, S₁.k _ _ ht, rfl, _, rfl⟩ hn hst fun h' he => ?_
  have S₂ : Sat κ₁ (un φ R) h' := S₁.more fun b o e => he b o (Nat.ne_of_lt (Heap.lt_size e)) e
  exact WS.seq (s := { s₁ with heap := h' }) q b d f S₂ fun _ κ'' ρ'' φ'' s'' d'' f'' S'' F' q' => ⟨κ'', ρ'', φ'', d'', f'', S'', (F₁.trans (.of (s := s₁) (s' := { s₁ with heap := h' }))).trans F', q'⟩
theorem ws_swapped {elts : List Expr} {k : Nat} {e : Expr} {names : List Str} (hh : A.handled = none) (hw : swappedStores [.Tuple elts k p] e env = Pure.pure (some names))
    (h : WE W A env ρ e κ fun v κ₁ => ∃ t xs, v = .ref t ∧ κ₁ t = some (tupOf xs) ∧ names.length = xs.size ∧ WS W A env ρ (assignInOrder (names.reverse.map fun n => bindName env n) xs.toList.reverse) κ₁ fun _ ρ' κ' => Q .next ρ' κ')
    (hs : swapsWithSole [.Tuple elts k p] e pos.line env = Pure.pure false := by rfl) : WS W A env ρ (exec (.Assign [.Tuple elts k p] e pos) env) κ Q := by
  intro R φ s b d f S
  refine Assign_Tuple_swapped (h.seqS b d f S fun v κ₁ s₁ S₁ F₁ ⟨t, xs, hv, ht, hn, q⟩ => ?_) hs hw
  subst hv
  rw [hn]
  refine wpAny_unpackItems_tuple hh ⟨_, S₁.k _ _ ht, rfl, _, rfl⟩ fun h' he => ?_
  have S₂ : Sat κ₁ (un φ R) h' := S₁.more fun b o e => he b o (Nat.ne_of_lt (Heap.lt_size e)) e
  exact WS.seq (s := { s₁ with heap := h' }) q b d f S₂ fun _ κ'' ρ'' φ'' s'' d'' f'' S'' F' q' => ⟨κ'', ρ'', φ'', d'', f'', S'', (F₁.trans (.of (s := s₁) (s' := { s₁ with heap := h' }))).trans F', q'⟩
variable {Q : Unit → Loc → PM → Prop}
theorem ws_order_nil {xs : List PySem.Value} (h : Q () ρ κ) : WS W A env ρ (assignInOrder [] xs) κ Q := fun R φ s b d f S => by
  unfold assignInOrder; exact wpAny_pure ⟨κ, ρ, φ, d, f, S, .of, h⟩
theorem ws_order {t : PySem.Value → Sem Unit} {ts : List (PySem.Value → Sem Unit)} {x : PySem.Value} {xs : List PySem.Value} (h : WS W A env ρ (t x) κ fun _ ρ' κ' => WS W A env ρ' (assignInOrder ts xs) κ' Q) : WS W A env ρ (assignInOrder (t :: ts) (x :: xs)) κ Q := fun R φ s b d f S => by
  unfold assignInOrder
  exact wpAny_bind (wpAny_holding (h.seq b d f S fun _ κ₁ ρ₁ φ₁ s₁ d₁ f₁ S₁ F₁ q => WS.seq q b d₁ f₁ S₁ fun _ κ'' ρ'' φ'' s'' d'' f'' S'' F' q' => ⟨κ'', ρ'', φ'', d'', f'', S'', F₁.trans F', q'⟩))
theorem ws_bindName (i : Nat) {x : Str} {k : NameKind} {v : PySem.Value} (hx : env.scope.names[i]? = some (x, k)) (hk : k = .local ∨ k = .cell) (h : Q () (ρ.set i (some v)) κ) : WS W A env ρ (bindName env x v) κ Q :=
  fun R φ s b d f S => wpAny_bindName (store_frame i f d S hx hk fun φ' h' tk d' f' S' => ⟨κ, _, φ', d', f', S', .of, h⟩)
theorem ws_attr {o : Expr} {n : Str} {v : PySem.Value} (h : WE W A env ρ o κ fun ov κ₂ => Wp W A T1 (setAttr ov n v) κ₂ fun _ κ₃ => Q () ρ κ₃) : WS W A env ρ (PySem.assign (.Attribute o n p) env v) κ Q := fun R φ s b d f S => by
  rw [assign_Attribute]
  exact wpAny_bind (wpAny_holding (h.seqS b d f S fun ov κ₂ s₂ S₂ F₂ h₂ => wpAny_bind (wpAny_standAt (wpAny_bind (wpAny_holding (h₂.seqT b d S₂ fun _ κ₃ s₃ S₃ F₃ q => wpAny_release' ⟨κ₃, ρ, φ, d, f, S₃, F₂.trans F₃, q⟩))))))
theorem ws_tup {elts : List Expr} {k : Nat} {t : Addr} {xs : Array PySem.Value} (hh : A.handled = none) (ht : κ t = some (tupOf xs)) (hn : (assignEach elts env).length = xs.size) (h : WS W A env ρ (assignInOrder ((assignEach elts env).map (·.2)) xs.toList) κ Q)
    (hst : (assignEach elts env).findIdx? (·.1) = none := by rfl) : WS W A env ρ (PySem.assign (.Tuple elts k p) env (.ref t)) κ Q := fun R φ s b d f S => by
  refine wpAny_assign_Tuple hh ⟨_, S.k _ _ ht, rfl, _, rfl⟩ hn hst fun h' he => ?_
  have S₂ : Sat κ (un φ R) h' := S.more fun b o e => he b o (Nat.ne_of_lt (Heap.lt_size e)) e
  exact WS.seq (s := { s with heap := h' }) h b d f S₂ fun _ κ'' ρ'' φ'' s'' d'' f'' S'' F' q' => ⟨κ'', ρ'', φ'', d'', f'', S'', (Fwd.of (s := s) (s' := { s with heap := h' })).trans F', q'⟩
end
end Mine
end
section
open PySem PySem.W PySem.Calls PyProof.Rows
set_option maxRecDepth 100000
set_option maxHeartbeats 1000000
set_option linter.unusedVariables false
namespace Mine
theorem setLs (P : Params) : (KL.all fun n => setOk P 376 n) = true := by kernel_rfl
theorem setNs (P : Params) : (KN.all fun n => setOk P 296 n) = true := by kernel_rfl
theorem ownLs (P : Params) : (KL.all fun n => ownOk P 376 n) = true := by kernel_rfl
theorem ownNs (P : Params) : (KN.all fun n => ownOk P 296 n) = true := by kernel_rfl
theorem setL {P : Params} {n : Str} (h : n ∈ KL) : setOk P 376 n = true := List.all_eq_true.mp (setLs P) n h
theorem setN {P : Params} {n : Str} (h : n ∈ KN) : setOk P 296 n = true := List.all_eq_true.mp (setNs P) n h
theorem ownL {P : Params} {n : Str} (h : n ∈ KL) : ownOk P 376 n = true := List.all_eq_true.mp (ownLs P) n h
theorem ownN {P : Params} {n : Str} (h : n ∈ KN) : ownOk P 296 n = true := List.all_eq_true.mp (ownNs P) n h
theorem parL (P : Params) : clsOk P 376 "parent" .none = true := by kernel_rfl
theorem parN (P : Params) : clsOk P 296 "parent" .none = true := by kernel_rfl
theorem chgL (P : Params) : clsOk P 376 "was_changed" (.bool false) = true := by kernel_rfl
theorem chgN (P : Params) : clsOk P 296 "was_changed" (.bool false) = true := by kernel_rfl
theorem boolL (P : Params) : boolOk P 376 = true := by kernel_rfl
theorem boolN (P : Params) : boolOk P 296 = true := by kernel_rfl
theorem isLL (P : Params) : isIn (KF P) (.ref 376) 376 = true := by kernel_rfl
theorem isNL (P : Params) : isNotOk P 296 376 = true := by kernel_rfl
theorem clsL (P : Params) : classOk P 376 = true := by kernel_rfl
theorem clsN (P : Params) : classOk P 296 = true := by kernel_rfl
theorem mkL (P : Params) : makeOk P 376 314 = true := by kernel_rfl
theorem mkN (P : Params) : makeOk P 296 180 = true := by kernel_rfl
theorem mkI (P : Params) : make0Ok P 31 = true := by kernel_rfl
theorem prefL (P : Params) : propOk P 376 "prefix" 373 363 = true := by kernel_rfl
theorem prefN (P : Params) : propOk P 296 "prefix" 230 220 = true := by kernel_rfl
theorem prefSL (P : Params) : propSetOk P 376 "prefix" 373 372 = true := by kernel_rfl
theorem prefSN (P : Params) : propSetOk P 296 "prefix" 230 229 = true := by kernel_rfl
theorem mthL (P : Params) : ([("clone", 335), ("_eq", 328), ("leaves", 342), ("post_order", 349), ("pre_order", 356), ("remove", 121), ("changed", 113), ("__str__", 321)] : List (Str × Addr)).all (fun p => methOk P 376 p.1 p.2) = true := by kernel_rfl
theorem mthN (P : Params) : ([("clone", 199), ("_eq", 194), ("leaves", 144), ("post_order", 206), ("pre_order", 213), ("remove", 121), ("changed", 113), ("__str__", 187), ("invalidate_sibling_maps", 258), ("_remove_from_sibling_maps", 272)] : List (Str × Addr)).all (fun p => methOk P 296 p.1 p.2) = true := by kernel_rfl
noncomputable def Is (P : Params) (x : Str) (a : Addr) : Bool := (match nsIn (KF P) mainGlobals x with | some (some (.ref b)) => b == a | _ => false) && keepIn (KF P) (.ref a)
theorem globs (P : Params) : ([("Ident", 31), ("Node", 296), ("Leaf", 376), ("_law_drawn", 385), ("_law_made", 390), ("_law_walk", 397), ("_law_same", 402), ("_law_shape", 407), ("_law_lost", 412)] : List (Str × Addr)).all (fun p => Is P p.1 p.2) = true := by kernel_rfl
theorem glob {P : Params} {x : Str} {a : Addr} (h : (x, a) ∈ ([("Ident", 31), ("Node", 296), ("Leaf", 376), ("_law_drawn", 385), ("_law_made", 390), ("_law_walk", 397), ("_law_same", 402), ("_law_shape", 407), ("_law_lost", 412)] : List (Str × Addr))) :
    nsIn (KF P) mainGlobals x = some (some (.ref a)) ∧ keepIn (KF P) (.ref a) = true := by
  have := List.all_eq_true.mp (globs P) _ h
  unfold Is at this
  rw [Bool.and_eq_true] at this
  refine ⟨?_, this.2⟩
  have h1 := this.1
  dsimp only at h1
  split at h1
  · rename_i b e; rw [beq_iff_eq.mp h1] at e; exact e
  · cases h1
theorem gIdent (P : Params) : nsIn (KF P) mainGlobals "Ident" = some (some (.ref 31)) := (glob (by decide)).1
theorem kIdent (P : Params) : keepIn (KF P) (.ref 31) = true := (glob (P := P) (x := "Ident") (by decide)).2
theorem gNode (P : Params) : nsIn (KF P) mainGlobals "Node" = some (some (.ref 296)) := (glob (by decide)).1
theorem kNode (P : Params) : keepIn (KF P) (.ref 296) = true := (glob (P := P) (x := "Node") (by decide)).2
theorem gLeaf (P : Params) : nsIn (KF P) mainGlobals "Leaf" = some (some (.ref 376)) := (glob (by decide)).1
theorem kLeaf (P : Params) : keepIn (KF P) (.ref 376) = true := (glob (P := P) (x := "Leaf") (by decide)).2
theorem gDrawn (P : Params) : nsIn (KF P) mainGlobals "_law_drawn" = some (some (.ref 385)) := (glob (by decide)).1
theorem kDrawn (P : Params) : keepIn (KF P) (.ref 385) = true := (glob (P := P) (x := "_law_drawn") (by decide)).2
theorem gMade (P : Params) : nsIn (KF P) mainGlobals "_law_made" = some (some (.ref 390)) := (glob (by decide)).1
theorem kMade (P : Params) : keepIn (KF P) (.ref 390) = true := (glob (P := P) (x := "_law_made") (by decide)).2
theorem gSame (P : Params) : nsIn (KF P) mainGlobals "_law_same" = some (some (.ref 402)) := (glob (by decide)).1
theorem kSame (P : Params) : keepIn (KF P) (.ref 402) = true := (glob (P := P) (x := "_law_same") (by decide)).2
theorem gShape (P : Params) : nsIn (KF P) mainGlobals "_law_shape" = some (some (.ref 407)) := (glob (by decide)).1
theorem kShape (P : Params) : keepIn (KF P) (.ref 407) = true := (glob (P := P) (x := "_law_shape") (by decide)).2
theorem gLost (P : Params) : nsIn (KF P) mainGlobals "_law_lost" = some (some (.ref 412)) := (glob (by decide)).1
theorem kLost (P : Params) : keepIn (KF P) (.ref 412) = true := (glob (P := P) (x := "_law_lost") (by decide)).2
end Mine
end
section
open PySem PySem.W PySem.Calls PyProof.Rows
set_option maxRecDepth 100000
set_option maxHeartbeats 1000000
set_option linter.unusedVariables false
namespace Mine
section
variable {W : Wd} {A : Around} {env : Env} {ρ : Loc} {κ : PM} {pos p : Pos}
theorem wt_chain {l r₁ r₂ : Expr} {op₁ op₂ : CmpOp} {Q : Bool → PM → Prop} (h : WE W A env ρ l κ fun a κ₁ => WE W A env ρ r₁ κ₁ fun c κ₂ => Wp W A T1 (compareOp op₁ a c) κ₂ fun v κ₃ => Wp W A T1 (truthy v) κ₃ fun t κ₄ => if t = true then
      WE W A env ρ r₂ κ₄ fun c₂ κ₅ => Wp W A T1 (compareOp op₂ c c₂) κ₅ fun v κ₆ => Wp W A T1 (truthy v) κ₆ Q else Q false κ₄)
    (hm : lastMarks [op₁, op₂] [r₁, r₂] = false := by with_unfolding_all rfl) : WT W A env ρ (.Compare l [op₁, op₂] [r₁, r₂] pos) κ Q := by
  intro R s b p S
  refine isTrue_chain (h.seq b p S fun _ κ₁ s₁ S₁ F₁ h₁ => test_link (h₁.seq b p S₁ fun _ κ₂ s₂ S₂ F₂ h₂ => h₂.seq b trivial S₂ fun v κ₃ s₃ S₃ F₃ h₃ => h₃.seq b trivial S₃ fun t κ₄ s₄ S₄ F₄ h₄ => ?_)) hm
  have F := ((F₁.trans F₂).trans F₃).trans F₄
  cases t with
  | false =>
    simp only [Bool.false_eq_true, if_false] at h₄ ⊢
    exact ⟨κ₄, S₄, F, h₄⟩
  | true =>
    simp only [if_true] at h₄ ⊢
    exact test_last (Wp.seq h₄ b p S₄ fun _ κ₅ s₅ S₅ F₅ h₅ => h₅.seq b trivial S₅ fun _ κ₆ s₆ S₆ F₆ h₆ => h₆.seq b trivial S₆ fun _ κ₇ s₇ S₇ F₇ q => ⟨κ₇, S₇, ((F.trans F₅).trans F₆).trans F₇, q⟩)
variable {Q : Flow → Loc → PM → Prop} {C x d : Addr} {names : List Str} {f : Str → Option PySem.Value}
/-- self.n = e -/
theorem wx_set (i : Nat) {self n : Str} {k : NameKind} {e : Expr} {rest : List Stmt} {p' : Pos} (hs0 : env.scope.names[i]? = some (self, k)) (hρ : ρ[i]? = some (some (.ref x))) (hI : Inst W.w.params κ C names x d f) (ok : setOk W.w.params C n = true) (hn : n ∈ names)
    (h : WE W A env ρ e κ fun v κ₁ => κ.le κ₁ ∧ ∀ o', Inst W.w.params (κ₁.put d o') C names x d (upd f n v) → WX W A env ρ rest (κ₁.put d o') Q)
    (hz : names.length ≤ 100 := by decide) (hd : (self == ("__debug__" : Str)) = false := by decide) (hc : (self == ("__classdict__" : Str)) = false := by decide)
    (hs : swapsWith e (some (.Attribute (.Name self p') n p)) pos.line env = Pure.pure false := by rfl) : WX W A env ρ (.Assign [.Attribute (.Name self p') n p] e pos :: rest) κ Q :=
  WX.cons (WS.setattr (Wp.mono h fun v κ₁ q => WE.name i hs0 hρ ((hI.le q.1).set ok hn hz fun o' hI' => q.2 o' hI') hd hc) hs)
end
section
variable {W : Wd} {A : Around} {κ : PM} {Q : PySem.Value → PM → Prop}
theorem t_nnR {x : Addr} (h : Q (.bool true) κ) : Wp W A T1 (compareOp .IsNot (.ref x) .none) κ Q := t_isNotNone h
theorem t_nnN (h : Q (.bool false) κ) : Wp W A T1 (compareOp .IsNot .none .none) κ Q := t_isNotNone h
theorem t_nnI {i : Int} {t : Tok} (h : Q (.bool true) κ) : Wp W A T1 (compareOp .IsNot (.int i t) .none) κ Q := t_isNotNone h
theorem t_nR {x : Addr} (h : Q (.bool false) κ) : Wp W A T1 (compareOp .Is (.ref x) .none) κ Q := t_isNone h
theorem t_nN (h : Q (.bool true) κ) : Wp W A T1 (compareOp .Is .none .none) κ Q := t_isNone h
theorem pick_t {p q : Prop} (h : p) : if true = true then p else q := h
theorem pick_f {p q : Prop} (h : q) : if false = true then p else q := h
end
def But (d : Addr) (κ κ' : PM) : Prop := ∀ b o, b ≠ d → κ b = some o → κ' b = some o
theorem But.rfl {d : Addr} {κ : PM} : But d κ κ := fun _ _ _ e => e
theorem But.put {d : Addr} {κ κ₁ κ₂ : PM} (h : But d κ κ₁) (l : κ₁.le κ₂) (o : Obj) : But d κ (κ₂.put d o) := fun b ob hb e => by rw [PM.put_ne _ _ hb]; exact l _ _ (h b ob hb e)
theorem But.le {d : Addr} {κ κ₁ κ₂ : PM} (h : But d κ κ₁) (l : κ₁.le κ₂) : But d κ κ₂ := fun b ob hb e => l _ _ (h b ob hb e)
theorem upd_self (f : Str → Option PySem.Value) (x : Str) (v : PySem.Value) : upd f x v x = some v := by simp [upd]
theorem upd_ne (f : Str → Option PySem.Value) {x y : Str} (v : PySem.Value) (h : y ≠ x) : upd f x v y = f y := by simp [upd, h]
end Mine
end
section
open PySem PySem.W PySem.Calls PyProof.Rows
set_option maxRecDepth 100000
set_option maxHeartbeats 1000000
set_option linter.unusedVariables false
namespace Mine
def rec314 : FnRec 314 := ⟨_, _, _, _, _, _, _, _, _, _, _, _, _, _, fun _ => rfl⟩
abbrev leafBinds (x : Addr) (kd : Int) (val : Str) (ctx : PySem.Value) (fl : Addr) (t1 t2 t3 t4 : Tok) : Loc :=
  [some (.ref x), some (.int kd t1), some (.str val t2), some ctx, some .none, some (.ref fl), some .none, some .none, some (.int 0 t3), some (.int 0 t4), some .none, none]
theorem leaf_init {W : Wd} {A : Around} {n : Nat} {κ : PM} {Q : PySem.Value → PM → Prop} {args : List PySem.Value} {kw : List (Str × PySem.Value)} {binds : List (Str × PySem.Value)} {x dx fl tc tl : Addr} {kd ln cl : Int} {val pre : Str} {nf : Nat}
    {t1 t2 t3 t4 t5 t6 t7 : Tok} (a : AOk A (n + 1)) (hb : BindsOk W rec314.fd args kw binds) (hρ : rec314.sc.names.map (fun y => binds.reverse.lookup y.1) = leafBinds x kd val (.ref tc) fl t1 t2 t3 t4)
    (hloc : ∀ x ∈ binds, rec314.sc.names.lookup x.1 = some .local) (hk0 : 0 ≤ kd) (hk1 : kd < 256)
    (hx : κ x = some (instObj 376 dx)) (hd : κ dx = some emptyDict) (hfl : RdO W κ fl (listOf #[] nf)) (hfd : fl ≠ dx) (htc : κ tc = some (tupOf #[.str pre t5, .ref tl])) (htl : κ tl = some (tupOf #[.int ln t6, .int cl t7]))
    (h : ∀ κ' f, But dx κ κ' → Inst W.w.params κ' 376 KL x dx f → LeafF κ' f kd val pre none → Q .none κ') : Cd W A (.call (.ref 314) ⟨args, kw⟩) κ Q := by
  have hxd : x ≠ dx := fun q => by subst q; rw [hd] at hx; simp at hx
  have I0 : Inst W.w.params κ 376 KL x dx (fun _ => none) := ⟨hx, [], 0, hd, Dc.nil _ _⟩
  refine Cd.def rec314 a hb (leafBinds x kd val (.ref tc) fl t1 t2 t3 t4) hρ (by kernel_rfl) (by decide) hloc (by decide) fun L => ?_
  refine WX.cons (WS.assert (wt_chain (WE.int fun _ => WE.name 1 rfl rfl (t_le (Wp.truthyBool ?_)))))
  rw [decide_eq_true hk0, if_pos rfl]
  refine WE.int fun _ => t_lt (Wp.truthyBool ⟨decide_eq_true hk1, ?_⟩)
  refine WX.cons (WS.if (WT.cmp (WE.name 3 rfl rfl (WE.none (t_nnR (Wp.truthyBool (pick_t ?_)))))))
  refine WX.cons (ws_unpack (a.deeper _).hh (WE.name 3 rfl rfl ⟨tc, _, rfl, htc, rfl, ?_⟩))
  refine ws_order (ws_attr (WE.name 0 rfl rfl (I0.set (setL (by decide)) (by decide) (by decide) fun o₁ I₁ => ?_)))
  have h1 : (κ.put dx o₁) tl = some (tupOf #[.int ln t6, .int cl t7]) := by rw [PM.put_ne _ _ (fun q => by subst q; rw [hd] at htl; simp at htl)]; exact htl
  refine ws_order (ws_tup (k := 0) (a.deeper _).hh h1 rfl ?_)
  refine ws_order (ws_attr (WE.name 0 rfl rfl (I₁.set (setL (by decide)) (by decide) (by decide) fun o₂ I₂ => ?_)))
  refine ws_order (ws_attr (WE.name 0 rfl rfl (I₂.set (setL (by decide)) (by decide) (by decide) fun o₃ I₃ => ?_)))
  refine ws_order_nil (ws_order_nil (WX.nil ?_))
  have B3 : But dx κ (((κ.put dx o₁).put dx o₂).put dx o₃) := ((But.rfl.put .rfl _).put .rfl _).put .rfl _
  generalize ((κ.put dx o₁).put dx o₂).put dx o₃ = κ₃ at B3 I₃
  have I3 : Inst W.w.params κ₃ 376 KL x dx (upd (upd (upd (fun _ => none) "_prefix" (.str pre t5)) "lineno" (.int ln t6)) "column" (.int cl t7)) := I₃
  clear I₃ I₂ I₁ I0
  -- self.ident = Ident()
  refine wx_set 0 rfl rfl I3 (setL (by decide)) (by decide) (WE.call (WE.glob rfl (gIdent _) (call_with0 (.ref (kIdent _)) (Wp.ofCd (Cd.make0 (mkI _) fun i di hi hdi hid => ⟨(PM.put_fresh hdi _).put hi, fun o₄ I4 => ?_⟩)))))
  have B4 := B3.put (d := dx) ((PM.put_fresh hdi emptyDict).put hi (o := instObj 31 di)) o₄
  generalize ((κ₃.put di emptyDict).put i (instObj 31 di)).put dx o₄ = κ₄ at B4 I4
  refine wx_set 0 rfl rfl I4 (setL (by decide)) (by decide) (WE.name 1 rfl rfl ⟨.rfl, fun o₅ I5 => ?_⟩)
  have B5 := B4.put .rfl o₅
  generalize κ₄.put dx o₅ = κ₅ at B5 I5
  refine wx_set 0 rfl rfl I5 (setL (by decide)) (by decide) (WE.name 2 rfl rfl ⟨.rfl, fun o₆ I6 => ?_⟩)
  have B6 := B5.put .rfl o₆
  generalize κ₅.put dx o₆ = κ₆ at B6 I6
  refine WX.cons (WS.if (WT.cmp (WE.name 4 rfl rfl (WE.none (t_nnN (Wp.truthyBool (pick_f (WX.nil ?_))))))))
  have hfl6 : RdO W κ₆ fl (listOf #[] nf) := hfl.imp (fun e => B6 _ _ hfd e) id
  refine wx_set 0 rfl rfl I6 (setL (by decide)) (by decide) (WE.sub (WE.name 5 rfl rfl (we_slice fun sl hsl => ?_)))
  have hfl7 : RdO W (κ₆.put sl sliceAll) fl (listOf #[] nf) := hfl6.imp (fun e => PM.put_fresh hsl _ _ _ e) id
  refine t_sliceAll hfl7 (PM.put_self ..) (by show 0 ≤ 1000000; omega) fun g hg => ⟨(PM.put_fresh hsl _).put (PM.le.none (PM.put_fresh hsl sliceAll) hg), fun o₇ I7 => ?_⟩
  have hgd : g ≠ dx := fun q => by subst q; rw [PM.put_ne _ _ (fun q => by subst q; rw [PM.put_self] at hg; cases hg)] at hg; have := I6.2; obtain ⟨es, nn, h1, _⟩ := this; rw [hg] at h1; cases h1
  have G7 : (((κ₆.put sl sliceAll).put g (listOf #[] 0)).put dx o₇) g = some (listOf #[] 0) := by rw [PM.put_ne _ _ hgd, PM.put_self]
  have B7 := B6.put (d := dx) ((PM.put_fresh hsl sliceAll).put (PM.le.none (PM.put_fresh hsl sliceAll) hg) (o := listOf #[] 0)) o₇
  generalize ((κ₆.put sl sliceAll).put g (listOf #[] 0)).put dx o₇ = κ₇ at G7 B7 I7
  refine wx_set 0 rfl rfl I7 (setL (by decide)) (by decide) (WE.list (WArgs.nil ⟨by decide, fun c hc => ⟨PM.put_fresh hc _, fun o₈ I8 => ?_⟩⟩))
  have hcd : c ≠ dx := fun q => by subst q; have := I7.2; obtain ⟨es, nn, h1, _⟩ := this; rw [hc] at h1; cases h1
  have C8 : ((κ₇.put c (listOf #[] 0)).put dx o₈) c = some (listOf #[] 0) := by rw [PM.put_ne _ _ hcd, PM.put_self]
  have G8 : ((κ₇.put c (listOf #[] 0)).put dx o₈) g = some (listOf #[] 0) := by rw [PM.put_ne _ _ hgd]; exact PM.put_fresh hc _ _ _ G7
  have B8 := B7.put (PM.put_fresh hc (listOf #[] 0)) o₈
  generalize (κ₇.put c (listOf #[] 0)).put dx o₈ = κ₈ at C8 G8 B8 I8
  refine wx_set 0 rfl rfl I8 (setL (by decide)) (by decide) (WE.name 6 rfl rfl ⟨.rfl, fun o₉ I9 => ?_⟩)
  refine wx_set 0 rfl rfl I9 (setL (by decide)) (by decide) (WE.name 7 rfl rfl ⟨.rfl, fun oa Ia => ?_⟩)
  refine wx_set 0 rfl rfl Ia (setL (by decide)) (by decide) (WE.name 8 rfl rfl ⟨.rfl, fun ob Ib => ?_⟩)
  refine wx_set 0 rfl rfl Ib (setL (by decide)) (by decide) (WE.name 9 rfl rfl ⟨.rfl, fun oc Ic => ?_⟩)
  refine wx_set 0 rfl rfl Ic (setL (by decide)) (by decide) (WE.name 10 rfl rfl ⟨.rfl, fun od Id => WX.nil ?_⟩)
  have BB := ((((B8.put .rfl o₉).put .rfl oa).put .rfl ob).put .rfl oc).put .rfl od
  have bb := ((((But.rfl (d := dx) (κ := κ₈).put .rfl o₉).put .rfl oa).put .rfl ob).put .rfl oc).put .rfl od
  refine h _ _ BB Id ⟨⟨t1, rfl⟩, ⟨t2, rfl⟩, ⟨t5, rfl⟩, ⟨c, 0, rfl, bb _ _ hcd C8⟩, ⟨g, 0, rfl, bb _ _ hgd G8⟩, ⟨ln, t6, rfl⟩, ⟨cl, t7, rfl⟩, ⟨t3, rfl⟩, .inl rfl, .inl rfl⟩
end Mine
end
section
open PySem PySem.W PySem.Calls PyProof.Rows
set_option maxRecDepth 100000
set_option maxHeartbeats 1000000
set_option linter.unusedVariables false
namespace Mine

/-! ## what an update of dicts leaves standing -/
def AllRef (o : Obj) : Prop := ∀ xs n, o.data = .seq xs n → ∀ v ∈ xs.toList, ∃ a, v = PySem.Value.ref a
theorem allRef_list (as : List Addr) (n : Nat) : AllRef (listOf (as.map PySem.Value.ref).toArray n) := fun xs m e v hv => by
  cases e
  simp at hv
  obtain ⟨a, _, q⟩ := hv
  exact ⟨a, q.symm⟩
theorem allRef_nil (n : Nat) : AllRef (listOf #[] n) := fun xs m e v hv => by cases e; simp at hv
def Off (D X : List Addr) (κ κ' : PM) : Prop := ∀ b o, κ b = some o → (∀ es n, o.data = .dict es n → b ∉ D) → (b ∈ X → AllRef o) → κ' b = some o
theorem Off.rfl {D X : List Addr} {κ : PM} : Off D X κ κ := fun _ _ e _ _ => e
theorem Off.trans {D X : List Addr} {a b c : PM} (x : Off D X a b) (y : Off D X b c) : Off D X a c := fun u o e h r => y u o (x u o e h r) h r
theorem Off.le {D X : List Addr} {κ κ' κ'' : PM} (x : Off D X κ κ') (l : κ'.le κ'') : Off D X κ κ'' := fun u o e h r => l _ _ (x u o e h r)
theorem Off.mono {D D' X X' : List Addr} {κ κ' : PM} (x : Off D X κ κ') (h : ∀ d ∈ D, d ∈ D') (g : ∀ d ∈ X, d ∈ X') : Off D' X' κ κ' := fun u o e k r => x u o e (fun es n q m => k es n q (h _ m)) fun m => r (g _ m)
theorem Off.put {D X : List Addr} {κ κ' : PM} {d : Addr} {es : Array DictEntry} {n : Nat} {od o' : Obj} (x : Off D X κ κ') (hd : κ' d = some od) (hod : od.data = .dict es n) (hD : d ∈ D) : Off D X κ (κ'.put d o') := fun u o e h r => by
  by_cases q : u = d
  · subst q
    exfalso
    have : ∀ es n, o.data = .dict es n → u ∉ D := h
    have e' := x u o e h r
    rw [hd] at e'; cases e'
    exact h _ _ hod hD
  · rw [PM.put_ne _ _ q]; exact x u o e h r
theorem But.off {d : Addr} {κ κ' : PM} (h : But d κ κ') {od : Obj} {es : Array DictEntry} {n : Nat} (hd : κ d = some od) (hod : od.data = .dict es n) : Off [d] [] κ κ' := fun u o e k _ => h u o (fun q => by
  subst q; rw [hd] at e; cases e; exact k _ _ hod (.head _)) e

namespace Tr
mutual
def ds : Tr → List Addr
  | leaf _ d _ _ _ => [d]
  | node _ d _ _ ch => d :: dsL ch
def dsL : List Tr → List Addr
  | [] => []
  | t :: r => t.ds ++ dsL r
end
end Tr
theorem Inst.off {P : Params} {κ κ' : PM} {C : Addr} {names : List Str} {a d : Addr} {f : Str → Option PySem.Value} {D X : List Addr} (h : Inst P κ C names a d f) (x : Off D X κ κ') (hd : d ∉ D) : Inst P κ' C names a d f := by
  obtain ⟨h1, es, n, h2, h3⟩ := h
  exact ⟨x _ _ h1 (fun _ _ e => by cases e) (fun _ _ _ e => by cases e), es, n, x _ _ h2 (fun _ _ _ => hd) (fun _ _ _ e => by cases e), h3⟩
theorem LeafF.off {κ κ' : PM} {f : Str → Option PySem.Value} {ty : Int} {val pre : Str} {par : Option Addr} {D X : List Addr} (h : LeafF κ f ty val pre par) (x : Off D X κ κ') : LeafF κ' f ty val pre par :=
  ⟨h.ty, h.val, h.pre, let ⟨a, n, y, z⟩ := h.ch; ⟨a, n, y, x _ _ z (fun _ _ e => by cases e) (fun _ => allRef_nil _)⟩, let ⟨a, n, y, z⟩ := h.fx; ⟨a, n, y, x _ _ z (fun _ _ e => by cases e) (fun _ => allRef_nil _)⟩, h.line, h.col, h.bd, h.par, h.wc⟩
theorem NodeF.off {κ κ' : PM} {f : Str → Option PySem.Value} {ty : Int} {lc : Addr} {cs : List Addr} {par : Option Addr} {D X : List Addr} (h : NodeF κ f ty lc cs par) (x : Off D X κ κ') : NodeF κ' f ty lc cs par :=
  ⟨h.ty, h.ch, let ⟨n, z⟩ := h.li; ⟨n, x _ _ z (fun _ _ e => by cases e) (fun _ => allRef_list _ _)⟩, h.fx, h.pm, h.nm, h.par, h.wc⟩
mutual
theorem At.off {P : Params} {κ κ' : PM} {D X : List Addr} (x : Off D X κ κ') : ∀ {t : Tr} {par : Option Addr}, (∀ d ∈ t.ds, d ∉ D) → At P κ t par → At P κ' t par
  | .leaf a d ty val pre, par, hd, h => by
    unfold At at h ⊢
    obtain ⟨f, i, F⟩ := h
    exact ⟨f, i.off x (hd d (by simp [Tr.ds])), F.off x⟩
  | .node a d lc ty ch, par, hd, h => by
    unfold At at h ⊢
    obtain ⟨⟨f, i, F⟩, c⟩ := h
    exact ⟨⟨f, i.off x (hd d (by simp [Tr.ds])), F.off x⟩, AtL.off x (fun e he => hd e (by simp [Tr.ds, he])) c⟩
theorem AtL.off {P : Params} {κ κ' : PM} {D X : List Addr} (x : Off D X κ κ') : ∀ {ts : List Tr} {q : Addr}, (∀ d ∈ Tr.dsL ts, d ∉ D) → AtL P κ ts q → AtL P κ' ts q
  | [], _, _, _ => by unfold AtL; trivial
  | t :: r, q, hd, h => by
    unfold AtL at h ⊢
    exact ⟨At.off x (fun e he => hd e (by simp [Tr.dsL, he])) h.1, AtL.off x (fun e he => hd e (by simp [Tr.dsL, he])) h.2⟩
end

theorem inst_dict {P : Params} {κ : PM} {C : Addr} {names : List Str} {a d : Addr} {f : Str → Option PySem.Value} (h : Inst P κ C names a d f) : ∃ es n, κ d = some (dictOf es n) := let ⟨_, es, n, h2, _⟩ := h; ⟨es, n, h2⟩

namespace Tr
def setTy : Tr → Int → Tr
  | leaf a d _ v p, ty => leaf a d ty v p
  | node a d l _ ch, ty => node a d l ty ch
def setVal : Tr → Str → Tr
  | leaf a d ty _ p, v => leaf a d ty v p
  | t, _ => t
def setPre : Tr → Str → Tr
  | leaf a d ty v _, p => leaf a d ty v p
  | t, _ => t
end Tr
/-- what a write to the node's own dict may do -/
def Writes (P : Params) (κ : PM) (t : Tr) (f : Str → Option PySem.Value) (name : Str) (v : PySem.Value) (t' : Tr) (par' : Option Addr) : Prop :=
  ∀ o', Inst P (κ.put t.dct o') t.cls t.nms t.addr t.dct (upd f name v) → At P (κ.put t.dct o') t' par'

theorem At.mod {P : Params} {κ : PM} {t : Tr} {par : Option Addr} (h : At P κ t par) (nd : t.ds.Nodup) :
    ∃ f, Inst P κ t.cls t.nms t.addr t.dct f ∧ ParIs f par ∧ WcIs f ∧ (∃ u, f "type" = some (.int (match t with | .leaf _ _ ty _ _ => ty | .node _ _ _ ty _ => ty) u)) ∧
      (∀ q, Writes P κ t f "parent" (.ref q) t (some q)) ∧ Writes P κ t f "parent" .none t none ∧ (∀ b, Writes P κ t f "was_changed" (.bool b) t par) ∧ (∀ i u, Writes P κ t f "type" (.int i u) (t.setTy i) par) ∧
      (t.isLeaf = true → (∀ x u, Writes P κ t f "value" (.str x u) (t.setVal x) par) ∧ (∀ x u, Writes P κ t f "_prefix" (.str x u) (t.setPre x) par)) := by
  cases t with
  | leaf a d ty val pre =>
    unfold At at h
    obtain ⟨f, i, F⟩ := h
    obtain ⟨es, n, hd⟩ := inst_dict i
    have G : ∀ o', LeafF (κ.put d o') f ty val pre par := fun o' => F.off (D := [d]) (X := []) (Off.rfl.put hd rfl (.head _))
    refine ⟨f, i, F.par, F.wc, F.ty, fun q o' I => ?_, fun o' I => ?_, fun b o' I => ?_, fun i u o' I => ?_, fun _ => ⟨fun x u o' I => ?_, fun x u o' I => ?_⟩⟩ <;> unfold At <;> refine ⟨_, I, ?_⟩
    · exact ⟨F.ty, F.val, F.pre, (G o').ch, (G o').fx, F.line, F.col, F.bd, upd_self .., F.wc⟩
    · exact ⟨F.ty, F.val, F.pre, (G o').ch, (G o').fx, F.line, F.col, F.bd, .inr (upd_self ..), F.wc⟩
    · exact ⟨F.ty, F.val, F.pre, (G o').ch, (G o').fx, F.line, F.col, F.bd, by cases par <;> exact F.par, .inr ⟨b, upd_self ..⟩⟩
    · exact ⟨⟨u, upd_self ..⟩, F.val, F.pre, (G o').ch, (G o').fx, F.line, F.col, F.bd, by cases par <;> exact F.par, F.wc⟩
    · exact ⟨F.ty, ⟨u, upd_self ..⟩, F.pre, (G o').ch, (G o').fx, F.line, F.col, F.bd, by cases par <;> exact F.par, F.wc⟩
    · exact ⟨F.ty, F.val, ⟨u, upd_self ..⟩, (G o').ch, (G o').fx, F.line, F.col, F.bd, by cases par <;> exact F.par, F.wc⟩
  | node a d l ty ch =>
    unfold At at h
    obtain ⟨⟨f, i, F⟩, c⟩ := h
    obtain ⟨es, n, hd⟩ := inst_dict i
    have O : ∀ o', Off [d] [] κ (κ.put d o') := fun o' => Off.rfl.put hd rfl (.head _)
    have G : ∀ o', NodeF (κ.put d o') f ty l (ch.map Tr.addr) par := fun o' => F.off (O o')
    have K : ∀ o', AtL P (κ.put d o') ch a := fun o' => AtL.off (O o') (fun e he q => by
      simp only [Tr.ds, List.nodup_cons] at nd
      exact nd.1 (List.mem_singleton.mp q ▸ he)) c
    refine ⟨f, i, F.par, F.wc, F.ty, fun q o' I => ?_, fun o' I => ?_, fun b o' I => ?_, fun i u o' I => ?_, fun hl => (by cases hl)⟩ <;> unfold At <;> refine ⟨⟨_, I, ?_⟩, K o'⟩
    · exact ⟨F.ty, F.ch, (G o').li, F.fx, F.pm, F.nm, upd_self .., F.wc⟩
    · exact ⟨F.ty, F.ch, (G o').li, F.fx, F.pm, F.nm, .inr (upd_self ..), F.wc⟩
    · exact ⟨F.ty, F.ch, (G o').li, F.fx, F.pm, F.nm, by cases par <;> exact F.par, .inr ⟨b, upd_self ..⟩⟩
    · exact ⟨⟨u, upd_self ..⟩, F.ch, (G o').li, F.fx, F.pm, F.nm, by cases par <;> exact F.par, F.wc⟩

/-- an update of a list of ints leaves trees alone -/
theorem But.offInt {la : Addr} {κ κ' : PM} (h : But la κ κ') {k : Int} {t : Tok} {n : Nat} (hl : κ la = some (listOf #[.int k t] n)) : Off [] [la] κ κ' := fun u o e _ r => h u o (fun q => by
  subst q
  rw [hl] at e; cases e
  obtain ⟨a, ha⟩ := r (.head _) #[.int k t] n (Eq.refl _) (.int k t) (by simp)
  cases ha) e
theorem But.trans {d : Addr} {a b c : PM} (x : But d a b) (y : But d b c) : But d a c := fun u o h e => y u o h (x u o h e)
theorem But.ofLe {d : Addr} {a b : PM} (x : a.le b) : But d a b := fun u o _ e => x u o e

namespace Tr
mutual
/-- the lists of the inner nodes -/
def ls : Tr → List Addr
  | leaf .. => []
  | node _ _ l _ ch => l :: lsL ch
def lsL : List Tr → List Addr
  | [] => []
  | t :: r => t.ls ++ lsL r
end
mutual
def ok : Tr → Prop
  | leaf _ _ ty v p => 0 ≤ ty ∧ ty < 100 ∧ v.length ≤ 1 ∧ p.length ≤ 1 ∧ PyData.strOk v = true
  | node _ _ _ ty ch => 256 ≤ ty ∧ okL ch
def okL : List Tr → Prop
  | [] => True
  | t :: r => t.ok ∧ okL r
end
mutual
/-- texts that can be laid out -/
def sok : Tr → Prop
  | leaf _ _ _ v _ => PyData.strOk v = true
  | node _ _ _ _ ch => sokL ch
def sokL : List Tr → Prop
  | [] => True
  | t :: r => t.sok ∧ sokL r
end
theorem sokL_all {ts : List Tr} (h : ∀ t ∈ ts, t.sok) : sokL ts := by
  induction ts with
  | nil => unfold sokL; trivial
  | cons t r ih => unfold sokL; exact ⟨h t (.head _), ih fun u hu => h u (.tail _ hu)⟩
theorem sokL_get {ts : List Tr} (h : sokL ts) : ∀ t ∈ ts, t.sok := by
  induction ts with
  | nil => intro t ht; cases ht
  | cons t r ih =>
    unfold sokL at h
    intro u hu
    rcases List.mem_cons.mp hu with rfl | hu
    · exact h.1
    · exact ih h.2 u hu
mutual
theorem ok_sok : ∀ {t : Tr}, t.ok → t.sok
  | leaf .., h => by unfold ok at h; unfold sok; exact h.2.2.2.2
  | node .., h => by unfold ok at h; unfold sok; exact okL_sok h.2
theorem okL_sok : ∀ {ts : List Tr}, okL ts → sokL ts
  | [], _ => by unfold sokL; trivial
  | t :: r, h => by unfold okL at h; unfold sokL; exact ⟨ok_sok h.1, okL_sok h.2⟩
end
theorem okL_all {ts : List Tr} (h : ∀ t ∈ ts, t.ok) : okL ts := by
  induction ts with
  | nil => unfold okL; trivial
  | cons t r ih => unfold okL; exact ⟨h t (.head _), ih fun u hu => h u (.tail _ hu)⟩
theorem okL_get {ts : List Tr} (h : okL ts) : ∀ t ∈ ts, t.ok := by
  induction ts with
  | nil => intro t ht; cases ht
  | cons t r ih =>
    unfold okL at h
    intro u hu
    rcases List.mem_cons.mp hu with rfl | hu
    · exact h.1
    · exact ih h.2 u hu
theorem dsL_append (a b : List Tr) : dsL (a ++ b) = dsL a ++ dsL b := by
  induction a with
  | nil => simp [dsL]
  | cons t r ih => simp [dsL, ih]
theorem lsL_append (a b : List Tr) : lsL (a ++ b) = lsL a ++ lsL b := by
  induction a with
  | nil => simp [lsL]
  | cons t r ih => simp [lsL, ih]
end Tr
mutual
theorem At.has {P : Params} {κ : PM} : ∀ {t : Tr} {par : Option Addr}, At P κ t par →
    (∀ d ∈ t.ds, ∃ es n, κ d = some (dictOf es n)) ∧ (∀ l ∈ t.ls, ∃ (as : List Addr) (n : Nat), κ l = some (listOf (as.map PySem.Value.ref).toArray n)) ∧ (∀ a ∈ t.pre, ∃ C d, κ a = some (instObj C d))
  | .leaf a d ty v p, par, h => by
    unfold At at h
    obtain ⟨f, i, F⟩ := h
    obtain ⟨i1, es, n, i2, _⟩ := i
    refine ⟨fun e he => ?_, fun l hl => ?_, fun b hb => ?_⟩
    · simp [Tr.ds] at he; subst he; exact ⟨es, n, i2⟩
    · simp [Tr.ls] at hl
    · simp [Tr.pre] at hb; subst hb; exact ⟨_, _, i1⟩
  | .node a d l ty ch, par, h => by
    unfold At at h
    obtain ⟨⟨f, i, F⟩, c⟩ := h
    obtain ⟨i1, es, n, i2, _⟩ := i
    obtain ⟨h1, h2, h3⟩ := AtL.has c
    refine ⟨fun e he => ?_, fun l' hl => ?_, fun b hb => ?_⟩
    · simp only [Tr.ds, List.mem_cons] at he
      rcases he with rfl | he
      · exact ⟨es, n, i2⟩
      · exact h1 e he
    · simp only [Tr.ls, List.mem_cons] at hl
      rcases hl with rfl | hl
      · obtain ⟨m, hm⟩ := F.li; exact ⟨_, m, hm⟩
      · exact h2 l' hl
    · simp only [Tr.pre, List.mem_cons] at hb
      rcases hb with rfl | hb
      · exact ⟨_, _, i1⟩
      · exact h3 b hb
theorem AtL.has {P : Params} {κ : PM} : ∀ {ts : List Tr} {q : Addr}, AtL P κ ts q →
    (∀ d ∈ Tr.dsL ts, ∃ es n, κ d = some (dictOf es n)) ∧ (∀ l ∈ Tr.lsL ts, ∃ (as : List Addr) (n : Nat), κ l = some (listOf (as.map PySem.Value.ref).toArray n)) ∧ (∀ a ∈ Tr.preL ts, ∃ C d, κ a = some (instObj C d))
  | [], _, _ => ⟨fun _ h => (by simp [Tr.dsL] at h), fun _ h => (by simp [Tr.lsL] at h), fun _ h => (by simp [Tr.preL] at h)⟩
  | t :: r, q, h => by
    unfold AtL at h
    obtain ⟨a1, a2, a3⟩ := At.has h.1
    obtain ⟨b1, b2, b3⟩ := AtL.has h.2
    refine ⟨fun e he => ?_, fun l' hl => ?_, fun b hb => ?_⟩
    · simp only [Tr.dsL, List.mem_append] at he; exact he.elim (a1 e) (b1 e)
    · simp only [Tr.lsL, List.mem_append] at hl; exact hl.elim (a2 l') (b2 l')
    · simp only [Tr.preL, List.mem_append] at hb; exact hb.elim (a3 b) (b3 b)
end
/-- new since κ, and nothing twice -/
structure New (κ : PM) (t : Tr) : Prop where
  ds : t.ds.Nodup
  ls : t.ls.Nodup
  fd : ∀ d ∈ t.ds, κ d = none
  fl : ∀ l ∈ t.ls, κ l = none
  fa : ∀ a ∈ t.pre, κ a = none
structure NewL (κ : PM) (ts : List Tr) : Prop where
  ds : (Tr.dsL ts).Nodup
  ls : (Tr.lsL ts).Nodup
  fd : ∀ d ∈ Tr.dsL ts, κ d = none
  fl : ∀ l ∈ Tr.lsL ts, κ l = none
  fa : ∀ a ∈ Tr.preL ts, κ a = none
theorem NewL.nil (κ : PM) : NewL κ [] := ⟨by simp [Tr.dsL], by simp [Tr.lsL], fun _ h => (by simp [Tr.dsL] at h), fun _ h => (by simp [Tr.lsL] at h), fun _ h => (by simp [Tr.preL] at h)⟩
/-- one more tree -/
theorem NewL.snoc {P : Params} {κ κ' : PM} {ts : List Tr} {t : Tr} (h : NewL κ ts) (hts : ∀ u ∈ ts, ∃ par, At P κ' u par) (n : New κ' t) (back : ∀ b, κ' b = none → κ b = none) : NewL κ (ts ++ [t]) := by
  have inl : ∀ {us : List Tr}, (∀ u ∈ us, ∃ par, At P κ' u par) → (∀ d ∈ Tr.dsL us, κ' d ≠ none) ∧ (∀ l ∈ Tr.lsL us, κ' l ≠ none) := by
    intro us hus
    induction us with
    | nil => exact ⟨fun _ h => (by simp [Tr.dsL] at h), fun _ h => (by simp [Tr.lsL] at h)⟩
    | cons u r ih =>
      obtain ⟨par, hu⟩ := hus u (.head _)
      obtain ⟨a1, a2, _⟩ := hu.has
      obtain ⟨b1, b2⟩ := ih fun v hv => hus v (.tail _ hv)
      refine ⟨fun e he => ?_, fun l hl => ?_⟩
      · simp only [Tr.dsL, List.mem_append] at he
        rcases he with he | he
        · obtain ⟨_, _, q⟩ := a1 e he; rw [q]; simp
        · exact b1 e he
      · simp only [Tr.lsL, List.mem_append] at hl
        rcases hl with hl | hl
        · obtain ⟨_, _, q⟩ := a2 l hl; rw [q]; simp
        · exact b2 l hl
  obtain ⟨i1, i2⟩ := inl hts
  have e1 : Tr.dsL [t] = t.ds := by simp [Tr.dsL]
  have e2 : Tr.lsL [t] = t.ls := by simp [Tr.lsL]
  have e3 : Tr.preL [t] = t.pre := by simp [Tr.preL]
  refine ⟨?_, ?_, fun d hd => ?_, fun l hl => ?_, fun a ha => ?_⟩
  · rw [Tr.dsL_append, e1, List.nodup_append]
    exact ⟨h.ds, n.ds, fun a ha b hb q => i1 a ha (q ▸ n.fd b hb)⟩
  · rw [Tr.lsL_append, e2, List.nodup_append]
    exact ⟨h.ls, n.ls, fun a ha b hb q => i2 a ha (q ▸ n.fl b hb)⟩
  · rw [Tr.dsL_append, e1, List.mem_append] at hd
    exact hd.elim (h.fd d) fun q => back _ (n.fd d q)
  · rw [Tr.lsL_append, e2, List.mem_append] at hl
    exact hl.elim (h.fl l) fun q => back _ (n.fl l q)
  · rw [Tr.preL_append, e3, List.mem_append] at ha
    exact ha.elim (h.fa a) fun q => back _ (n.fa a q)
end Mine
end
section
open PySem PySem.W PySem.Calls PyProof.Rows
set_option maxRecDepth 100000
namespace Mine
def rec180 : FnRec 180 := ⟨_, _, _, _, _, _, _, _, _, _, _, _, _, _, fun _ => rfl⟩
def rec187 : FnRec 187 := ⟨_, _, _, _, _, _, _, _, _, _, _, _, _, _, fun _ => rfl⟩
def rec194 : FnRec 194 := ⟨_, _, _, _, _, _, _, _, _, _, _, _, _, _, fun _ => rfl⟩
def rec199 : FnRec 199 := ⟨_, _, _, _, _, _, _, _, _, _, _, _, _, _, fun _ => rfl⟩
def rec206 : FnRec 206 := ⟨_, _, _, _, _, _, _, _, _, _, _, _, _, _, fun _ => rfl⟩
def rec213 : FnRec 213 := ⟨_, _, _, _, _, _, _, _, _, _, _, _, _, _, fun _ => rfl⟩
def rec220 : FnRec 220 := ⟨_, _, _, _, _, _, _, _, _, _, _, _, _, _, fun _ => rfl⟩
def rec229 : FnRec 229 := ⟨_, _, _, _, _, _, _, _, _, _, _, _, _, _, fun _ => rfl⟩
def rec258 : FnRec 258 := ⟨_, _, _, _, _, _, _, _, _, _, _, _, _, _, fun _ => rfl⟩
def rec272 : FnRec 272 := ⟨_, _, _, _, _, _, _, _, _, _, _, _, _, _, fun _ => rfl⟩
def rec321 : FnRec 321 := ⟨_, _, _, _, _, _, _, _, _, _, _, _, _, _, fun _ => rfl⟩
def rec328 : FnRec 328 := ⟨_, _, _, _, _, _, _, _, _, _, _, _, _, _, fun _ => rfl⟩
def rec335 : FnRec 335 := ⟨_, _, _, _, _, _, _, _, _, _, _, _, _, _, fun _ => rfl⟩
def rec342 : FnRec 342 := ⟨_, _, _, _, _, _, _, _, _, _, _, _, _, _, fun _ => rfl⟩
def rec349 : FnRec 349 := ⟨_, _, _, _, _, _, _, _, _, _, _, _, _, _, fun _ => rfl⟩
def rec356 : FnRec 356 := ⟨_, _, _, _, _, _, _, _, _, _, _, _, _, _, fun _ => rfl⟩
def rec363 : FnRec 363 := ⟨_, _, _, _, _, _, _, _, _, _, _, _, _, _, fun _ => rfl⟩
def rec372 : FnRec 372 := ⟨_, _, _, _, _, _, _, _, _, _, _, _, _, _, fun _ => rfl⟩
def rec56 : FnRec 56 := ⟨_, _, _, _, _, _, _, _, _, _, _, _, _, _, fun _ => rfl⟩
def rec113 : FnRec 113 := ⟨_, _, _, _, _, _, _, _, _, _, _, _, _, _, fun _ => rfl⟩
def rec121 : FnRec 121 := ⟨_, _, _, _, _, _, _, _, _, _, _, _, _, _, fun _ => rfl⟩
def rec144 : FnRec 144 := ⟨_, _, _, _, _, _, _, _, _, _, _, _, _, _, fun _ => rfl⟩
def rec390 : FnRec 390 := ⟨_, _, _, _, _, _, _, _, _, _, _, _, _, _, fun _ => rfl⟩
def rec402 : FnRec 402 := ⟨_, _, _, _, _, _, _, _, _, _, _, _, _, _, fun _ => rfl⟩
def rec407 : FnRec 407 := ⟨_, _, _, _, _, _, _, _, _, _, _, _, _, _, fun _ => rfl⟩
def rec412 : FnRec 412 := ⟨_, _, _, _, _, _, _, _, _, _, _, _, _, _, fun _ => rfl⟩
def rec417 : FnRec 417 := ⟨_, _, _, _, _, _, _, _, _, _, _, _, _, _, fun _ => rfl⟩
end Mine
end
section
open PySem PySem.W PySem.Calls PyProof.Rows
set_option maxRecDepth 100000
set_option maxHeartbeats 1000000
set_option linter.unusedVariables false
namespace Mine
theorem setT {P : Params} {t : Tr} {n : Str} (h : n ∈ t.nms) : setOk P t.cls n = true := by
  cases t with
  | leaf => exact setL h
  | node => exact setN h
theorem ownT {P : Params} {t : Tr} {n : Str} (h : n ∈ t.nms) : ownOk P t.cls n = true := by
  cases t with
  | leaf => exact ownL h
  | node => exact ownN h
theorem parMem (t : Tr) : ("parent" : Str) ∈ t.nms := by cases t <;> simp [Tr.nms, KL, KN]
theorem wcMem (t : Tr) : ("was_changed" : Str) ∈ t.nms := by cases t <;> simp [Tr.nms, KL, KN]
theorem tyMem (t : Tr) : ("type" : Str) ∈ t.nms := by cases t <;> simp [Tr.nms, KL, KN]
theorem nmsLen (t : Tr) : t.nms.length ≤ 100 := by cases t <;> simp [Tr.nms, KL, KN]
theorem parT (P : Params) (t : Tr) : clsOk P t.cls "parent" .none = true := by
  cases t with
  | leaf => exact parL P
  | node => exact parN P
theorem At.own {P : Params} {κ : PM} {t : Tr} {par : Option Addr} (h : At P κ t par) : ∃ f, Inst P κ t.cls t.nms t.addr t.dct f ∧ ParIs f par := by
  cases t with
  | leaf => unfold At at h; obtain ⟨f, i, F⟩ := h; exact ⟨f, i, F.par⟩
  | node => unfold At at h; obtain ⟨⟨f, i, F⟩, _⟩ := h; exact ⟨f, i, F.par⟩
def parV : Option Addr → PySem.Value
  | none => .none
  | some q => .ref q
theorem getParent {W : Wd} {A : Around} {κ : PM} {Q : PySem.Value → PM → Prop} {t : Tr} {f : Str → Option PySem.Value} {par : Option Addr} {x : Bool} (h : Inst W.w.params κ t.cls t.nms t.addr t.dct f) (hp : ParIs f par) (q : Q (parV par) κ) : Wp W A T1 (getAttr (.ref t.addr) "parent" x) κ Q := by
  cases par with
  | some p => exact h.own (ownT (parMem t)) hp rfl q
  | none =>
    rcases hp with hp | hp
    · exact h.cls (parT _ t) hp q
    · exact h.own (ownT (parMem t)) hp rfl q

theorem mthN' {P : Params} {n : Str} {a : Addr} (h : (n, a) ∈ ([("clone", 199), ("_eq", 194), ("leaves", 144), ("post_order", 206), ("pre_order", 213), ("remove", 121), ("changed", 113), ("__str__", 187), ("invalidate_sibling_maps", 258), ("_remove_from_sibling_maps", 272)] : List (Str × Addr))) : methOk P 296 n a = true := List.all_eq_true.mp (mthN P) _ h
theorem mthL' {P : Params} {n : Str} {a : Addr} (h : (n, a) ∈ ([("clone", 335), ("_eq", 328), ("leaves", 342), ("post_order", 349), ("pre_order", 356), ("remove", 121), ("changed", 113), ("__str__", 321)] : List (Str × Addr))) : methOk P 376 n a = true := List.all_eq_true.mp (mthL P) _ h
theorem keepFs (P : Params) : ([56, 113, 121, 144, 180, 187, 194, 199, 206, 213, 258, 272, 321, 328, 335, 342, 349, 356] : List Addr).all (fun a => keepIn (KF P) (.ref a)) = true := by kernel_rfl
theorem keepF {P : Params} {a : Addr} (h : a ∈ ([56, 113, 121, 144, 180, 187, 194, 199, 206, 213, 258, 272, 321, 328, 335, 342, 349, 356] : List Addr)) : keepIn (KF P) (.ref a) = true := List.all_eq_true.mp (keepFs P) _ h

/-- Node.invalidate_sibling_maps -/
theorem inval {W : Wd} {A : Around} {n : Nat} {κ : PM} {Q : PySem.Value → PM → Prop} {x dx : Addr} {f : Str → Option PySem.Value} (a : AOk A n) (hI : Inst W.w.params κ 296 KN x dx f)
    (h : ∀ o₁ o₂, Inst W.w.params ((κ.put dx o₁).put dx o₂) 296 KN x dx (upd (upd f "prev_sibling_map" .none) "next_sibling_map" .none) → Q .none ((κ.put dx o₁).put dx o₂)) : Wp W A T1 (PySem.call (.ref 258) [.ref x]) κ Q := by
  refine Wp.ofCd (Cd.def rec258 a (BindsOk.eq rfl) [some (.ref x)] rfl (by kernel_rfl) (by decide) (locs rfl) (by decide) fun L => ?_)
  refine wx_set 0 rfl rfl hI (setN (by decide)) (by decide) (WE.none ⟨.rfl, fun o₁ I1 => ?_⟩)
  exact wx_set 0 rfl rfl I1 (setN (by decide)) (by decide) (WE.none ⟨.rfl, fun o₂ I2 => WX.nil (h _ _ I2)⟩)

theorem dsL_mem : ∀ {ts : List Tr} {t : Tr} {d : Addr}, t ∈ ts → d ∈ t.ds → d ∈ Tr.dsL ts
  | u :: r, t, d, h, hd => by
    unfold Tr.dsL
    rcases List.mem_cons.mp h with rfl | h
    · exact List.mem_append_left _ hd
    · exact List.mem_append_right _ (dsL_mem h hd)
theorem dct_mem (t : Tr) : t.dct ∈ t.ds := by cases t <;> simp [Tr.dct, Tr.ds]
theorem dsL_nd : ∀ {ts : List Tr} {t : Tr}, (Tr.dsL ts).Nodup → t ∈ ts → t.ds.Nodup
  | u :: r, t, nd, h => by
    unfold Tr.dsL at nd
    rw [List.nodup_append] at nd
    rcases List.mem_cons.mp h with rfl | h
    · exact nd.1
    · exact dsL_nd nd.2.1 h
theorem dsL_apart : ∀ {ts : List Tr} {i j : Nat} {a b : Tr} {d : Addr}, (Tr.dsL ts).Nodup → i ≠ j → ts[i]? = some a → ts[j]? = some b → d ∈ a.ds → d ∉ b.ds
  | [], i, _, a, _, _, _, _, h, _, _ => by simp at h
  | u :: r, i, j, a, b, d, nd, hij, hi, hj, hd => by
    unfold Tr.dsL at nd
    rw [List.nodup_append] at nd
    cases i with
    | zero =>
      cases j with
      | zero => exact absurd rfl hij
      | succ j =>
        simp at hi hj
        subst hi
        exact fun q => nd.2.2 d hd d (dsL_mem (List.mem_of_getElem? hj) q) rfl
    | succ i =>
      cases j with
      | zero =>
        simp at hi hj
        subst hj
        exact fun q => nd.2.2 d q d (dsL_mem (List.mem_of_getElem? hi) hd) rfl
      | succ j =>
        simp at hi hj
        exact dsL_apart nd.2.1 (fun q => hij (by rw [q])) hi hj hd
abbrev nodeBinds (x : Addr) (kd : Int) (lc : Addr) (t1 : Tok) : Loc := [some (.ref x), some (.int kd t1), some (.ref lc), some .none, some .none, some .none, none, none, none]
theorem node_init {W : Wd} {A : Around} {n : Nat} {κ : PM} {Q : PySem.Value → PM → Prop} {args : List PySem.Value} {kw : List (Str × PySem.Value)} {binds : List (Str × PySem.Value)} {x dx lc : Addr} {kd : Int} {m : Nat} {ts : List Tr}
    {t1 : Tok} (a : AOk A (n + 2)) (hb : BindsOk W rec180.fd args kw binds) (hρ : rec180.sc.names.map (fun y => binds.reverse.lookup y.1) = nodeBinds x kd lc t1) (hloc : ∀ x ∈ binds, rec180.sc.names.lookup x.1 = some .local) (hk : 256 ≤ kd)
    (hx : κ x = some (instObj 296 dx)) (hd : κ dx = some emptyDict) (hlc : κ lc = some (listOf ((ts.map Tr.addr).map PySem.Value.ref).toArray m)) (hlen : ts.length ≤ 1000) (hts : ∀ t ∈ ts, At W.w.params κ t none) (nd : (Tr.dsL ts).Nodup) (hdx : dx ∉ Tr.dsL ts)
    (h : ∀ κ' c, Off (dx :: Tr.dsL ts) [] κ κ' → κ c = none → At W.w.params κ' (.node x dx c kd ts) none → Q .none κ') : Cd W A (.call (.ref 180) ⟨args, kw⟩) κ Q := by
  have I0 : Inst W.w.params κ 296 KN x dx (fun _ => none) := ⟨hx, [], 0, hd, Dc.nil _ _⟩
  refine Cd.def rec180 (a.less (Nat.le_refl _)) hb (nodeBinds x kd lc t1) hρ (by kernel_rfl) (by decide) hloc (by decide) fun L => ?_
  refine WX.cons (WS.assert (WT.cmp (WE.name 1 rfl rfl (WE.int fun _ => t_ge (Wp.truthyBool ⟨decide_eq_true hk, ?_⟩)))))
  refine wx_set 0 rfl rfl I0 (setN (by decide)) (by decide) (WE.name 1 rfl rfl ⟨.rfl, fun o₁ I1 => ?_⟩)
  have B1 : Off [dx] [] κ (κ.put dx o₁) := Off.rfl.put hd rfl (.head _)
  have b1 : But dx κ (κ.put dx o₁) := But.rfl.put .rfl _
  generalize κ.put dx o₁ = κ₁ at I1 B1 b1
  have hlcd : lc ≠ dx := fun q => by subst q; rw [hd] at hlc; simp at hlc
  refine wx_set 0 rfl rfl I1 (setN (by decide)) (by decide) (WE.call (WE.blt rfl rfl rfl (by decide) (call_with .type (WArgs.cons (WE.name 2 rfl rfl (WArgs.nil (t_listOf (b1 _ _ hlcd hlc) (by simp; omega) fun c m' hc => ⟨PM.put_fresh hc _, fun o₂ I2 => ?_⟩)))))))
  have hcd : c ≠ dx := fun q => by subst q; obtain ⟨es, nn, e⟩ := inst_dict I1; rw [hc] at e; cases e
  have hc0 : κ c = none := by
    cases e : κ c with
    | none => rfl
    | some o => have := b1 _ _ hcd e; rw [hc] at this; cases this
  obtain ⟨es1, nn1, hd1⟩ := inst_dict I1
  have C2 : ((κ₁.put c (listOf ((ts.map Tr.addr).map PySem.Value.ref).toArray m')).put dx o₂) c = some (listOf ((ts.map Tr.addr).map PySem.Value.ref).toArray m') := by rw [PM.put_ne _ _ hcd, PM.put_self]
  have B2 : Off [dx] [] κ ((κ₁.put c (listOf ((ts.map Tr.addr).map PySem.Value.ref).toArray m')).put dx o₂) := (B1.le (PM.put_fresh hc _)).put (by rw [PM.put_ne _ _ (Ne.symm hcd)]; exact hd1) rfl (.head _)
  generalize (κ₁.put c (listOf ((ts.map Tr.addr).map PySem.Value.ref).toArray m')).put dx o₂ = κ₂ at I2 C2 B2
  have A2 : ∀ t ∈ ts, At W.w.params κ₂ t none := fun t ht => At.off B2 (fun e he q => hdx (by rw [← List.mem_singleton.mp q]; exact dsL_mem ht he)) (hts t ht)
  refine WX.cons (WS.forL (xs := ((ts.map Tr.addr).map PySem.Value.ref).toArray) (m := m') (a.deeper _).hh (fun l k ρ κ' => l = c ∧ (∃ u, ρ = [some (.ref x), some (.int kd t1), some (.ref lc), some .none, some .none, some .none, u, none, none]) ∧
      κ' c = some (listOf ((ts.map Tr.addr).map PySem.Value.ref).toArray m') ∧ Inst W.w.params κ' 296 KN x dx (upd (upd (fun _ => none) "type" (.int kd t1)) "children" (.ref c)) ∧ Off (Tr.dsL ts) [] κ₂ κ' ∧
      ∀ j t, ts[j]? = some t → At W.w.params κ' t (if j < k then some x else none)) ?_ ?_ ?_ ?_)
  · exact WE.attr (WE.name 0 rfl rfl (I2.own (ownN (by decide)) (v := .ref c) rfl rfl ⟨c, rfl, rfl, ⟨_, rfl⟩, C2, I2, .rfl, fun j t e => by simpa using A2 t (List.mem_of_getElem? e)⟩))
  · rintro l k ρ κ' ⟨rfl, _, h1, _⟩; exact h1
  · rintro l k v ρ κ' hv ⟨rfl, ⟨u, rfl⟩, hl', I', O', A'⟩
    have hv' : ((ts.map Tr.addr).map PySem.Value.ref)[k]? = some v := by simpa using hv
    rw [List.map_map, List.getElem?_map] at hv'
    obtain ⟨t, ht, rfl⟩ := Option.map_eq_some_iff.mp hv'
    have htm := List.mem_of_getElem? ht
    have At' := A' k t ht
    rw [if_neg (Nat.lt_irrefl _)] at At'
    obtain ⟨f, If, hpar, _, _, wpar, _⟩ := At'.mod (dsL_nd nd htm)
    refine WS.bindN 6 rfl (.inl rfl) (WX.cons (WS.assert (WT.cmp (WE.attr (WE.name 6 rfl rfl (getParent If hpar (WE.none (t_nN (Wp.truthyBool ⟨rfl, ?_⟩)))))))))
    refine WX.cons (WS.setattr (WE.name 0 rfl rfl (WE.name 6 rfl rfl (If.set (setT (parMem t)) (parMem t) (nmsLen t) fun o' I'' => WX.nil ?_))))
    obtain ⟨es2, nn2, hd2⟩ := inst_dict If
    have O2 : Off [t.dct] [] κ' (κ'.put t.dct o') := Off.rfl.put hd2 rfl (.head _)
    refine ⟨rfl, ⟨_, rfl⟩, O2 _ _ hl' (fun _ _ e => by cases e) (fun _ => allRef_list _ _), I'.off O2 (fun q => hdx (by rw [List.mem_singleton.mp q]; exact dsL_mem htm (dct_mem t))), O'.put hd2 rfl (dsL_mem htm (dct_mem t)), fun j tj hj => ?_⟩
    by_cases q : j = k
    · subst q
      rw [ht] at hj; cases hj
      rw [if_pos (Nat.lt_succ_self _)]
      exact wpar x o' I''
    · have := A' j tj hj
      have hif : (if j < k + 1 then some x else none) = (if j < k then some x else none) := by
        by_cases q1 : j < k
        · rw [if_pos q1, if_pos (by omega)]
        · rw [if_neg q1, if_neg (by omega)]
      rw [hif]
      exact At.off O2 (fun e he q' => dsL_apart nd (Ne.symm q) ht hj (dct_mem t) (by rw [← List.mem_singleton.mp q']; exact he)) this
  · rintro l ρ κ' ⟨rfl, ⟨u, rfl⟩, hl', I', O', A'⟩
    have A3 : ∀ t ∈ ts, At W.w.params κ' t (some x) := fun t ht => by
      obtain ⟨j, hj⟩ := List.getElem?_of_mem ht
      have := A' j t hj
      rwa [if_pos (by have := (List.getElem?_eq_some_iff.mp hj).1; simpa using this)] at this
    refine wx_set 0 rfl rfl I' (setN (by decide)) (by decide) (WE.call (WE.glob rfl (gIdent _) (call_with0 (.ref (kIdent _)) (Wp.ofCd (Cd.make0 (mkI _) fun i di hi hdi hid => ⟨(PM.put_fresh hdi _).put hi, fun o₄ I4 => ?_⟩)))))
    obtain ⟨es4, nn4, hd4⟩ := inst_dict I'
    have hdn : ∀ {z : Addr}, κ' z = none → z ≠ dx := fun e q => by subst q; rw [e] at hd4; cases hd4
    have O4 : Off [dx] [] κ' (((κ'.put di emptyDict).put i (instObj 31 di)).put dx o₄) := (Off.rfl.le ((PM.put_fresh hdi _).put hi)).put (by rw [PM.put_ne _ _ (Ne.symm (hdn hi)), PM.put_ne _ _ (Ne.symm (hdn hdi))]; exact hd4) rfl (.head _)
    generalize ((κ'.put di emptyDict).put i (instObj 31 di)).put dx o₄ = κ₄ at O4 I4
    refine WX.cons (WS.exprS (WE.meth (WE.name 0 rfl rfl (I4.method (mthN' (by decide)) (by decide) (call_with0 (.ref (keepF (by decide))) (inval ((a.less (by omega)).deeper _ : AOk _ (n + 1)) I4 fun o₅ o₆ I6 => ?_))))))
    obtain ⟨es5, nn5, hd5⟩ := inst_dict I4
    have O6 : Off [dx] [] κ₄ ((κ₄.put dx o₅).put dx o₆) := fun u o e k _ => by
      have : u ≠ dx := fun q => by subst q; rw [hd5] at e; cases e; exact k _ _ rfl (.head _)
      rw [PM.put_ne _ _ this, PM.put_ne _ _ this]; exact e
    generalize (κ₄.put dx o₅).put dx o₆ = κ₆ at O6 I6
    refine WX.cons (WS.if (WT.cmp (WE.name 4 rfl rfl (WE.none (t_nnN (Wp.truthyBool (pick_f (WX.nil ?_))))))))
    refine WX.cons (WS.if (WT.value (WE.name 5 rfl rfl (t_truthyNone (pick_f ?_)))))
    refine wx_set 0 rfl rfl I6 (setN (by decide)) (by decide) (WE.none ⟨.rfl, fun o₇ I7 => WX.nil (WX.nil ?_)⟩)
    obtain ⟨es7, nn7, hd7⟩ := inst_dict I6
    have O7 : Off [dx] [] κ₆ (κ₆.put dx o₇) := Off.rfl.put hd7 rfl (.head _)
    have OO := (O4.trans O6).trans O7
    refine h _ l ?_ hc0 ?_
    · exact ((B2.mono (fun d hd => by rw [List.mem_singleton.mp hd]; exact .head _) fun _ h => h).trans (O'.mono (fun d hd => List.mem_cons_of_mem _ hd) fun _ h => h)).trans (OO.mono (fun d hd => by rw [List.mem_singleton.mp hd]; exact .head _) fun _ h => h)
    · unfold At
      refine ⟨⟨_, I7, ⟨t1, rfl⟩, rfl, ⟨m', OO _ _ hl' (fun _ _ e => by cases e) (fun _ => allRef_list _ _)⟩, rfl, rfl, rfl, .inl rfl, .inl rfl⟩, ?_⟩
      exact AtL.all fun t ht => At.off OO (fun e he q => hdx (by rw [← List.mem_singleton.mp q]; exact dsL_mem ht he)) (A3 t ht)
end Mine
end
section
open PySem PySem.W PySem.Calls PyProof.Rows
set_option maxRecDepth 100000
set_option maxHeartbeats 1000000
set_option linter.unusedVariables false
namespace Mine
theorem nodeB (W : Wd) (x lc : Addr) (kd : Int) (t1 : Tok) : BindsOk W rec180.fd [.ref x, .int kd t1, .ref lc] [] [("self", .ref x), ("kind", .int kd t1), ("children", .ref lc), ("context", .none), ("prefix", .none), ("fixers_applied", .none)] :=
  BindsOk.dflt (T := 173) rfl rfl rfl rfl rfl
theorem nodeBk (W : Wd) (x lc : Addr) (kd : Int) (t1 : Tok) : BindsOk W rec180.fd [.ref x, .int kd t1, .ref lc] [("fixers_applied", .none)] [("self", .ref x), ("kind", .int kd t1), ("children", .ref lc), ("context", .none), ("prefix", .none), ("fixers_applied", .none)] :=
  BindsOk.dflt (T := 173) rfl rfl rfl rfl rfl
theorem leafB (W : Wd) (x tc : Addr) (kd : Int) (val : Str) (t1 t2 : Tok) : ∃ t3 t4, BindsOk W rec314.fd [.ref x, .int kd t1, .str val t2, .ref tc] [] [("self", .ref x), ("kind", .int kd t1), ("value", .str val t2), ("context", .ref tc), ("prefix", .none), ("fixers_applied", .ref 306), ("opening_bracket", .none), ("fmt_pass_converted_first_leaf", .none), ("bracket_depth", .int 0 t3), ("line_ranges_first_lineno", .int 0 t4), ("line_ranges_selected", .none)] :=
  ⟨_, _, BindsOk.dflt (T := 307) rfl rfl rfl rfl rfl⟩
theorem leafBk (W : Wd) (x tc g : Addr) (kd : Int) (val : Str) (t1 t2 t3 : Tok) : ∃ t4, BindsOk W rec314.fd [.ref x, .int kd t1, .str val t2, .ref tc] [("fixers_applied", .ref g), ("bracket_depth", .int 0 t3)] [("self", .ref x), ("kind", .int kd t1), ("value", .str val t2), ("context", .ref tc), ("prefix", .none), ("fixers_applied", .ref g), ("opening_bracket", .none), ("fmt_pass_converted_first_leaf", .none), ("bracket_depth", .int 0 t3), ("line_ranges_first_lineno", .int 0 t4), ("line_ranges_selected", .none)] :=
  ⟨_, BindsOk.dflt (T := 307) rfl rfl rfl rfl rfl⟩
section
variable {W : Wd} {A : Around} {n : Nat} {κ : PM} {Q : PySem.Value → PM → Prop}
theorem made_le {x dx C : Addr} {κ' : PM} (hx : κ x = none) (hd : κ dx = none) (b : But dx ((κ.put dx emptyDict).put x (instObj C dx)) κ') : κ.le κ' := fun u o e =>
  b u o (PM.ne_of hd e) (((PM.put_fresh hd _).put hx) _ _ e)
/-- Leaf(kind, value, context ..) -/
theorem leaf_call {kw : List (Str × PySem.Value)} {fl tc tl : Addr} {kd ln cl : Int} {val pre : Str} {nf : Nat} {t1 t2 t5 t6 t7 : Tok} (a : AOk A (n + 2))
    (hb : ∀ x, ∃ binds t3 t4, BindsOk W rec314.fd [.ref x, .int kd t1, .str val t2, .ref tc] kw binds ∧ rec314.sc.names.map (fun y => binds.reverse.lookup y.1) = leafBinds x kd val (.ref tc) fl t1 t2 t3 t4 ∧ ∀ x ∈ binds, rec314.sc.names.lookup x.1 = some .local)
    (hk0 : 0 ≤ kd) (hk1 : kd < 256) (hfl : RdO W κ fl (listOf #[] nf)) (hfb : κ fl ≠ none ∨ W.kB fl ≠ none) (htc : κ tc = some (tupOf #[.str pre t5, .ref tl])) (htl : κ tl = some (tupOf #[.int ln t6, .int cl t7]))
    (h : ∀ κ' x dx, κ.le κ' → κ x = none → κ dx = none → At W.w.params κ' (.leaf x dx kd val pre) none → Q (.ref x) κ') : Cd W A (.call (.ref 376) ⟨[.int kd t1, .str val t2, .ref tc], kw⟩) κ Q := by
  intro R s b S
  refine Cd.make (mkL _) (fun x dx hx hd hne => ?_) R s b S
  obtain ⟨binds, t3, t4, h1, h2, h3⟩ := hb x
  have l1 : κ.le ((κ.put dx emptyDict).put x (instObj 376 dx)) := (PM.put_fresh hd _).put hx
  intro R' s' b' S'
  have hfd : fl ≠ dx := fun q => by
    subst q
    rcases hfb with e | e
    · exact e hd
    · have hk := S'.d fl emptyDict (by rw [PM.put_ne _ _ (Ne.symm hne), PM.put_self])
      cases q : W.kB fl with
      | none => exact e q
      | some o => rw [b' _ _ q] at hk; cases hk
  refine leaf_init (AOk.tc a) h1 h2 h3 hk0 hk1 (PM.put_self ..) (by rw [PM.put_ne _ _ (Ne.symm hne), PM.put_self]) (hfl.imp (fun e => l1 _ _ e) id) hfd (l1 _ _ htc) (l1 _ _ htl) (fun κ' f B I F => ⟨rfl, h κ' x dx (made_le hx hd B) hx hd ?_⟩) R' s' b' S'
  unfold At; exact ⟨f, I, F⟩
/-- Node(kind, children) -/
theorem node_call {kw : List (Str × PySem.Value)} {lc : Addr} {kd : Int} {m : Nat} {ts : List Tr} {t1 : Tok} (a : AOk A (n + 3))
    (hb : ∀ x, ∃ binds, BindsOk W rec180.fd [.ref x, .int kd t1, .ref lc] kw binds ∧ rec180.sc.names.map (fun y => binds.reverse.lookup y.1) = nodeBinds x kd lc t1 ∧ ∀ x ∈ binds, rec180.sc.names.lookup x.1 = some .local) (hk : 256 ≤ kd)
    (hlc : κ lc = some (listOf ((ts.map Tr.addr).map PySem.Value.ref).toArray m)) (hlen : ts.length ≤ 1000) (hts : ∀ t ∈ ts, At W.w.params κ t none) (nd : (Tr.dsL ts).Nodup)
    (h : ∀ κ' x dx c, Off (Tr.dsL ts) [] κ κ' → κ x = none → κ dx = none → κ c = none → At W.w.params κ' (.node x dx c kd ts) none → Q (.ref x) κ') : Cd W A (.call (.ref 296) ⟨[.int kd t1, .ref lc], kw⟩) κ Q := by
  refine Cd.make (mkN _) (fun x dx hx hd hne => ?_)
  obtain ⟨binds, h1, h2, h3⟩ := hb x
  have l1 : κ.le ((κ.put dx emptyDict).put x (instObj 296 dx)) := (PM.put_fresh hd _).put hx
  refine node_init (AOk.tc a) h1 h2 h3 hk (PM.put_self ..) (by rw [PM.put_ne _ _ (Ne.symm hne), PM.put_self]) (l1 _ _ hlc) hlen (fun t ht => (hts t ht).le l1) nd (fun q => ?_) (fun κ' c O hc I => ⟨rfl, h κ' x dx c (fun u o e k r => O u o (l1 _ _ e) (fun es nn q m => ?_) r) hx hd ?_ I⟩)
  · have : ∀ d ∈ Tr.dsL ts, κ d ≠ none := by
      clear h nd hlen hlc q
      induction ts with
      | nil => intro d hd; simp [Tr.dsL] at hd
      | cons t r ih =>
        intro d hd
        simp only [Tr.dsL, List.mem_append] at hd
        rcases hd with hd | hd
        · obtain ⟨es, nn, e⟩ := (hts t (.head _)).has.1 d hd; rw [e]; simp
        · exact ih (fun u hu => hts u (.tail _ hu)) d hd
    exact this _ q hd
  · rcases List.mem_cons.mp m with m | m
    · subst m; rw [hd] at e; cases e
    · exact k _ _ q m
  · exact PM.le.none l1 hc
end
end Mine
end
section
open PySem PySem.W PySem.Calls PyProof.Rows
set_option maxRecDepth 100000
set_option maxHeartbeats 1000000
set_option linter.unusedVariables false
namespace Mine
theorem cap_cell {scope : Scope} {env : Env} {cl : List (Str × Addr)} {L : Addr} {R : PM} {y : Str} {u : PySem.Value} (h : Rd env R y u) (hk : env.kindOf y = some .cell) (hk' : (cpEnv scope env cl L).kindOf y = some .cell) (hl : (cpEnv scope env cl L).cells.lookup y = env.cells.lookup y) : Rd (cpEnv scope env cl L) R y u := by
  rcases h with ⟨k, _⟩ | ⟨_, c, o, hc, ho, hd⟩
  · rw [hk] at k; cases k
  · exact .inr ⟨.inl hk', c, o, hl.trans hc, ho, hd⟩
def costM : Nat → Nat
  | 0 => 3
  | n + 1 => 2 + 3 * costM n
theorem costM_ge : ∀ n, 3 ≤ costM n
  | 0 => Nat.le_refl 3
  | n + 1 => by have := costM_ge n; unfold costM; omega
def sizeM : Nat → Nat
  | 0 => 1
  | n + 1 => 1 + 3 * sizeM n
/-- what the maker of trees gives -/
structure MadeT (P : Params) (la : Addr) (κ κ' : PM) (t : Tr) (deep k : Nat) : Prop where
  at_ : At P κ' t none
  new : New κ t
  ok : t.ok
  ht : t.ht ≤ deep
  sz : t.pre.length ≤ sizeM deep
  but : But la κ κ'
  cnt : ∃ k' t m, κ' la = some (listOf #[.int (k' : Nat) t] m) ∧ k' ≤ k + costM deep
  top : deep = 3 → t.isLeaf = false
theorem but_back {la : Addr} {κ κ' : PM} (b : But la κ κ') (h : κ' la ≠ none) : ∀ u, κ' u = none → κ u = none := fun u e => by
  cases q : κ u with
  | none => rfl
  | some o =>
    by_cases z : u = la
    · subst z; exact absurd e h
    · rw [b u o z q] at e; cases e
theorem strLenItem (x : Str) (k : Int) : (Txt.item x k).length ≤ 1 := Nat.le_refl 1
theorem itemOk {k : Int} (h0 : 0 ≤ k) (h1 : k < 3) : PyData.strOk (Txt.item "abc" k) = true := by
  have : k = 0 ∨ k = 1 ∨ k = 2 := by omega
  rcases this with rfl | rfl | rfl <;> decide +kernel
theorem strLenMul {n : Nat} (h : n ≤ 1) : (Txt.mul " " n).length ≤ 1 := by
  rcases Nat.le_one_iff_eq_zero_or_eq_one.mp h with rfl | rfl <;> decide
theorem preL_len_le {b : Nat} : ∀ {ts : List Tr}, (∀ t ∈ ts, t.pre.length ≤ b) → (Tr.preL ts).length ≤ ts.length * b
  | [], _ => by simp [Tr.preL]
  | t :: r, h => by
    have h1 := h t (.head _)
    have h2 := preL_len_le (ts := r) fun u hu => h u (.tail _ hu)
    simp only [Tr.preL, List.length_append, List.length_cons, Nat.succ_mul]
    omega
theorem htL_bound {b : Nat} : ∀ {ts : List Tr}, (∀ t ∈ ts, t.ht ≤ b) → Tr.htL ts ≤ b
  | [], _ => by simp [Tr.htL]
  | t :: r, h => by
    unfold Tr.htL
    exact Nat.max_le.mpr ⟨h t (.head _), htL_bound fun u hu => h u (.tail _ hu)⟩
theorem at_ds_some {P : Params} {κ : PM} : ∀ {ts : List Tr}, (∀ t ∈ ts, At P κ t none) → (∀ d ∈ Tr.dsL ts, κ d ≠ none) ∧ (∀ l ∈ Tr.lsL ts, κ l ≠ none)
  | [], _ => ⟨fun _ h => (by simp [Tr.dsL] at h), fun _ h => (by simp [Tr.lsL] at h)⟩
  | t :: r, h => by
    obtain ⟨b1, b2⟩ := at_ds_some (ts := r) fun u hu => h u (.tail _ hu)
    obtain ⟨a1, a2, _⟩ := (h t (.head _)).has
    refine ⟨fun e he => ?_, fun l hl => ?_⟩
    · simp only [Tr.dsL, List.mem_append] at he
      rcases he with he | he
      · obtain ⟨_, _, q⟩ := a1 e he; rw [q]; simp
      · exact b1 e he
    · simp only [Tr.lsL, List.mem_append] at hl
      rcases hl with hl | hl
      · obtain ⟨_, _, q⟩ := a2 l hl; rw [q]; simp
      · exact b2 l hl
theorem kb306 (W : Wd) : W.kB 306 ≠ none := by
  have : ∃ o, (KF W.w.params).lookup 306 = some o := ⟨_, rfl⟩
  obtain ⟨o, h⟩ := this
  rw [W.K _ _ h]; simp
theorem made_spec {W : Wd} {lt : Addr} {xs : Array PySem.Value} {m : Nat} (hx : Ints xs) (hne : 0 < xs.size) (hz : xs.size ≤ 1000) : ∀ (N deep : Nat), deep < N → deep ≤ 3 → ∀ {A : Around} {κ : PM} {Q : PySem.Value → PM → Prop} {la : Addr} {m' k : Nat} {t tb : Tok},
    AOk A (2 * deep + 6) → κ lt = some (listOf xs m) → κ la = some (listOf #[.int k t] m') → lt ≠ la → k + costM deep ≤ 1000 →
    (∀ κ' tr, MadeT W.w.params la κ κ' tr deep k → Q (.ref tr.addr) κ') → Wp W A T1 (PySem.call (.ref 390) [.ref lt, .ref la, .int deep tb]) κ Q := by
  intro N
  induction N with
  | zero => intro deep h; exact absurd h (Nat.not_lt_zero _)
  | succ N ih =>
  intro deep hN h3 A κ Q la m' k t tb a hl hla hlt hk h
  have hc3 : 3 ≤ costM deep := costM_ge deep
  have drawn : ∀ {κ₁ : PM} {k₁ m₁ : Nat} {t₁ : Tok} {B : Around} {nn : Nat} {Q' : PySem.Value → PM → Prop} {below : Int} {tt : Tok}, AOk B nn → κ₁ lt = some (listOf xs m) → κ₁ la = some (listOf #[.int k₁ t₁] m₁) → k₁ ≤ 1000 → 0 < below →
      (∀ r t κ₂, 0 ≤ r → r < below → But la κ₁ κ₂ → κ₂ lt = some (listOf xs m) → (∃ t' m'', κ₂ la = some (listOf #[.int (k₁ + 1 : Nat) t'] m'')) → Q' (.int r t) κ₂) → Wp W B T1 (PySem.call (.ref 385) [.ref lt, .ref la, .int below tt]) κ₁ Q' := fun b1 h1 h2 h3 h4 h5 =>
    drawn_spec b1 h1 hx hne hz h2 hlt h3 h4 fun r t t' m'' g1 g2 => h5 r t _ g1 g2 (But.rfl.put .rfl _) (by rw [PM.put_ne _ _ hlt]; exact h1) ⟨t', m'', PM.put_self ..⟩
  refine Wp.ofCd (Cd.defC rec390 (a.less (m := 2 * deep + 6) (by omega)) rfl [some (.ref lt), some (.ref la), some (.int (deep : Int) tb), none, none, none, none, none, none] rfl (by kernel_rfl) rfl (by decide) fun L => ?_)
  have aD : AOk (A.deeper (callEnvC rec390.fd L 390)) (2 * deep + 5) := a.deeper _
  generalize hAD : A.deeper (callEnvC rec390.fd L 390) = AD at aD
  refine WX.cons <| WS.assign 3 rfl (.inl rfl) <| WE.call <| WE.glob rfl (gDrawn _) <| call_with (.ref (kDrawn _)) <| WArgs.cons <| WE.name 0 rfl rfl <| WArgs.cons <| WE.name 1 rfl rfl <| WArgs.cons <| WE.int fun _ => WArgs.nil ?_
  refine drawn aD hl hla (by omega) (by decide) fun kind tk κ₁ k0 k6 B1 hl1 h1' => ?_
  obtain ⟨t1, m1, hla1⟩ := h1'
  refine WX.cons (WS.if (Wp.mono (Q := fun c κ' => κ' = κ₁ ∧ c = ((deep == 0) || (decide (kind < 3) && decide (deep < 3)))) ?_ ?_))
  · refine WT.bool (WAll.or_cons (WT.cmp (WE.name 2 rfl rfl (WE.int fun _ => t_eq (Wp.truthyBool ?_)))))
    by_cases d0 : deep = 0
    · subst d0; exact pick_t ⟨rfl, rfl⟩
    · have e1 : ((deep : Int) == 0) = false := by simpa using d0
      have e2 : (deep == 0) = false := by simpa using d0
      rw [e1, e2]
      refine pick_f (WAll.or_cons (WT.bool (WAll.and_cons (WT.cmp (WE.name 3 rfl rfl (WE.int fun _ => t_lt (Wp.truthyBool ?_)))))))
      by_cases k3 : kind < 3
      · rw [decide_eq_true k3]
        refine pick_t (WAll.and_cons (WT.cmp (WE.name 2 rfl rfl (WE.int fun _ => t_lt (Wp.truthyBool ?_)))))
        by_cases d3 : deep < 3
        · rw [decide_eq_true (show (deep : Int) < 3 by omega), decide_eq_true d3]
          exact pick_t (WAll.and_nil (pick_t ⟨rfl, rfl⟩))
        · rw [decide_eq_false (show ¬ (deep : Int) < 3 by omega), decide_eq_false d3]
          exact pick_f (pick_f (WAll.or_nil ⟨rfl, rfl⟩))
      · rw [decide_eq_false k3]
        exact pick_f (pick_f (WAll.or_nil ⟨rfl, rfl⟩))
  rintro c κ₁ ⟨rfl, rfl⟩
  cases hcb : ((deep == 0) || (decide (kind < 3) && decide (deep < 3))) with
  | true =>
    refine pick_t <| WX.cons <| WS.ret <| WE.call <| WE.glob rfl (gLeaf _) <| call_with (.ref (kLeaf _)) <| WArgs.cons <| WE.binop <| WE.int fun _ => WE.binop <| WE.name 3 rfl rfl <| WE.int fun _ => t_mod (by decide) fun _ => t_add fun tkd => ?_
    refine WArgs.cons <| WE.sub <| WE.str fun _ => WE.call <| WE.glob rfl (gDrawn _) <| call_with (.ref (kDrawn _)) <| WArgs.cons <| WE.name 0 rfl rfl <| WArgs.cons <| WE.name 1 rfl rfl <| WArgs.cons <| WE.int fun _ => WArgs.nil ?_
    refine drawn aD hl1 hla1 (by omega) (by decide) fun vi tv κ₂ v0 v3 B2 hl2 h2' => ?_
    obtain ⟨t2, m2, hla2⟩ := h2'
    refine t_strItem v0 v3 (by decide) fun tval => ?_
    refine WArgs.cons <| WE.tuple <| WArgs.cons <| WE.binop <| WE.str fun _ => WE.call <| WE.glob rfl (gDrawn _) <| call_with (.ref (kDrawn _)) <| WArgs.cons <| WE.name 0 rfl rfl <| WArgs.cons <| WE.name 1 rfl rfl <| WArgs.cons <| WE.int fun _ => WArgs.nil ?_
    refine drawn aD hl2 hla2 (by omega) (by decide) fun bi tb' κ₃ b0 b2 B3 hl3 h3' => ?_
    obtain ⟨t3, m3, hla3⟩ := h3'
    obtain ⟨bn, rfl⟩ := Int.eq_ofNat_of_zero_le b0
    refine t_mulStr (by decide) (by omega) fun tpre => WArgs.cons <| WE.tuple <| WArgs.cons <| WE.int fun t6 => WArgs.cons <| WE.int fun t7 => WArgs.nil ⟨by show 2 ≤ sizeLine; decide, fun tl htl => WArgs.nil ⟨by show 2 ≤ sizeLine; decide, fun tc htc => WArgs.nil ?_⟩⟩
    have l1 : κ₃.le ((κ₃.put tl (tupOf #[.int 1 t6, .int 0 t7])).put tc (tupOf #[.str (Txt.mul " " bn) tpre, .ref tl])) := (PM.put_fresh htl _).put (PM.le.none (PM.put_fresh htl _) htc)
    have hne' : tl ≠ tc := fun q => by subst q; rw [PM.put_self] at htc; cases htc
    have bk := but_back ((B1.trans B2).trans B3) (by rw [hla3]; simp)
    refine Wp.ofCd (leaf_call (n := 2) (aD.less (by omega)) (fun x => ?_) ?_ ?_ (.inr rfl) (.inr (kb306 W)) (PM.put_self ..) (by rw [PM.put_ne _ _ hne', PM.put_self]) fun κ' x dx l2 hx hdx at' => ?_)
    · obtain ⟨t3, t4, hb⟩ := leafB W x tc (1 + kind.fmod 3) (Txt.item "abc" vi) tkd tval
      exact ⟨_, t3, t4, hb, rfl, locs rfl⟩
    · have := Int.fmod_nonneg_of_pos kind (show (0 : Int) < 3 by decide); omega
    · have := Int.fmod_lt_of_pos kind (show (0 : Int) < 3 by decide); omega
    · have e1 := Int.fmod_nonneg_of_pos kind (show (0 : Int) < 3 by decide)
      have e2 := Int.fmod_lt_of_pos kind (show (0 : Int) < 3 by decide)
      have hd3 : deep ≠ 3 := fun q => by subst q; simp at hcb
      refine h κ' (.leaf x dx _ _ _) ⟨at', ⟨by simp [Tr.ds], by simp [Tr.ls], fun d hd => ?_, fun l hl => (by simp [Tr.ls] at hl), fun a ha => ?_⟩, ⟨by omega, by omega, strLenItem _ _, strLenMul (by omega), itemOk v0 v3⟩, by simp [Tr.ht], ?_, ((B1.trans B2).trans B3).trans (But.ofLe (l1.trans l2)), ⟨_, t3, m3, l2 _ _ (l1 _ _ hla3), by omega⟩, fun q => absurd q hd3⟩
      · simp [Tr.ds] at hd; subst hd; exact bk _ (PM.le.none l1 hdx)
      · simp [Tr.pre] at ha; subst ha; exact bk _ (PM.le.none l1 hx)
      · simp only [Tr.pre, List.length_cons, List.length_nil]; cases deep <;> simp [sizeM]
  | false =>
    refine pick_f <| WX.nil ?_
    refine WX.cons <| WS.assign 4 rfl (.inl rfl) <| Wp.mono (Q := fun v κ' => ∃ mn t, v = .int ((mn : Nat) : Int) t ∧ mn ≤ 3 ∧ But la κ₁ κ' ∧ κ' lt = some (listOf xs m) ∧ ∃ t' m'', κ' la = some (listOf #[.int (k + 2 : Nat) t'] m'')) ?_ ?_
    · refine WE.ifexp <| WT.cmp <| WE.name 2 rfl rfl <| WE.int fun _ => t_eq <| Wp.truthyBool ?_
      by_cases d3 : deep = 3
      · subst d3
        refine pick_t <| WE.binop <| WE.int fun _ => WE.call <| WE.glob rfl (gDrawn _) <| call_with (.ref (kDrawn _)) <| WArgs.cons <| WE.name 0 rfl rfl <| WArgs.cons <| WE.name 1 rfl rfl <| WArgs.cons <| WE.int fun _ => WArgs.nil ?_
        refine drawn aD hl1 hla1 (by omega) (by decide) fun r tr κ₂ r0 r2 B2 hl2 h2' => t_add fun tt => ?_
        obtain ⟨t2, m2, hla2⟩ := h2'
        refine ⟨(2 + r).toNat, tt, by rw [Int.toNat_of_nonneg (by omega)], by omega, B2, hl2, t2, m2, hla2⟩
      · have e3 : ((deep : Int) == 3) = false := by
          rw [beq_eq_false_iff_ne]; omega
        rw [e3]
        refine pick_f <| WE.call <| WE.glob rfl (gDrawn _) <| call_with (.ref (kDrawn _)) <| WArgs.cons <| WE.name 0 rfl rfl <| WArgs.cons <| WE.name 1 rfl rfl <| WArgs.cons <| WE.int fun _ => WArgs.nil ?_
        refine drawn aD hl1 hla1 (by omega) (by decide) fun r tr κ₂ r0 r2 B2 hl2 h2' => ?_
        obtain ⟨t2, m2, hla2⟩ := h2'
        exact ⟨r.toNat, tr, by rw [Int.toNat_of_nonneg r0], by omega, B2, hl2, t2, m2, hla2⟩
    rintro _ κ₂ ⟨mn, tmn, rfl, hmn, B2, hl2, t2, m2, hla2⟩
    refine WX.cons <| WS.ret <| WE.call <| WE.glob rfl (gNode _) <| call_with (.ref (kNode _)) <| WArgs.cons <| WE.binop <| WE.int fun _ => WE.binop <| WE.name 3 rfl rfl <| WE.int fun _ => t_mod (by decide) fun _ => t_add fun tkd => ?_
    have hsz : sizeLine = 16777216 := by decide
    have hcost : costM deep = 2 + 3 * costM (deep - 1) := by
      cases deep with
      | zero => simp at hcb
      | succ d => rfl
    have hd1 : deep - 1 < N ∧ 1 ≤ deep := by
      cases deep with
      | zero => simp at hcb
      | succ d => exact ⟨by omega, by omega⟩
    refine WArgs.cons <| we_comp 1 (kx := .local) (cl := [("told", L + 1), ("deep", L + 3), ("at", L + 2)]) [none, none, none, some (.ref la), some (.int (deep : Int) tb), some (.ref lt)] rfl rfl ⟨rfl, rfl, rfl⟩ rfl (by decide) (by decide) (.inl ⟨rfl, rfl⟩) ?_ ?_
    · intro L' R' fr j y kk u hy hj hu
      match j with
      | 0 => cases hu
      | 1 => exact absurd rfl hj
      | 2 => cases hu
      | 3 =>
        have hy' : some (("at" : Str), NameKind.cell) = some (y, kk) := hy
        cases hy'; cases hu
        exact cap_cell (fr.rd 1 _ _ _ rfl rfl) rfl rfl rfl
      | 4 =>
        have hy' : some (("deep" : Str), NameKind.cell) = some (y, kk) := hy
        cases hy'; cases hu
        exact cap_cell (fr.rd 2 _ _ _ rfl rfl) rfl rfl rfl
      | 5 =>
        have hy' : some (("told" : Str), NameKind.cell) = some (y, kk) := hy
        cases hy'; cases hu
        exact cap_cell (fr.rd 0 _ _ _ rfl rfl) rfl rfl rfl
      | j + 6 => cases hu
    refine WE.call <| WE.blt rfl rfl rfl (by decide) <| call_with .type <| WArgs.cons <| WE.name 4 rfl rfl <| WArgs.nil <| t_range fun rg ta tb2 tc hrg => ?_
    refine ⟨mn, fun i v => ∃ t, v = .int (i : Int) t, [rg], fun _ => rangeOf mn ta tb2 tc, fun i ys κ' => κ' rg = some (rangeOf mn ta tb2 tc) ∧ But la κ₂ κ' ∧ κ' lt = some (listOf xs m) ∧ (∃ k' t' m'', κ' la = some (listOf #[.int (k' : Nat) t'] m'') ∧ k' ≤ k + 2 + i * costM (deep - 1)) ∧
      ∃ ts : List Tr, ts.length = i ∧ ys = (ts.map Tr.addr).map PySem.Value.ref ∧ NewL κ₂ ts ∧ ∀ t ∈ ts, At W.w.params κ' t none ∧ t.ok ∧ t.ht ≤ deep - 1 ∧ t.pre.length ≤ sizeM (deep - 1), ?_⟩
    refine ⟨.range aD.hh rg mn (by omega) ta tb2 tc, by rw [hsz]; omega, ⟨PM.put_self .., But.ofLe (PM.put_fresh hrg _), ?_, ⟨k + 2, t2, m2, ?_, by omega⟩, [], rfl, rfl, NewL.nil _, fun t ht => nomatch ht⟩, fun i ys κ' hI b hb => by rw [List.mem_singleton.mp hb]; exact hI.1, ?_, ?_⟩
    · rw [PM.put_ne _ _ (PM.ne_of hrg hl2)]; exact hl2
    · rw [PM.put_ne _ _ (PM.ne_of hrg hla2)]; exact hla2
    · rintro L' i v ys κ₃ hi _ ⟨hr3, B3, hl3, ⟨k', t', m'', hla3, hk'⟩, ts, hlen, hys, nw, hts⟩
      refine tests0 <| pick_t <| WE.call <| WE.glob rfl (gMade _) <| call_with (.ref (kMade _)) <| WArgs.cons <| WE.name 5 rfl rfl <| WArgs.cons <| WE.name 3 rfl rfl <| WArgs.cons <| WE.binop <| WE.name 4 rfl rfl <| WE.int fun _ => t_sub fun _ => WArgs.nil ?_
      have e1 : (deep : Int) - 1 = ((deep - 1 : Nat) : Int) := by omega
      rw [e1]
      have him : i * costM (deep - 1) + costM (deep - 1) ≤ 3 * costM (deep - 1) := by rw [← Nat.succ_mul]; exact Nat.mul_le_mul_right _ (by omega)
      refine ih (deep - 1) hd1.1 (by omega) (aD.less (by omega)) hl3 hla3 hlt (by omega) fun κ₄ tr T => ?_
      obtain ⟨k4, t4, m4, hla4, hk4⟩ := T.cnt
      have O4 : Off [] [la] κ₃ κ₄ := T.but.offInt hla3
      have hrl : rg ≠ la := fun q => by subst q; rw [hr3] at hla3; simp at hla3
      have A4 : ∀ t ∈ ts, At W.w.params κ₄ t none := fun t ht => At.off O4 (fun _ _ q => by cases q) (hts t ht).1
      refine ⟨T.but _ _ hrl hr3, B3.trans T.but, T.but _ _ hlt hl3, ⟨k4, t4, m4, hla4, by rw [Nat.succ_mul]; omega⟩, ts ++ [tr], by simp [hlen], by simp [hys], ?_, fun t ht => ?_⟩
      · exact nw.snoc (fun u hu => ⟨none, (hts u hu).1⟩) T.new (but_back B3 (by rw [hla3]; simp))
      · rcases List.mem_append.mp ht with ht | ht
        · exact ⟨A4 t ht, (hts t ht).2⟩
        · rw [List.mem_singleton.mp ht]; exact ⟨T.at_, T.ok, T.ht, T.sz⟩
    · rintro ys κ₅ D mm ⟨_, B5, hl5, ⟨k', t', m'', hla5, hk'⟩, ts, hlen, hys, nw, hts⟩ hD hyl
      subst hys
      refine WArgs.nil <| Wp.ofCd <| node_call (n := 2) (aD.less (by omega)) (fun x => ⟨_, nodeB W x D _ _, rfl, locs rfl⟩) ?_ (PM.put_self ..) (by omega) (fun t ht => (hts t ht).1.le (PM.put_fresh hD _)) nw.ds fun κ₆ x dx c O6 hx hdx hc at6 => ?_
      · have := Int.fmod_nonneg_of_pos kind (show (0 : Int) < 2 by decide); omega
      have l5 : κ₅.le (κ₅.put D (listOf ((ts.map Tr.addr).map PySem.Value.ref).toArray mm)) := PM.put_fresh hD _
      have BB : But la κ κ₅ := (B1.trans B2).trans B5
      have bk2 := but_back B5 (by rw [hla5]; simp)
      have bk := but_back BB (by rw [hla5]; simp)
      have bk12 := but_back (B1.trans B2) (by rw [hla2]; simp)
      obtain ⟨s1, s2⟩ := at_ds_some fun t ht => (hts t ht).1
      have hdx5 := PM.le.none l5 hdx
      have hc5 := PM.le.none l5 hc
      refine h κ₆ (.node x dx c _ ts) ⟨at6, ⟨?_, ?_, fun d hd => ?_, fun l hl => ?_, fun a ha => ?_⟩, ⟨?_, Tr.okL_all fun t ht => (hts t ht).2.1⟩, ?_, ?_, fun u o hu e => ?_, ?_, fun _ => rfl⟩
      · simp only [Tr.ds, List.nodup_cons]; exact ⟨fun q => s1 _ q hdx5, nw.ds⟩
      · simp only [Tr.ls, List.nodup_cons]; exact ⟨fun q => s2 _ q hc5, nw.ls⟩
      · simp only [Tr.ds, List.mem_cons] at hd
        rcases hd with rfl | hd
        · exact bk _ hdx5
        · exact bk12 _ (nw.fd d hd)
      · simp only [Tr.ls, List.mem_cons] at hl
        rcases hl with rfl | hl
        · exact bk _ hc5
        · exact bk12 _ (nw.fl l hl)
      · simp only [Tr.pre, List.mem_cons] at ha
        rcases ha with rfl | ha
        · exact bk _ (PM.le.none l5 hx)
        · exact bk12 _ (nw.fa a ha)
      · have := Int.fmod_nonneg_of_pos kind (show (0 : Int) < 2 by decide); omega
      · have := htL_bound fun t ht => (hts t ht).2.2.1
        unfold Tr.ht; omega
      · have := preL_len_le fun t ht => (hts t ht).2.2.2
        have h2 : ts.length * sizeM (deep - 1) ≤ 3 * sizeM (deep - 1) := Nat.mul_le_mul_right _ (by omega)
        have h3 : sizeM deep = 1 + 3 * sizeM (deep - 1) := by
          cases deep with
          | zero => simp at hcb
          | succ d => rfl
        simp only [Tr.pre, List.length_cons]; omega
      · refine O6 u o (l5 _ _ (BB u o hu e)) (fun es nn _ m => ?_) (fun m => nomatch m)
        have := bk12 _ (nw.fd u m); rw [this] at e; cases e
      · refine ⟨k', t', m'', O6 _ _ (l5 _ _ hla5) (fun _ _ e => by cases e) (fun m => nomatch m), ?_⟩
        have him : mn * costM (deep - 1) ≤ 3 * costM (deep - 1) := Nat.mul_le_mul_right _ hmn
        omega
end Mine
end
section
open PySem PySem.W PySem.Calls PyProof.Rows PySem.SeqAt
set_option maxRecDepth 100000
set_option maxHeartbeats 1000000
set_option linter.unusedVariables false
namespace Mine
namespace Tr
mutual
/-- what _law_shape tells -/
def shp : Tr → PyData
  | leaf _ _ ty v _ => .tuple [.int ty, .str v]
  | node _ _ _ ty ch => .tuple [.int ty, .list (shpL ch)]
def shpL : List Tr → List PyData
  | [] => []
  | t :: r => shp t :: shpL r
end
theorem shpL_map (ts : List Tr) : shpL ts = ts.map shp := by
  induction ts with
  | nil => simp [shpL]
  | cons t r ih => simp [shpL, ih]
mutual
theorem shp_lay : ∀ {t : Tr}, t.sok → t.shp.canLay0 = true
  | leaf _ _ ty v p, h => by
    unfold sok at h
    simp [shp, PyData.canLay0, PyData.canLayAll0, h]
  | node _ _ _ ty ch, h => by
    unfold sok at h
    simp [shp, PyData.canLay0, PyData.canLayAll0, shpL_lay h]
theorem shpL_lay : ∀ {ts : List Tr}, sokL ts → PyData.canLayAll0 (shpL ts) = true
  | [], _ => by simp [shpL, PyData.canLayAll0]
  | t :: r, h => by
    unfold sokL at h
    simp [shpL, PyData.canLayAll0, shp_lay h.1, shpL_lay h.2]
end
mutual
theorem shp_depth : ∀ (t : Tr), t.shp.depth ≤ 2 * t.ht + 1
  | leaf _ _ ty v p => by simp [shp, PyData.depth, PyData.depthAll]
  | node _ _ _ ty ch => by
    have := shpL_depth ch
    simp only [shp, PyData.depth, PyData.depthAll, ht]
    omega
theorem shpL_depth : ∀ (ts : List Tr), PyData.depthAll (shpL ts) ≤ 2 * htL ts + 1
  | [] => by simp [shpL, PyData.depthAll]
  | t :: r => by
    have h1 := shp_depth t
    have h2 := shpL_depth r
    simp only [shpL, PyData.depthAll, htL]
    omega
end
theorem shp_shaped {t : Tr} (h : t.sok) (hh : t.ht ≤ 10) : shaped t.shp = true := by
  unfold shaped
  rw [shp_lay h, Bool.true_and, decide_eq_true_eq]
  have := shp_depth t
  omega
end Tr
/-- the value tells the datum -/
def RdK (κ : PM) (v : PySem.Value) (d : PyData) : Prop := ∀ h : Heap, (∀ b o, κ b = some o → h.get? b = some o) → ∃ as, Reads h v d as
theorem RdK.le {κ κ' : PM} {v : PySem.Value} {d : PyData} (x : RdK κ v d) (l : κ.le κ') : RdK κ' v d := fun h k => x h fun b o e => k b o (l b o e)
def RdKL (κ : PM) (vs : List PySem.Value) (ds : List PyData) : Prop := ∀ h : Heap, (∀ b o, κ b = some o → h.get? b = some o) → ∃ as, ReadsAll h vs ds as
theorem RdKL.nil (κ : PM) : RdKL κ [] [] := fun _ _ => ⟨_, .nil⟩
theorem RdKL.cons {κ : PM} {v : PySem.Value} {d : PyData} {vs : List PySem.Value} {ds : List PyData} (x : RdK κ v d) (y : RdKL κ vs ds) : RdKL κ (v :: vs) (d :: ds) := fun h k => let ⟨_, a⟩ := x h k; let ⟨_, b⟩ := y h k; ⟨_, .cons a b⟩
theorem RdKL.le {κ κ' : PM} {v : List PySem.Value} {d : List PyData} (x : RdKL κ v d) (l : κ.le κ') : RdKL κ' v d := fun h k => x h fun b o e => k b o (l b o e)
theorem RdKL.snoc {κ : PM} {v : PySem.Value} {d : PyData} : ∀ {vs : List PySem.Value} {ds : List PyData}, RdKL κ vs ds → vs.length = ds.length → RdK κ v d → RdKL κ (vs ++ [v]) (ds ++ [d])
  | [], [], _, _, x => .cons x (.nil κ)
  | w :: vs, e :: ds, y, hl, x => by
    have y1 : RdK κ w e := fun h k => by obtain ⟨_, r⟩ := y h k; cases r with | cons a b => exact ⟨_, a⟩
    have y2 : RdKL κ vs ds := fun h k => by obtain ⟨_, r⟩ := y h k; cases r with | cons a b => exact ⟨_, b⟩
    exact .cons y1 (RdKL.snoc y2 (by simpa using hl) x)
theorem RdK.int (κ : PM) (i : Int) (t : Tok) : RdK κ (.int i t) (.int i) := fun _ _ => ⟨_, .int i t⟩
theorem RdK.str (κ : PM) (x : Str) (t : Tok) : RdK κ (.str x t) (.str x) := fun _ _ => ⟨_, .str x t⟩
theorem RdK.tuple {κ : PM} {a : Addr} {xs : Array PySem.Value} {ds : List PyData} (h : κ a = some (tupOf xs)) (y : RdKL κ xs.toList ds) : RdK κ (.ref a) (.tuple ds) := fun hp k => let ⟨_, r⟩ := y hp k; ⟨_, .tuple (k _ _ h) rfl rfl r⟩
theorem RdK.list {κ : PM} {a : Addr} {xs : Array PySem.Value} {n : Nat} {ds : List PyData} (h : κ a = some (listOf xs n)) (y : RdKL κ xs.toList ds) : RdK κ (.ref a) (.list ds) := fun hp k => let ⟨_, r⟩ := y hp k; ⟨_, .list (k _ _ h) rfl rfl r⟩
section
variable {W : Wd} {A : Around} {κ : PM} {Q : PySem.Value → PM → Prop} {a b : PySem.Value} {da db : PyData} {n : Nat}
theorem t_eqData (aa : AOk A (n + 2)) (ra : RdK κ a da) (rb : RdK κ b db) (ha : shaped da = true) (hb : shaped db = true) (h : Q (.bool (PyData.eqv da db)) κ) : Wp W A T1 (compareOp .Eq a b) κ Q := fun R s _ _ S => by
  obtain ⟨as, r1⟩ := ra s.heap S.k
  obtain ⟨bs, r2⟩ := rb s.heap S.k
  exact compareEq_shaped r1 r2 ha hb (by have := aa.hu; omega) ⟨κ, S, .of, h⟩
theorem t_neData (aa : AOk A (n + 2)) (ra : RdK κ a da) (rb : RdK κ b db) (ha : shaped da = true) (hb : shaped db = true) (h : Q (.bool (!PyData.eqv da db)) κ) : Wp W A T1 (compareOp .NotEq a b) κ Q := fun R s _ _ S => by
  obtain ⟨as, r1⟩ := ra s.heap S.k
  obtain ⟨bs, r2⟩ := rb s.heap S.k
  exact compareNe_shaped r1 r2 ha hb (by have := aa.hu; omega) ⟨κ, S, .of, h⟩
end
/-- _law_shape -/
theorem shape_spec {W : Wd} : ∀ (N : Nat) (t : Tr), t.ht < N → ∀ {A : Around} {κ : PM} {par : Option Addr} {Q : PySem.Value → PM → Prop}, AOk A (2 * t.ht + 3) → At W.w.params κ t par → t.pre.length ≤ 1000 →
    (∀ v κ', κ.le κ' → RdK κ' v t.shp → Q v κ') → Wp W A T1 (PySem.call (.ref 407) [.ref t.addr]) κ Q := by
  intro N
  induction N with
  | zero => intro t h; exact absurd h (Nat.not_lt_zero _)
  | succ N ih =>
    intro t ht A κ par Q a hat hlen h
    refine Wp.ofCd (Cd.def rec407 (a.less (m := 2 * t.ht + 3) (by omega)) (BindsOk.eq rfl) [some (.ref t.addr), none, none] rfl (by kernel_rfl) (by decide) (locs rfl) (by decide) fun L => ?_)
    have aD : AOk (A.deeper (callEnv rec407.fd L 407)) (2 * t.ht + 2) := a.deeper _
    generalize A.deeper (callEnv rec407.fd L 407) = AD at aD
    refine WX.cons <| WS.ret <| WE.ifexp <| WT.value <| WE.call <| WE.blt rfl rfl rfl (by decide) <| call_with .builtin <| WArgs.cons <| WE.name 0 rfl rfl <| WArgs.cons <| WE.glob rfl (gLeaf _) <| WArgs.nil ?_
    cases t with
    | leaf ad d ty v p =>
      unfold At at hat
      obtain ⟨f, i, F⟩ := hat
      obtain ⟨t1, e1⟩ := F.ty
      obtain ⟨t2, e2⟩ := F.val
      refine i.isi (isLL _) <| Wp.truthyBool <| pick_t <| WE.tuple <| WArgs.cons <| WE.attr <| WE.name 0 rfl rfl <| i.own (ownL (by decide)) e1 rfl <| WArgs.cons <| WE.attr <| WE.name 0 rfl rfl <| i.own (ownL (by decide)) e2 rfl <| WArgs.nil ⟨by show 2 ≤ sizeLine; decide, fun z hz => ?_⟩
      exact h _ _ (PM.put_fresh hz _) (.tuple (PM.put_self ..) (.cons (RdK.int _ _ _) (.cons (RdK.str _ _ _) (.nil _))))
    | node ad d l ty ch =>
      have hat' := hat
      unfold At at hat
      obtain ⟨⟨f, i, F⟩, c⟩ := hat
      obtain ⟨t1, e1⟩ := F.ty
      obtain ⟨m, hl⟩ := F.li
      have hchl : ch.length ≤ 1000 := by
        have : ch.length ≤ (Tr.preL ch).length := by
          clear ih ht a hlen h aD hat' F c hl
          induction ch with
          | nil => simp
          | cons t r ih => simp only [Tr.preL, List.length_append, List.length_cons]; have : 1 ≤ t.pre.length := by rw [Tr.pre_eq]; simp
                           omega
        simp only [Tr.pre, List.length_cons] at hlen; omega
      refine i.notIsi (isNL _) <| Wp.truthyBool <| pick_f <| WE.tuple <| WArgs.cons <| WE.attr <| WE.name 0 rfl rfl <| i.own (ownN (by decide)) e1 rfl <| WArgs.cons ?_
      refine we_comp 1 (kx := .local) (cl := []) [none, none, none] rfl rfl ⟨rfl, rfl, rfl⟩ rfl (by decide) (by decide) (.inl ⟨rfl, rfl⟩) ?_ ?_
      · intro L' R' fr j y kk u hy hj hu
        match j with
        | 0 => cases hu
        | 1 => cases hu
        | 2 => cases hu
        | j + 3 => cases hu
      refine WE.attr <| WE.name 0 rfl rfl <| i.own (ownN (by decide)) F.ch rfl ?_
      refine ⟨((ch.map Tr.addr).map PySem.Value.ref).toArray.size, fun i v => ((ch.map Tr.addr).map PySem.Value.ref).toArray[i]? = some v, [l], fun _ => listOf ((ch.map Tr.addr).map PySem.Value.ref).toArray m, fun i ys κ' => κ.le κ' ∧ ys.length = i ∧ RdKL κ' ys ((ch.take i).map Tr.shp), ?_⟩
      refine ⟨.list aD.hh l _ m, by rw [show sizeLine = 16777216 by decide]; simp; omega, ⟨.rfl, rfl, by simpa using RdKL.nil κ⟩, fun i ys κ' hI b hb => by rw [List.mem_singleton.mp hb]; exact hI.1 _ _ hl, ?_, ?_⟩
      · rintro L' k v ys κ₃ hk hv ⟨hle, hlen', hr⟩
        have hv' : ((ch.map Tr.addr).map PySem.Value.ref)[k]? = some v := by simpa using hv
        rw [List.map_map, List.getElem?_map] at hv'
        obtain ⟨u, hu, rfl⟩ := Option.map_eq_some_iff.mp hv'
        have hum := List.mem_of_getElem? hu
        have hht := Tr.htL_le hum
        refine tests0 <| pick_t <| WE.call <| WE.glob rfl (gShape _) <| call_with (.ref (kShape _)) <| WArgs.cons <| WE.name 1 rfl rfl <| WArgs.nil ?_
        have e0 : (Tr.node ad d l ty ch).ht = Tr.htL ch + 1 := by simp [Tr.ht]
        refine ih u (by omega) (aD.less (by omega)) ((c.get u hum).le hle) ?_ fun v' κ₄ hle' hr' => ?_
        · have := Tr.preL_mem_len hum; simp only [Tr.pre, List.length_cons] at hlen; omega
        · refine ⟨hle.trans hle', by simp [hlen'], ?_⟩
          rw [List.take_add_one, hu, Option.toList_some, List.map_append]
          exact (hr.le hle').snoc (by rw [hlen']; simp; have := (List.getElem?_eq_some_iff.mp hu).1; omega) hr'
      · rintro ys κ₃ D mm ⟨hle, hlen', hr⟩ hD _
        have hall : ch.take ((ch.map Tr.addr).map PySem.Value.ref).toArray.size = ch := by simp
        rw [hall] at hr
        refine WArgs.nil ⟨by show 2 ≤ sizeLine; decide, fun z hz => ?_⟩
        have l1 : κ₃.le (κ₃.put D (listOf ys.toArray mm)) := PM.put_fresh hD _
        have l2 : (κ₃.put D (listOf ys.toArray mm)).le ((κ₃.put D (listOf ys.toArray mm)).put z (tupOf #[.int ty t1, .ref D])) := PM.put_fresh hz _
        refine h _ _ ((hle.trans l1).trans l2) (.tuple (PM.put_self ..) (.cons (RdK.int _ _ _) (.cons ?_ (.nil _))))
        rw [Tr.shpL_map]
        exact RdK.list (l2 _ _ (PM.put_self ..)) (by simpa using (hr.le l1).le l2)
end Mine
end
section
open PySem PySem.W PySem.Calls PyProof.Rows PySem.SeqAt
set_option maxRecDepth 100000
set_option maxHeartbeats 1000000
set_option linter.unusedVariables false
namespace Mine
theorem eqNil {W : Wd} {A : Around} {κ : PM} {Q : PySem.Value → PM → Prop} {a b : Addr} {n m k : Nat} (aa : AOk A (k + 2)) (ha : κ a = some (listOf #[] n)) (hb : κ b = some (listOf #[] m)) (h : Q (.bool true) κ) : Wp W A T1 (compareOp .Eq (.ref a) (.ref b)) κ Q :=
  t_eqData aa (RdK.list ha (.nil _)) (RdK.list hb (.nil _)) rfl rfl h
theorem neNil {W : Wd} {A : Around} {κ : PM} {Q : PySem.Value → PM → Prop} {a b : Addr} {n m k : Nat} (aa : AOk A (k + 2)) (ha : κ a = some (listOf #[] n)) (hb : κ b = some (listOf #[] m)) (h : Q (.bool false) κ) : Wp W A T1 (compareOp .NotEq (.ref a) (.ref b)) κ Q :=
  t_neData aa (RdK.list ha (.nil _)) (RdK.list hb (.nil _)) rfl rfl h
/-- _law_same of two lists of the same things -/
theorem same_spec {W : Wd} {A : Around} {κ : PM} {Q : PySem.Value → PM → Prop} {la lb : Addr} {as : List Addr} {n m k : Nat} (a : AOk A (k + 4)) (ha : κ la = some (listOf (as.map PySem.Value.ref).toArray n)) (hb : κ lb = some (listOf (as.map PySem.Value.ref).toArray m))
    (hz : as.length ≤ 1000) (ho : ∀ a ∈ as, ∃ o, κ a = some o ∧ o.cls ≠ .type "tuple") (h : ∀ κ', κ.le κ' → Q (.bool true) κ') : Wp W A T1 (PySem.call (.ref 402) [.ref la, .ref lb]) κ Q := by
  refine Wp.ofCd (Cd.defC rec402 a rfl [some (.ref la), some (.ref lb), none, none] rfl (by kernel_rfl) rfl (by decide) fun L => ?_)
  have aD : AOk (A.deeper (callEnvC rec402.fd L 402)) (k + 3) := a.deeper _
  generalize A.deeper (callEnvC rec402.fd L 402) = AD at aD
  have hsz : (as.map PySem.Value.ref).toArray.size = as.length := by simp
  refine WX.cons <| WS.ret <| WE.and <| WE.cmp <| WE.call <| WE.blt rfl rfl rfl (by decide) <| call_with .builtin <| WArgs.cons <| WE.name 0 rfl rfl <| WArgs.nil <| t_len ha (by rw [hsz]; omega) fun _ => ?_
  refine WE.call <| WE.blt rfl rfl rfl (by decide) <| call_with .builtin <| WArgs.cons <| WE.name 1 rfl rfl <| WArgs.nil <| t_len hb (by rw [hsz]; omega) fun _ => ?_
  refine t_eq <| Wp.truthyBool ?_
  rw [beq_self_eq_true]
  refine pick_t <| WE.and1 <| WE.cmp ?_
  refine we_comp 1 (kx := .local) (cl := [("rows", L + 1), ("others", L + 2)]) [none, none, some (.ref lb), some (.ref la)] rfl rfl ⟨rfl, rfl, rfl⟩ rfl (by decide) (by decide) (.inl ⟨rfl, rfl⟩) ?_ ?_
  · intro L' R' fr j y kk u hy hj hu
    match j with
    | 0 => cases hu
    | 1 => cases hu
    | 2 =>
      have hy' : some (("others" : Str), NameKind.cell) = some (y, kk) := hy
      cases hy'; cases hu
      exact cap_cell (fr.rd 1 _ _ _ rfl rfl) rfl rfl rfl
    | 3 =>
      have hy' : some (("rows" : Str), NameKind.cell) = some (y, kk) := hy
      cases hy'; cases hu
      exact cap_cell (fr.rd 0 _ _ _ rfl rfl) rfl rfl rfl
    | j + 4 => cases hu
  refine WE.call <| WE.blt rfl rfl rfl (by decide) <| call_with .type <| WArgs.cons <| WE.call <| WE.blt rfl rfl rfl (by decide) <| call_with .builtin <| WArgs.cons <| WE.name 0 rfl rfl <| WArgs.nil <| t_len ha (by rw [hsz]; omega) fun _ => WArgs.nil <| t_range fun rg ta tb tc hrg => ?_
  refine ⟨(as.map PySem.Value.ref).toArray.size, fun i v => ∃ t, v = .int (i : Int) t, [rg], fun _ => rangeOf (as.map PySem.Value.ref).toArray.size ta tb tc, fun i ys κ' => ys = [] ∧ κ' rg = some (rangeOf (as.map PySem.Value.ref).toArray.size ta tb tc) ∧ κ.le κ', ?_⟩
  refine ⟨.range aD.hh rg _ (by rw [hsz]; omega) ta tb tc, by rw [show sizeLine = 16777216 by decide, hsz]; omega, ⟨rfl, PM.put_self .., PM.put_fresh hrg _⟩, fun i ys κ' hI b hb => by rw [List.mem_singleton.mp hb]; exact hI.2.1, ?_, ?_⟩
  · rintro L' i v ys κ₃ hi ⟨ti, rfl⟩ ⟨rfl, hr, hle⟩
    rw [hsz] at hi
    have hx : (as.map PySem.Value.ref).toArray[i]? = some (.ref as[i]) := by simp [hi]
    obtain ⟨o, ho1, ho2⟩ := ho as[i] (List.getElem_mem hi)
    refine tests1 <| WT.cmp <| WE.sub <| WE.name 3 rfl rfl <| WE.name 1 rfl rfl <| t_item (hle _ _ ha) (by omega) hx <| WE.sub <| WE.name 2 rfl rfl <| WE.name 1 rfl rfl <| t_item (hle _ _ hb) (by omega) hx <| t_isNot (hle _ _ ho1) (hle _ _ ho1) ho2 <| Wp.truthyBool ?_
    rw [bne_self_eq_false]
    exact pick_f ⟨rfl, hr, hle⟩
  · rintro ys κ₃ D mm ⟨rfl, _, hle⟩ hD _
    have l1 : κ₃.le (κ₃.put D (listOf ([] : List PySem.Value).toArray mm)) := PM.put_fresh hD _
    refine WE.list <| WArgs.nil ⟨by decide, fun E hE => ?_⟩
    have l2 := PM.put_fresh hE (listOf ([] : List PySem.Value).toArray 0)
    refine eqNil (aD.less (m := 0 + 2) (by omega)) (l2 _ _ (PM.put_self ..)) (PM.put_self ..) (h _ ((hle.trans l1).trans l2))
/-- _law_lost of nodes that stand: nothing -/
theorem lost_spec {W : Wd} {A : Around} {κ : PM} {Q : PySem.Value → PM → Prop} {la : Addr} {as : List Addr} {n k : Nat} (a : AOk A (k + 6)) (ha : κ la = some (listOf (as.map PySem.Value.ref).toArray n))
    (hz : as.length ≤ 1000) (ho : ∀ a ∈ as, ∃ t par, t.addr = a ∧ At W.w.params κ t par ∧ t.pre.length ≤ 1000) (h : ∀ r m κ', κ.le κ' → κ r = none → κ' r = some (listOf #[] m) → Q (.ref r) κ') : Wp W A T1 (PySem.call (.ref 412) [.ref la]) κ Q := by
  refine Wp.ofCd (Cd.def rec412 a (BindsOk.eq rfl) [some (.ref la)] rfl (by kernel_rfl) (by decide) (locs rfl) (by decide) fun L => ?_)
  have aD : AOk (A.deeper (callEnv rec412.fd L 412)) (k + 5) := a.deeper _
  generalize A.deeper (callEnv rec412.fd L 412) = AD at aD
  have hsz : (as.map PySem.Value.ref).toArray.size = as.length := by simp
  refine WX.cons <| WS.ret ?_
  refine we_comp 1 (kx := .cell) (cl := []) [none, none] rfl rfl ⟨rfl, rfl, rfl⟩ rfl (by decide) (by decide) (.inr ⟨rfl, rfl⟩) ?_ ?_
  · intro L' R' fr j y kk u hy hj hu
    match j with
    | 0 => cases hu
    | 1 => cases hu
    | j + 2 => cases hu
  refine WE.name 0 rfl rfl ?_
  refine ⟨(as.map PySem.Value.ref).toArray.size, fun i v => (as.map PySem.Value.ref).toArray[i]? = some v, [la], fun _ => listOf (as.map PySem.Value.ref).toArray n, fun i ys κ' => ys = [] ∧ κ.le κ', ?_⟩
  refine ⟨.list aD.hh la _ n, by rw [show sizeLine = 16777216 by decide, hsz]; omega, ⟨rfl, .rfl⟩, fun i ys κ' hI b hb => by rw [List.mem_singleton.mp hb]; exact hI.2 _ _ ha, ?_, ?_⟩
  · rintro L' i v ys κ₃ hi hv ⟨rfl, hle⟩
    have hv' : (as.map PySem.Value.ref)[i]? = some v := by simpa using hv
    rw [List.getElem?_map] at hv'
    obtain ⟨ad, had, rfl⟩ := Option.map_eq_some_iff.mp hv'
    obtain ⟨t, par, rfl, hat, hlen⟩ := ho ad (List.mem_of_getElem? had)
    obtain ⟨f, l, m, hI, hch, hl, _, hk⟩ := hat.kids
    have hat' := hat
    refine tests1 <| WT.cmp ?_
    refine we_comp 1 (kx := .local) (cl := [("node", L' + 1)]) [none, none, some (.ref t.addr)] rfl rfl ⟨rfl, rfl, rfl⟩ rfl (by decide) (by decide) (.inl ⟨rfl, rfl⟩) ?_ ?_
    · intro L2 R' fr j y kk u hy hj hu
      match j with
      | 0 => cases hu
      | 1 => cases hu
      | 2 =>
        have hy' : some (("node" : Str), NameKind.cell) = some (y, kk) := hy
        cases hy'; cases hu
        exact cap_cell (fr.rd 1 _ _ _ rfl rfl) rfl rfl rfl
      | j + 3 => cases hu
    refine WE.attr <| WE.name 1 rfl rfl <| (hI.le hle).own (own_children _ _) hch rfl ?_
    have hkl : ((t.kids.map Tr.addr).map PySem.Value.ref).toArray.size = t.kids.length := by simp
    have hkz : t.kids.length ≤ 1000 := by
      have h1 : ∀ ts : List Tr, ts.length ≤ (Tr.preL ts).length := by
        intro ts
        induction ts with
        | nil => simp
        | cons u r ih => have : 1 ≤ u.pre.length := by rw [Tr.pre_eq]; simp
                         simp only [Tr.preL, List.length_append, List.length_cons]; omega
      have := h1 t.kids; have := t.preL_len_lt; omega
    refine ⟨((t.kids.map Tr.addr).map PySem.Value.ref).toArray.size, fun i v => ((t.kids.map Tr.addr).map PySem.Value.ref).toArray[i]? = some v, [l], fun _ => listOf ((t.kids.map Tr.addr).map PySem.Value.ref).toArray m, fun i ys κ' => ys = [] ∧ κ₃.le κ', ?_⟩
    refine ⟨.list aD.hh l _ m, by rw [show sizeLine = 16777216 by decide, hkl]; omega, ⟨rfl, .rfl⟩, fun i ys κ' hI' b hb => by rw [List.mem_singleton.mp hb]; exact hI'.2 _ _ (hle _ _ hl), ?_, ?_⟩
    · rintro L2 k2 v2 ys2 κ₄ _ hv2 ⟨rfl, hle2⟩
      have hv3 : ((t.kids.map Tr.addr).map PySem.Value.ref)[k2]? = some v2 := by simpa using hv2
      rw [List.map_map, List.getElem?_map] at hv3
      obtain ⟨c, hc, rfl⟩ := Option.map_eq_some_iff.mp hv3
      have hcm := List.mem_of_getElem? hc
      obtain ⟨fc, Ic, hpar⟩ := (hk c hcm).own
      have Ic' := Ic.le (hle.trans hle2)
      have Id := hI.le (hle.trans hle2)
      refine tests1 <| WT.cmp <| WE.attr <| WE.name 1 rfl rfl <| getParent Ic' hpar <| WE.name 2 rfl rfl <| t_isNot Id.1 Id.1 (by simp) <| Wp.truthyBool ?_
      rw [bne_self_eq_false]
      exact pick_f ⟨rfl, hle2⟩
    · rintro ys2 κ₄ D mm ⟨rfl, hle2⟩ hD _
      have l1 : κ₄.le (κ₄.put D (listOf ([] : List PySem.Value).toArray mm)) := PM.put_fresh hD _
      refine WE.list <| WArgs.nil ⟨by decide, fun E hE => ?_⟩
      have l2 := PM.put_fresh hE (listOf ([] : List PySem.Value).toArray 0)
      exact neNil (aD.less (m := 0 + 2) (by omega)) (l2 _ _ (PM.put_self ..)) (PM.put_self ..) <| Wp.truthyBool <| pick_f ⟨rfl, ((hle.trans hle2).trans l1).trans l2⟩
  · rintro ys κ₃ D mm ⟨rfl, hle⟩ hD _
    exact h D mm _ (hle.trans (PM.put_fresh hD _)) (PM.le.none hle hD) (PM.put_self ..)
end Mine
end
section
open PySem PySem.W PySem.Calls PyProof.Rows PySem.SeqAt
set_option maxRecDepth 100000
set_option maxHeartbeats 1000000
set_option linter.unusedVariables false
namespace Mine
abbrev WKw (W : Wd) (A : Around) (env : Env) (ρ : Loc) (pos : Pos) (kws : List Keyword) (κ : PM) (Q : List PySem.Value → PM → Prop) : Prop := Wp W A (FrameIs env ρ) (evalAll ((backToKw pos (keywordEach kws env)).map (·.2))) κ Q
section
variable {W : Wd} {A : Around} {env : Env} {ρ : Loc} {κ : PM} {pos p : Pos}
theorem kw_nil {Q : List PySem.Value → PM → Prop} (h : Q [] κ) : WKw W A env ρ pos [] κ Q := fun R s b p S => kwAll_nil ⟨κ, S, .of, h⟩
theorem kw_cons {n : Str} {e : Expr} {r : List Keyword} {Q : List PySem.Value → PM → Prop} (h : WE W A env ρ e κ fun v κ₁ => WKw W A env ρ pos r κ₁ fun vs κ₂ => Q (v :: vs) κ₂) : WKw W A env ρ pos (⟨some n, e, p⟩ :: r) κ Q :=
  fun R s b p S => kwAll_cons (h.seq b p S fun _ κ₁ s₁ S₁ F₁ h₁ => h₁.seq b p S₁ fun vs κ₂ s₂ S₂ F₂ q => ⟨κ₂, S₂, F₁.trans F₂, q⟩)
variable {Q : PySem.Value → PM → Prop}
theorem we_callkw {f : Expr} {e : Expr} {es : List Expr} {kws : List Keyword} (h : WE W A env ρ f κ fun g κ₁ => Callee W g ∧ WArgs W A env ρ pos (e :: es) κ₁ fun vs κ₂ => WKw W A env ρ pos kws κ₂ fun ks κ₃ => Wp W A T1 (PySem.call g vs (((backToKw pos (keywordEach kws env)).filterMap (·.1)).zip ks)) κ₃ Q)
    (hall : (backToKw pos (keywordEach kws env)).all (·.1.isSome) = true := by rfl) (hn : (backToKw pos (keywordEach kws env)).any (·.1.isNone) = false := by rfl)
    (hse : starEach (e :: es) env = (false, eval e env) :: starEach es env := by rfl) (hp : (backTo pos (starEach es env)).any (·.1) = false := by rfl)
    (he : eval (.Call f (e :: es) kws pos) env = (do callWith pos (← eval f env) [] (backTo pos (starEach (e :: es) env)) (backToKw pos (keywordEach kws env))) := by rfl) : WE W A env ρ (.Call f (e :: es) kws pos) κ Q := by
  intro R s b p S
  rw [he]
  refine wpAny_bind (h.seq b p S fun g κ₁ s₁ S₁ F₁ hh => ?_)
  obtain ⟨C, h₁⟩ := hh
  refine callWith_of (P := fun g => ∃ κ', Sat κ' R g) (by rw [hse]; show ((false || (backTo pos (starEach es env)).any (·.1)) || _) = false; rw [hp, hn]; rfl) (fun g ⟨κ', S'⟩ => C κ' R g b S') (evalArgs_kw2 hall ?_ hse)
  exact h₁.seq b p S₁ fun vs κ₂ s₂ S₂ F₂ h₂ => h₂.seq b p S₂ fun ks κ₃ s₃ S₃ F₃ h₃ => ⟨⟨κ₃, S₃⟩, h₃.seq b trivial S₃ fun v κ₄ s₄ S₄ F₄ q => ⟨κ₄, S₄, ((F₁.trans F₂).trans F₃).trans F₄, q⟩⟩
end
namespace Tr
mutual
/-- alike in kinds, texts, children -/
def Twin : Tr → Tr → Prop
  | leaf _ _ ty v p, leaf _ _ ty' v' p' => ty = ty' ∧ v = v' ∧ p = p'
  | node _ _ _ ty ch, node _ _ _ ty' ch' => ty = ty' ∧ TwinL ch ch'
  | leaf .., node .. => False
  | node .., leaf .. => False
def TwinL : List Tr → List Tr → Prop
  | [], [] => True
  | t :: r, u :: q => Twin t u ∧ TwinL r q
  | [], _ :: _ => False
  | _ :: _, [] => False
end
theorem TwinL.snoc : ∀ {a b : List Tr} {t u : Tr}, TwinL a b → Twin t u → TwinL (a ++ [t]) (b ++ [u])
  | [], [], _, _, _, h => by simp only [List.nil_append]; unfold TwinL; exact ⟨h, by unfold TwinL; trivial⟩
  | x :: r, y :: q, _, _, k, h => by
    unfold TwinL at k
    simp only [List.cons_append]
    unfold TwinL
    exact ⟨k.1, TwinL.snoc k.2 h⟩
  | [], _ :: _, _, _, k, _ => by unfold TwinL at k; exact k.elim
  | _ :: _, [], _, _, k, _ => by unfold TwinL at k; exact k.elim
theorem TwinL.len : ∀ {a b : List Tr}, TwinL a b → a.length = b.length
  | [], [], _ => rfl
  | x :: r, y :: q, k => by unfold TwinL at k; simp [TwinL.len k.2]
  | [], _ :: _, k => by unfold TwinL at k; exact k.elim
  | _ :: _, [], k => by unfold TwinL at k; exact k.elim
mutual
theorem Twin.shp : ∀ {a b : Tr}, Twin a b → a.shp = b.shp
  | leaf .., leaf .., h => by unfold Twin at h; simp [Tr.shp, h.1, h.2.1]
  | node .., node .., h => by unfold Twin at h; simp [Tr.shp, h.1, TwinL.shp h.2]
  | leaf .., node .., h => by unfold Twin at h; exact h.elim
  | node .., leaf .., h => by unfold Twin at h; exact h.elim
theorem TwinL.shp : ∀ {a b : List Tr}, TwinL a b → shpL a = shpL b
  | [], [], _ => rfl
  | x :: r, y :: q, h => by unfold TwinL at h; simp [shpL, Twin.shp h.1, TwinL.shp h.2]
  | [], _ :: _, h => by unfold TwinL at h; exact h.elim
  | _ :: _, [], h => by unfold TwinL at h; exact h.elim
end
mutual
theorem Twin.ok : ∀ {a b : Tr}, Twin a b → a.ok → b.ok
  | leaf .., leaf .., h, k => by unfold Twin at h; unfold Tr.ok at k ⊢; rw [← h.1, ← h.2.1, ← h.2.2]; exact k
  | node .., node .., h, k => by unfold Twin at h; unfold Tr.ok at k ⊢; rw [← h.1]; exact ⟨k.1, TwinL.ok h.2 k.2⟩
  | leaf .., node .., h, _ => by unfold Twin at h; exact h.elim
  | node .., leaf .., h, _ => by unfold Twin at h; exact h.elim
theorem TwinL.ok : ∀ {a b : List Tr}, TwinL a b → okL a → okL b
  | [], [], _, k => k
  | x :: r, y :: q, h, k => by unfold TwinL at h; unfold okL at k ⊢; exact ⟨Twin.ok h.1 k.1, TwinL.ok h.2 k.2⟩
  | [], _ :: _, h, _ => by unfold TwinL at h; exact h.elim
  | _ :: _, [], h, _ => by unfold TwinL at h; exact h.elim
end
mutual
theorem Twin.ht : ∀ {a b : Tr}, Twin a b → a.ht = b.ht ∧ a.pre.length = b.pre.length
  | leaf .., leaf .., h => by simp [Tr.ht, Tr.pre]
  | node .., node .., h => by unfold Twin at h; have := TwinL.ht h.2; simp [Tr.ht, Tr.pre, this.1, this.2]
  | leaf .., node .., h => by unfold Twin at h; exact h.elim
  | node .., leaf .., h => by unfold Twin at h; exact h.elim
theorem TwinL.ht : ∀ {a b : List Tr}, TwinL a b → htL a = htL b ∧ (preL a).length = (preL b).length
  | [], [], _ => ⟨rfl, rfl⟩
  | x :: r, y :: q, h => by unfold TwinL at h; have h1 := Twin.ht h.1; have h2 := TwinL.ht h.2; simp [htL, preL, h1.1, h2.1, h1.2, h2.2]
  | [], _ :: _, h => by unfold TwinL at h; exact h.elim
  | _ :: _, [], h => by unfold TwinL at h; exact h.elim
end
end Tr
end Mine
end
section
open PySem PySem.W PySem.Calls PyProof.Rows PySem.SeqAt
set_option maxRecDepth 100000
set_option maxHeartbeats 1000000
set_option linter.unusedVariables false
namespace Mine
/-- Leaf.prefix -/
theorem leaf_prefix {W : Wd} {A : Around} {n : Nat} {κ : PM} {Q : PySem.Value → PM → Prop} {x d : Addr} {f : Str → Option PySem.Value} {p : Str} {t : Tok} (a : AOk A n) (hI : Inst W.w.params κ 376 KL x d f) (hp : f "_prefix" = some (.str p t)) (h : Q (.str p t) κ) : Cd W A (.call (.ref 363) ⟨[.ref x], []⟩) κ Q :=
  Cd.def rec363 a (BindsOk.eq rfl) [some (.ref x)] rfl (by kernel_rfl) (by decide) (locs rfl) (by decide) fun L => WX.cons <| WS.ret <| WE.attr <| WE.name 0 rfl rfl <| hI.own (ownL (by decide)) hp rfl h
def cloneF : Tr → Addr
  | .leaf .. => 335
  | .node .. => 199
theorem cloneOk (P : Params) (t : Tr) : methOk P t.cls "clone" (cloneF t) = true := by
  cases t with
  | leaf => show methOk P 376 "clone" 335 = true; exact mthL' (by decide)
  | node => show methOk P 296 "clone" 199 = true; exact mthN' (by decide)
theorem cloneNm (t : Tr) : ("clone" : Str) ∉ t.nms := by cases t <;> simp only [Tr.nms, KL, KN] <;> decide
theorem cloneK (P : Params) (t : Tr) : keepIn (KF P) (.ref (cloneF t)) = true := by
  cases t with
  | leaf => show keepIn (KF P) (.ref 335) = true; exact keepF (by decide)
  | node => show keepIn (KF P) (.ref 199) = true; exact keepF (by decide)
theorem lenL_le (ts : List Tr) : ts.length ≤ (Tr.preL ts).length := by
  induction ts with
  | nil => simp
  | cons u r ih =>
    have : 1 ≤ u.pre.length := by rw [Tr.pre_eq]; simp
    simp only [Tr.preL, List.length_append, List.length_cons]; omega
/-- clone -/
theorem clone_spec {W : Wd} : ∀ (N : Nat) (t : Tr), t.ht < N → ∀ {A : Around} {κ : PM} {par : Option Addr} {Q : PySem.Value → PM → Prop}, AOk A (2 * t.ht + 6) → At W.w.params κ t par → t.ok → t.pre.length ≤ 1000 →
    (∀ κ' c, κ.le κ' → At W.w.params κ' c none → New κ c → Tr.Twin t c → Q (.ref c.addr) κ') → Wp W A T1 (PySem.call (.ref (cloneF t)) [.ref t.addr]) κ Q := by
  intro N
  induction N with
  | zero => intro t h; exact absurd h (Nat.not_lt_zero _)
  | succ N ih =>
    intro t ht A κ par Q a hat hok hlen h
    cases t with
    | leaf ad d ty v p =>
      unfold At at hat
      obtain ⟨f, i, F⟩ := hat
      obtain ⟨t1, e1⟩ := F.ty
      obtain ⟨t2, e2⟩ := F.val
      obtain ⟨t3, e3⟩ := F.pre
      obtain ⟨fl, nf, e4, hfl⟩ := F.fx
      obtain ⟨ln, t5, e5⟩ := F.line
      obtain ⟨cl, t6, e6⟩ := F.col
      obtain ⟨t7, e7⟩ := F.bd
      unfold Tr.ok at hok
      show Wp W A T1 (PySem.call (.ref 335) [.ref ad]) κ Q
      refine Wp.ofCd (Cd.def rec335 (a.less (m := 6) (by omega)) (BindsOk.eq rfl) [some (.ref ad), none] rfl (by kernel_rfl) (by decide) (locs rfl) (by decide) fun L => ?_)
      have aD : AOk (A.deeper (callEnv rec335.fd L 335)) 5 := (a.less (m := 6) (by omega)).deeper _
      generalize A.deeper (callEnv rec335.fd L 335) = AD at aD
      refine WX.cons <| WS.assert <| WT.cmp <| WE.attr <| WE.name 0 rfl rfl <| i.own (ownL (by decide)) e1 rfl <| WE.none <| t_nnI <| Wp.truthyBool ⟨rfl, ?_⟩
      refine WX.cons <| WS.exprS <| WE.str fun _ => ?_
      refine WX.cons <| WS.ret <| we_callkw <| WE.glob rfl (gLeaf _) ⟨.ref (kLeaf _), ?_⟩
      refine WArgs.cons <| WE.attr <| WE.name 0 rfl rfl <| i.own (ownL (by decide)) e1 rfl <| WArgs.cons <| WE.attr <| WE.name 0 rfl rfl <| i.own (ownL (by decide)) e2 rfl <| WArgs.cons <| WE.tuple <| WArgs.cons <| WE.attr <| WE.name 0 rfl rfl <| i.prop (prefL _) <| leaf_prefix (n := 4) aD.in1 i e3 ⟨rfl, ?_⟩
      refine WArgs.cons <| WE.tuple <| WArgs.cons <| WE.attr <| WE.name 0 rfl rfl <| i.own (ownL (by decide)) e5 rfl <| WArgs.cons <| WE.attr <| WE.name 0 rfl rfl <| i.own (ownL (by decide)) e6 rfl <| WArgs.nil ⟨by show 2 ≤ sizeLine; decide, fun tl htl => WArgs.nil ⟨by show 2 ≤ sizeLine; decide, fun tc htc => WArgs.nil ?_⟩⟩
      have l0 : κ.le (κ.put tl (tupOf #[.int ln t5, .int cl t6])) := PM.put_fresh htl _
      have l1 : κ.le ((κ.put tl (tupOf #[.int ln t5, .int cl t6])).put tc (tupOf #[.str p t3, .ref tl])) := l0.put (PM.le.none l0 htc)
      have hne' : tl ≠ tc := fun q => by subst q; rw [PM.put_self] at htc; cases htc
      refine kw_cons <| WE.attr <| WE.name 0 rfl rfl <| (i.le l1).own (ownL (by decide)) e4 rfl <| kw_cons <| WE.attr <| WE.name 0 rfl rfl <| (i.le l1).own (ownL (by decide)) e7 rfl <| kw_nil ?_
      refine Wp.ofCd (leaf_call (n := 2) (aD.less (by omega)) (fun x => ?_) hok.1 (by omega) (.inl (l1 _ _ hfl)) (.inl (by rw [l1 _ _ hfl]; simp)) (PM.put_self ..) (by rw [PM.put_ne _ _ hne', PM.put_self]) fun κ' x dx l2 hx hdx at' => ?_)
      · obtain ⟨t4, hb⟩ := leafBk W x tc fl ty v t1 t2 t7
        exact ⟨_, t7, t4, hb, rfl, locs rfl⟩
      · refine h κ' (.leaf x dx ty v p) (l1.trans l2) at' ⟨by simp [Tr.ds], by simp [Tr.ls], fun e he => ?_, fun l hl => (by simp [Tr.ls] at hl), fun b hb => ?_⟩ (by unfold Tr.Twin; exact ⟨rfl, rfl, rfl⟩)
        · simp [Tr.ds] at he; subst he; exact PM.le.none l1 hdx
        · simp [Tr.pre] at hb; subst hb; exact PM.le.none l1 hx
    | node ad d l ty ch =>
      have hat' := hat
      unfold At at hat
      obtain ⟨⟨f, i, F⟩, c⟩ := hat
      obtain ⟨t1, e1⟩ := F.ty
      obtain ⟨m, hl⟩ := F.li
      unfold Tr.ok at hok
      have hchl : ch.length ≤ 1000 := by
        have := lenL_le ch
        simp only [Tr.pre, List.length_cons] at hlen; omega
      have e0 : (Tr.node ad d l ty ch).ht = Tr.htL ch + 1 := by simp [Tr.ht]
      show Wp W A T1 (PySem.call (.ref 199) [.ref ad]) κ Q
      refine Wp.ofCd (Cd.def rec199 (a.less (m := 2 * Tr.htL ch + 8) (by omega)) (BindsOk.eq rfl) [some (.ref ad), none] rfl (by kernel_rfl) (by decide) (locs rfl) (by decide) fun L => ?_)
      have aD : AOk (A.deeper (callEnv rec199.fd L 199)) (2 * Tr.htL ch + 7) := (a.less (m := 2 * Tr.htL ch + 8) (by omega)).deeper _
      generalize A.deeper (callEnv rec199.fd L 199) = AD at aD
      refine WX.cons <| WS.assert <| WT.cmp <| WE.attr <| WE.name 0 rfl rfl <| i.own (ownN (by decide)) e1 rfl <| WE.none <| t_nnI <| Wp.truthyBool ⟨rfl, ?_⟩
      refine WX.cons <| WS.exprS <| WE.str fun _ => ?_
      refine WX.cons <| WS.ret <| we_callkw <| WE.glob rfl (gNode _) ⟨.ref (kNode _), ?_⟩
      refine WArgs.cons <| WE.attr <| WE.name 0 rfl rfl <| i.own (ownN (by decide)) e1 rfl <| WArgs.cons ?_
      refine we_comp 1 (kx := .local) (cl := []) [none, none] rfl rfl ⟨rfl, rfl, rfl⟩ rfl (by decide) (by decide) (.inl ⟨rfl, rfl⟩) ?_ ?_
      · intro L' R' fr j y kk u hy hj hu
        match j with
        | 0 => cases hu
        | 1 => cases hu
        | j + 2 => cases hu
      refine WE.attr <| WE.name 0 rfl rfl <| i.own (ownN (by decide)) F.ch rfl ?_
      refine ⟨((ch.map Tr.addr).map PySem.Value.ref).toArray.size, fun i v => ((ch.map Tr.addr).map PySem.Value.ref).toArray[i]? = some v, [l], fun _ => listOf ((ch.map Tr.addr).map PySem.Value.ref).toArray m,
        fun i ys κ' => κ.le κ' ∧ ∃ cs : List Tr, ys = (cs.map Tr.addr).map PySem.Value.ref ∧ NewL κ cs ∧ Tr.TwinL (ch.take i) cs ∧ ∀ u ∈ cs, At W.w.params κ' u none, ?_⟩
      refine ⟨.list aD.hh l _ m, by rw [show sizeLine = 16777216 by decide]; simp; omega, ⟨.rfl, [], rfl, NewL.nil _, by rw [List.take_zero]; unfold Tr.TwinL; trivial, fun _ h => nomatch h⟩, fun i ys κ' hI b hb => by rw [List.mem_singleton.mp hb]; exact hI.1 _ _ hl, ?_, ?_⟩
      · rintro L' k v ys κ₃ hk hv ⟨hle, cs, rfl, nw, tw, hcs⟩
        have hv' : ((ch.map Tr.addr).map PySem.Value.ref)[k]? = some v := by simpa using hv
        rw [List.map_map, List.getElem?_map] at hv'
        obtain ⟨u, hu, rfl⟩ := Option.map_eq_some_iff.mp hv'
        have hum := List.mem_of_getElem? hu
        have hht := Tr.htL_le hum
        obtain ⟨fu, Iu, _⟩ := ((c.get u hum).le hle).own
        refine tests0 <| pick_t <| WE.meth <| WE.name 1 rfl rfl <| Iu.method (cloneOk _ u) (cloneNm u) <| call_with0 (.ref (cloneK _ u)) ?_
        refine ih u (by omega) (aD.less (by omega)) ((c.get u hum).le hle) (Tr.okL_get hok.2 u hum) ?_ fun κ₄ w hle' atw nww tww => ?_
        · have := Tr.preL_mem_len hum; simp only [Tr.pre, List.length_cons] at hlen; omega
        · refine ⟨hle.trans hle', cs ++ [w], by simp, nw.snoc (fun z hz => ⟨none, hcs z hz⟩) nww (fun b e => PM.le.none hle e), ?_, fun z hz => ?_⟩
          · rw [List.take_add_one, hu, Option.toList_some]; exact tw.snoc tww
          · rcases List.mem_append.mp hz with hz | hz
            · exact (hcs z hz).le hle'
            · rw [List.mem_singleton.mp hz]; exact atw
      · rintro ys κ₅ D mm ⟨hle, cs, rfl, nw, tw, hcs⟩ hD _
        have hall : ch.take ((ch.map Tr.addr).map PySem.Value.ref).toArray.size = ch := by simp
        rw [hall] at tw
        have l5 : κ₅.le (κ₅.put D (listOf ((cs.map Tr.addr).map PySem.Value.ref).toArray mm)) := PM.put_fresh hD _
        refine WArgs.nil <| kw_cons <| WE.attr <| WE.name 0 rfl rfl <| (i.le (hle.trans l5)).own (ownN (by decide)) F.fx rfl <| kw_nil ?_
        refine Wp.ofCd <| node_call (n := 2) (aD.less (by omega)) (fun x => ⟨_, nodeBk W x D _ _, rfl, locs rfl⟩) hok.1 (PM.put_self ..) (by have := tw.len; omega) (fun t ht => (hcs t ht).le l5) nw.ds fun κ₆ x dx c6 O6 hx hdx hc at6 => ?_
        obtain ⟨s1, s2⟩ := at_ds_some hcs
        have hdx5 := PM.le.none l5 hdx
        have hc5 := PM.le.none l5 hc
        refine h κ₆ (.node x dx c6 ty cs) (fun u o e => O6 u o (l5 _ _ (hle _ _ e)) (fun es nn _ m => ?_) (fun m => nomatch m)) at6 ⟨?_, ?_, fun e he => ?_, fun e he => ?_, fun e he => ?_⟩ (by unfold Tr.Twin; exact ⟨rfl, tw⟩)
        · have := nw.fd u m; rw [this] at e; cases e
        · simp only [Tr.ds, List.nodup_cons]; exact ⟨fun q => s1 _ q hdx5, nw.ds⟩
        · simp only [Tr.ls, List.nodup_cons]; exact ⟨fun q => s2 _ q hc5, nw.ls⟩
        · simp only [Tr.ds, List.mem_cons] at he
          rcases he with rfl | he
          · exact PM.le.none hle hdx5
          · exact nw.fd e he
        · simp only [Tr.ls, List.mem_cons] at he
          rcases he with rfl | he
          · exact PM.le.none hle hc5
          · exact nw.fl e he
        · simp only [Tr.pre, List.mem_cons] at he
          rcases he with rfl | he
          · exact PM.le.none hle (PM.le.none l5 hx)
          · exact nw.fa e he
end Mine
end
section
open PySem PySem.W PySem.Calls PyProof.Rows PySem.SeqAt
set_option maxRecDepth 100000
set_option maxHeartbeats 1000000
set_option linter.unusedVariables false
namespace Mine
/-- one name put into the dict at d -/
def Put1 (P : Params) (d : Addr) (name : Str) (v : PySem.Value) (κ κ' : PM) : Prop := ∃ es n n' tk, κ d = some (dictOf es n) ∧ κ' = κ.put d (dictOf (putL name (PyData.keyHash P name) (.str name tk) v es) n')
theorem Put1.inst {P : Params} {d : Addr} {name : Str} {v : PySem.Value} {κ κ' : PM} (h : Put1 P d name v κ κ') {C a : Addr} {names : List Str} {f : Str → Option PySem.Value} (i : Inst P κ C names a d f) (hn : name ∈ names) : Inst P κ' C names a d (upd f name v) := by
  obtain ⟨es, n, n', tk, h1, rfl⟩ := h
  obtain ⟨i1, es2, n2, i2, i3⟩ := i
  rw [h1] at i2
  have : es = es2 := by simpa using (show es.toArray = es2.toArray by cases i2; rfl)
  subst this
  have hne : a ≠ d := fun q => by subst q; rw [h1] at i1; simp at i1
  exact ⟨by rw [PM.put_ne _ _ hne]; exact i1, _, _, PM.put_self .., i3.put hn⟩
def Only (F : List Addr) (κ κ' : PM) : Prop := ∀ b o, b ∉ F → κ b = some o → κ' b = some o
theorem Only.rfl {F : List Addr} {κ : PM} : Only F κ κ := fun _ _ _ e => e
theorem Only.trans {F : List Addr} {a b c : PM} (x : Only F a b) (y : Only F b c) : Only F a c := fun u o h e => y u o h (x u o h e)
theorem Only.put {F : List Addr} {κ κ' : PM} {d : Addr} {o' : Obj} (x : Only F κ κ') (hd : d ∈ F) : Only F κ (κ'.put d o') := fun u o h e => by
  have hne : u ≠ d := fun q => by subst q; exact h hd
  rw [PM.put_ne _ _ hne]; exact x u o h e
theorem Only.le {F : List Addr} {κ κ' κ'' : PM} (x : Only F κ κ') (l : κ'.le κ'') : Only F κ κ'' := fun u o h e => l _ _ (x u o h e)
theorem Only.mono {F F' : List Addr} {κ κ' : PM} (x : Only F κ κ') (h : ∀ b ∈ F, b ∈ F') : Only F' κ κ' := fun u o k e => x u o (fun m => k (h _ m)) e
theorem Put1.only {P : Params} {d : Addr} {name : Str} {v : PySem.Value} {κ κ' : PM} (h : Put1 P d name v κ κ') {F : List Addr} (hd : d ∈ F) : Only F κ κ' := by
  obtain ⟨es, n, n', tk, h1, rfl⟩ := h
  exact Only.rfl.put hd
section
variable {W : Wd} {A : Around} {κ : PM} {C a d : Addr} {names : List Str} {f : Str → Option PySem.Value} {name : Str} {v : PySem.Value}
theorem Inst.set1 {Q : Unit → PM → Prop} (i : Inst W.w.params κ C names a d f) (ok : setOk W.w.params C name = true) (hn : name ∈ names) (hz : names.length ≤ 100) (h : ∀ κ', Put1 W.w.params d name v κ κ' → Q () κ') :
    Wp W A T1 (PySem.setAttr (.ref a) name v) κ Q := fun R s b _ S => by
  have ia := i.1
  obtain ⟨es, n, I, hD, hd⟩ := i.at S
  unfold setOk at ok
  simp only [Bool.and_eq_true, beq_iff_eq] at ok
  obtain ⟨⟨⟨h1, h2⟩, h3⟩, h4⟩ := ok
  have X := W.inK b S
  have D2 := hD.put (t := s.toks + 1) (v := v) hn
  refine set_plain X I h1 (osa_put (ox := instObj C d) (s := { s with toks := s.toks + 1 }) X I h2 h3 h4 hD.any (Nat.le_trans (Nat.le_trans D2.len hz) (by decide)) fun h' hs ho => ?_)
  exact ⟨_, S.upd hd hs ho, .of, h _ ⟨es, n, _, _, hd, rfl⟩⟩
end
/-- all but the mark of change -/
structure Wc (P : Params) (κ κ' : PM) : Prop where
  keep : ∀ b o, κ b = some o → (∀ es n, o.data ≠ .dict es n) → κ' b = some o
  inst : ∀ C names a d f, ("was_changed" : Str) ∈ names → Inst P κ C names a d f → ∃ f', Inst P κ' C names a d f' ∧ (f' = f ∨ f' = upd f "was_changed" (.bool true))
theorem Wc.rfl {P : Params} {κ : PM} : Wc P κ κ := ⟨fun _ _ e _ => e, fun _ _ _ _ f _ i => ⟨f, i, .inl (Eq.refl _)⟩⟩
theorem upd_upd (f : Str → Option PySem.Value) (x : Str) (v w : PySem.Value) : upd (upd f x v) x w = upd f x w := by
  funext y; unfold upd; split <;> simp_all
theorem Wc.trans {P : Params} {a b c : PM} (x : Wc P a b) (y : Wc P b c) : Wc P a c := ⟨fun u o e h => y.keep u o (x.keep u o e h) h, fun C names ad d f hn i => by
  obtain ⟨f1, i1, q1⟩ := x.inst C names ad d f hn i
  obtain ⟨f2, i2, q2⟩ := y.inst C names ad d f1 hn i1
  refine ⟨f2, i2, ?_⟩
  rcases q1 with rfl | rfl
  · exact q2
  · rcases q2 with rfl | rfl
    · exact .inr (Eq.refl _)
    · exact .inr (upd_upd ..)⟩
theorem Put1.wc {P : Params} {d : Addr} {κ κ' : PM} (h : Put1 P d "was_changed" (.bool true) κ κ') : Wc P κ κ' := by
  have h' := h
  obtain ⟨es, n, n', tk, h1, rfl⟩ := h
  refine ⟨fun b o e k => ?_, fun C names ad d2 f hn i => ?_⟩
  · have : b ≠ d := fun q => by subst q; rw [h1] at e; cases e; exact k _ _ (Eq.refl _)
    rw [PM.put_ne _ _ this]; exact e
  · by_cases q : d2 = d
    · subst q; exact ⟨_, h'.inst i hn, .inr (Eq.refl _)⟩
    · obtain ⟨i1, es2, n2, i2, i3⟩ := i
      have hne : ad ≠ d := fun q => by subst q; rw [h1] at i1; simp at i1
      exact ⟨f, ⟨by rw [PM.put_ne _ _ hne]; exact i1, es2, n2, by rw [PM.put_ne _ _ q]; exact i2, i3⟩, .inl (Eq.refl _)⟩
theorem ParIs.upd {f : Str → Option PySem.Value} {n : Str} {v : PySem.Value} {par : Option Addr} (h : ParIs f par) (hn : ("parent" : Str) ≠ n) : ParIs (Mine.upd f n v) par := by
  cases par with
  | none => unfold ParIs at h ⊢; rw [upd_ne _ _ hn]; exact h
  | some q => unfold ParIs at h ⊢; rw [upd_ne _ _ hn]; exact h
theorem LeafF.chg {κ κ' : PM} {f f' : Str → Option PySem.Value} {ty : Int} {val pre : Str} {par : Option Addr} (h : LeafF κ f ty val pre par) (k : ∀ b xs n, κ b = some (listOf xs n) → κ' b = some (listOf xs n)) (q : f' = f ∨ f' = upd f "was_changed" (.bool true)) : LeafF κ' f' ty val pre par := by
  rcases q with rfl | rfl
  · exact ⟨h.ty, h.val, h.pre, let ⟨a, n, y, z⟩ := h.ch; ⟨a, n, y, k _ _ _ z⟩, let ⟨a, n, y, z⟩ := h.fx; ⟨a, n, y, k _ _ _ z⟩, h.line, h.col, h.bd, h.par, h.wc⟩
  · exact ⟨h.ty, h.val, h.pre, let ⟨a, n, y, z⟩ := h.ch; ⟨a, n, y, k _ _ _ z⟩, let ⟨a, n, y, z⟩ := h.fx; ⟨a, n, y, k _ _ _ z⟩, h.line, h.col, h.bd, h.par.upd (by decide), .inr ⟨true, upd_self ..⟩⟩
theorem NodeF.chg {κ κ' : PM} {f f' : Str → Option PySem.Value} {ty : Int} {lc : Addr} {cs : List Addr} {par : Option Addr} (h : NodeF κ f ty lc cs par) (k : ∀ b xs n, κ b = some (listOf xs n) → κ' b = some (listOf xs n)) (q : f' = f ∨ f' = upd f "was_changed" (.bool true)) : NodeF κ' f' ty lc cs par := by
  rcases q with rfl | rfl
  · exact ⟨h.ty, h.ch, let ⟨n, z⟩ := h.li; ⟨n, k _ _ _ z⟩, h.fx, h.pm, h.nm, h.par, h.wc⟩
  · exact ⟨h.ty, h.ch, let ⟨n, z⟩ := h.li; ⟨n, k _ _ _ z⟩, h.fx, h.pm, h.nm, h.par.upd (by decide), .inr ⟨true, upd_self ..⟩⟩
mutual
theorem At.chg {P : Params} {κ κ' : PM} (w : Wc P κ κ') : ∀ {t : Tr} {par : Option Addr}, At P κ t par → At P κ' t par
  | .leaf a d ty val pre, par, h => by
    unfold At at h ⊢
    obtain ⟨f, i, F⟩ := h
    obtain ⟨f', i', q⟩ := w.inst _ _ _ _ _ (by decide) i
    exact ⟨f', i', F.chg (fun b xs n e => w.keep b _ e (by simp)) q⟩
  | .node a d lc ty ch, par, h => by
    unfold At at h ⊢
    obtain ⟨⟨f, i, F⟩, c⟩ := h
    obtain ⟨f', i', q⟩ := w.inst _ _ _ _ _ (by decide) i
    exact ⟨⟨f', i', F.chg (fun b xs n e => w.keep b _ e (by simp)) q⟩, AtL.chg w c⟩
theorem AtL.chg {P : Params} {κ κ' : PM} (w : Wc P κ κ') : ∀ {ts : List Tr} {q : Addr}, AtL P κ ts q → AtL P κ' ts q
  | [], _, _ => by unfold AtL; trivial
  | t :: r, q, h => by
    unfold AtL at h ⊢
    exact ⟨At.chg w h.1, AtL.chg w h.2⟩
end
end Mine
end
section
open PySem PySem.W PySem.Calls PyProof.Rows PySem.SeqAt
set_option maxRecDepth 100000
set_option maxHeartbeats 1000000
set_option linter.unusedVariables false
namespace Mine
structure Kd (P : Params) (C : Addr) (names : List Str) : Prop where
  set : ∀ n ∈ names, setOk P C n = true
  own : ∀ n ∈ names, ownOk P C n = true
  bool : boolOk P C = true
  chg : clsOk P C "was_changed" (.bool false) = true
  par : clsOk P C "parent" .none = true
  meth : methOk P C "changed" 113 = true
  nm : ("changed" : Str) ∉ names
  wm : ("was_changed" : Str) ∈ names
  pm : ("parent" : Str) ∈ names
  len : names.length ≤ 100
theorem kdL (P : Params) : Kd P 376 KL := ⟨fun _ h => setL h, fun _ h => ownL h, boolL P, chgL P, parL P, mthL' (by decide), by decide, by decide, by decide, by decide⟩
theorem kdN (P : Params) : Kd P 296 KN := ⟨fun _ h => setN h, fun _ h => ownN h, boolN P, chgN P, parN P, mthN' (by decide), by decide, by decide, by decide, by decide⟩
theorem kdT (P : Params) (t : Tr) : Kd P t.cls t.nms := by
  cases t with
  | leaf => exact kdL P
  | node => exact kdN P
/-- a road up by the parents, within the dicts F -/
def Up (P : Params) (κ : PM) (F : List Addr) : Nat → Addr → Prop
  | 0, a => ∃ C names d f, Kd P C names ∧ Inst P κ C names a d f ∧ WcIs f ∧ d ∈ F ∧ ParIs f none
  | n + 1, a => ∃ C names d f, Kd P C names ∧ Inst P κ C names a d f ∧ WcIs f ∧ d ∈ F ∧ (ParIs f none ∨ ∃ q, ParIs f (some q) ∧ Up P κ F n q)
theorem Up.here {P : Params} {κ : PM} {F : List Addr} {n : Nat} {a : Addr} (h : Up P κ F n a) : ∃ C names d f, Kd P C names ∧ Inst P κ C names a d f ∧ WcIs f ∧ d ∈ F ∧ (ParIs f none ∨ ∃ q m, n = m + 1 ∧ ParIs f (some q) ∧ Up P κ F m q) := by
  cases n with
  | zero => obtain ⟨C, names, d, f, k, i, w, hd, hp⟩ := h; exact ⟨C, names, d, f, k, i, w, hd, .inl hp⟩
  | succ n =>
    obtain ⟨C, names, d, f, k, i, w, hd, hp⟩ := h
    refine ⟨C, names, d, f, k, i, w, hd, hp.imp id ?_⟩
    rintro ⟨q, h1, h2⟩
    exact ⟨q, n, rfl, h1, h2⟩
section
variable {W : Wd} {A : Around} {κ : PM} {C a d : Addr} {names : List Str} {f : Str → Option PySem.Value}
theorem Kd.getWc {Q : PySem.Value → PM → Prop} {x : Bool} (k : Kd W.w.params C names) (i : Inst W.w.params κ C names a d f) (w : WcIs f) (h : ∀ b, Q (.bool b) κ) : Wp W A T1 (getAttr (.ref a) "was_changed" x) κ Q := by
  rcases w with w | ⟨b, w⟩
  · exact i.cls k.chg w (h _)
  · exact i.own (k.own _ k.wm) w rfl (h _)
theorem Kd.getPar {Q : PySem.Value → PM → Prop} {x : Bool} {par : Option Addr} (k : Kd W.w.params C names) (i : Inst W.w.params κ C names a d f) (hp : ParIs f par) (h : Q (parV par) κ) : Wp W A T1 (getAttr (.ref a) "parent" x) κ Q := by
  cases par with
  | some q => exact i.own (k.own _ k.pm) hp rfl h
  | none =>
    rcases hp with hp | hp
    · exact i.cls k.par hp h
    · exact i.own (k.own _ k.pm) hp rfl h
end
/-- Base.changed -/
theorem changed_spec {W : Wd} {F : List Addr} : ∀ (n : Nat) {A : Around} {κ : PM} {a : Addr} {Q : PySem.Value → PM → Prop}, AOk A (2 * n + 3) → Up W.w.params κ F n a → (∀ κ', Wc W.w.params κ κ' → Only F κ κ' → Q .none κ') → Wp W A T1 (PySem.call (.ref 113) [.ref a]) κ Q := by
  intro n
  induction n with
  | zero =>
    intro A κ a Q ao up h
    obtain ⟨C, names, d, f, k, i, w, hd, hp⟩ := up
    refine Wp.ofCd (Cd.def rec113 (ao.less (m := 3) (by omega)) (BindsOk.eq rfl) [some (.ref a)] rfl (by kernel_rfl) (by decide) (locs rfl) (by decide) fun L => ?_)
    refine WX.cons <| WS.if <| WT.value <| WE.attr <| WE.name 0 rfl rfl <| k.getWc i w fun b => Wp.truthyBool ?_
    cases b with
    | true => exact pick_t <| WX.cons <| WS.ret0 <| h κ .rfl .rfl
    | false =>
      refine pick_f <| WX.nil <| WX.cons <| WS.if <| WT.value <| WE.attr <| WE.name 0 rfl rfl <| k.getPar i hp <| t_truthyNone <| pick_f <| WX.nil ?_
      exact WX.cons <| WS.setattr <| WE.bool <| WE.name 0 rfl rfl <| i.set1 (k.set _ k.wm) k.wm k.len fun κ' p => WX.nil <| h κ' p.wc (p.only hd)
  | succ n ih =>
    intro A κ a Q ao up h
    obtain ⟨C, names, d, f, k, i, w, hd, hp⟩ := up
    refine Wp.ofCd (Cd.def rec113 (ao.less (m := 2 * n + 5) (by omega)) (BindsOk.eq rfl) [some (.ref a)] rfl (by kernel_rfl) (by decide) (locs rfl) (by decide) fun L => ?_)
    have aD : AOk (A.deeper (callEnv rec113.fd L 113)) (2 * n + 4) := (ao.less (m := 2 * n + 5) (by omega)).deeper _
    generalize A.deeper (callEnv rec113.fd L 113) = AD at aD
    refine WX.cons <| WS.if <| WT.value <| WE.attr <| WE.name 0 rfl rfl <| k.getWc i w fun b => Wp.truthyBool ?_
    cases b with
    | true => exact pick_t <| WX.cons <| WS.ret0 <| h κ .rfl .rfl
    | false =>
      refine pick_f <| WX.nil ?_
      rcases hp with hp | ⟨q, hp, hup⟩
      · refine WX.cons <| WS.if <| WT.value <| WE.attr <| WE.name 0 rfl rfl <| k.getPar i hp <| t_truthyNone <| pick_f <| WX.nil ?_
        exact WX.cons <| WS.setattr <| WE.bool <| WE.name 0 rfl rfl <| i.set1 (k.set _ k.wm) k.wm k.len fun κ' p => WX.nil <| h κ' p.wc (p.only hd)
      · obtain ⟨C2, names2, d2, f2, k2, i2, w2, hd2, _⟩ := hup.here
        refine WX.cons <| WS.if <| WT.value <| WE.attr <| WE.name 0 rfl rfl <| k.getPar i hp <| i2.truthy k2.bool <| pick_t ?_
        refine WX.cons <| WS.exprS <| WE.meth <| WE.attr <| WE.name 0 rfl rfl <| k.getPar i hp <| i2.method k2.meth k2.nm <| call_with0 (.ref (keepF (by decide))) ?_
        refine ih (aD.less (by omega)) hup fun κ₁ wc1 o1 => WX.nil ?_
        obtain ⟨f', i', _⟩ := wc1.inst _ _ _ _ _ k.wm i
        exact WX.cons <| WS.setattr <| WE.bool <| WE.name 0 rfl rfl <| i'.set1 (k.set _ k.wm) k.wm k.len fun κ' p => WX.nil <| h κ' (wc1.trans p.wc) (o1.trans (p.only hd))
/-- Leaf.prefix = p -/
theorem leaf_setPrefix {W : Wd} {F : List Addr} {n : Nat} {A : Around} {κ : PM} {a d : Addr} {f : Str → Option PySem.Value} {p : Str} {t : Tok} {Q : PySem.Value → PM → Prop} (ao : AOk A (2 * n + 4)) (i : Inst W.w.params κ 376 KL a d f) (up : Up W.w.params κ F n a) (hd : d ∈ F)
    (h : ∀ κ₁ κ' f', Wc W.w.params κ κ₁ → Inst W.w.params κ₁ 376 KL a d f' → Put1 W.w.params d "_prefix" (.str p t) κ₁ κ' → Only F κ κ' → Q .none κ') : Cd W A (.call (.ref 372) ⟨[.ref a, .str p t], []⟩) κ Q := by
  refine Cd.def rec372 (ao.less (m := 2 * n + 4) (by omega)) (BindsOk.eq rfl) [some (.ref a), some (.str p t)] rfl (by kernel_rfl) (by decide) (locs rfl) (by decide) fun L => ?_
  have aD : AOk (A.deeper (callEnv rec372.fd L 372)) (2 * n + 3) := ao.deeper _
  generalize A.deeper (callEnv rec372.fd L 372) = AD at aD
  refine WX.cons <| WS.exprS <| WE.meth <| WE.name 0 rfl rfl <| i.method (kdL _).meth (by decide) <| call_with0 (.ref (keepF (by decide))) <| changed_spec n aD up fun κ₁ wc1 o1 => ?_
  obtain ⟨f', i', _⟩ := wc1.inst _ _ _ _ _ (by decide) i
  exact WX.cons <| WS.setattr <| WE.name 1 rfl rfl <| WE.name 0 rfl rfl <| i'.set1 (setL (by decide)) (by decide) (by decide) fun κ' p' => WX.nil <| h κ₁ κ' f' wc1 i' p' (o1.trans (p'.only hd))
end Mine
end
section
open PySem PySem.W PySem.Calls PyProof.Rows PySem.SeqAt
set_option maxRecDepth 100000
set_option maxHeartbeats 1000000
set_option linter.unusedVariables false
namespace Mine
namespace Tr
mutual
def subs : Tr → List Tr
  | leaf a d ty v p => [leaf a d ty v p]
  | node a d l ty ch => node a d l ty ch :: subsL ch
def subsL : List Tr → List Tr
  | [] => []
  | t :: r => t.subs ++ subsL r
end
mutual
theorem subs_pre : ∀ (t : Tr), t.subs.map addr = t.pre
  | leaf .. => by simp [subs, pre, addr]
  | node _ _ _ _ ch => by simp [subs, pre, addr, subsL_pre ch]
theorem subsL_pre : ∀ (ts : List Tr), (subsL ts).map addr = preL ts
  | [] => by simp [subsL, preL]
  | t :: r => by simp [subsL, preL, subs_pre t, subsL_pre r]
end
theorem self_subs (t : Tr) : t ∈ t.subs := by cases t <;> simp [subs]
mutual
/-- the node with dict d0 turned -/
def updD (d0 : Addr) (g : Tr → Tr) : Tr → Tr
  | leaf a d ty v p => if d = d0 then g (leaf a d ty v p) else leaf a d ty v p
  | node a d l ty ch => if d = d0 then g (node a d l ty ch) else node a d l ty (updDL d0 g ch)
def updDL (d0 : Addr) (g : Tr → Tr) : List Tr → List Tr
  | [] => []
  | t :: r => t.updD d0 g :: updDL d0 g r
end
mutual
/-- the node with list l0 turned -/
def updL (l0 : Addr) (g : Tr → Tr) : Tr → Tr
  | leaf a d ty v p => leaf a d ty v p
  | node a d l ty ch => if l = l0 then g (node a d l ty ch) else node a d l ty (updLL l0 g ch)
def updLL (l0 : Addr) (g : Tr → Tr) : List Tr → List Tr
  | [] => []
  | t :: r => t.updL l0 g :: updLL l0 g r
end
/-- no more than before -/
structure Sm (t t' : Tr) : Prop where
  ad : t'.addr = t.addr
  ok : t.sok → t'.sok
  ht : t'.ht ≤ t.ht
  pre : ∀ a ∈ t'.pre, a ∈ t.pre
  len : t'.pre.length ≤ t.pre.length
  lf : t'.isLeaf = t.isLeaf
  ds : ∀ a ∈ t'.ds, a ∈ t.ds
structure SmL (t t' : List Tr) : Prop where
  ad : t'.map addr = t.map addr
  ok : sokL t → sokL t'
  ht : htL t' ≤ htL t
  pre : ∀ a ∈ preL t', a ∈ preL t
  len : (preL t').length ≤ (preL t).length
  ds : ∀ a ∈ dsL t', a ∈ dsL t
theorem Sm.rfl (t : Tr) : Sm t t := ⟨Eq.refl _, id, Nat.le_refl _, fun _ h => h, Nat.le_refl _, Eq.refl _, fun _ h => h⟩
theorem Sm.node {a d l : Addr} {ty : Int} {ch ch' : List Tr} (h : SmL ch ch') : Sm (node a d l ty ch) (node a d l ty ch') := by
  refine ⟨Eq.refl _, fun k => ?_, ?_, fun b hb => ?_, ?_, Eq.refl _, fun b hb => by simp only [Tr.ds, List.mem_cons] at hb ⊢; exact hb.imp id (h.ds b)⟩
  · unfold Tr.sok at k ⊢; exact h.ok k
  · have := h.ht; simp only [Tr.ht]; omega
  · simp only [Tr.pre, List.mem_cons] at hb ⊢; exact hb.imp id (h.pre b)
  · have := h.len; simp only [Tr.pre, List.length_cons]; omega
theorem SmL.cons {t t' : Tr} {r r' : List Tr} (h : Sm t t') (k : SmL r r') : SmL (t :: r) (t' :: r') := by
  refine ⟨by simp [h.ad, k.ad], fun o => ?_, ?_, fun b hb => ?_, ?_, fun b hb => by simp only [dsL, List.mem_append] at hb ⊢; exact hb.imp (h.ds b) (k.ds b)⟩
  · unfold sokL at o ⊢; exact ⟨h.ok o.1, k.ok o.2⟩
  · have := h.ht; have := k.ht; simp only [htL]; omega
  · simp only [preL, List.mem_append] at hb ⊢; exact hb.imp (h.pre b) (k.pre b)
  · have := h.len; have := k.len; simp only [preL, List.length_append]; omega
theorem SmL.rfl (t : List Tr) : SmL t t := ⟨Eq.refl _, id, Nat.le_refl _, fun _ h => h, Nat.le_refl _, fun _ h => h⟩
mutual
theorem Sm.updD {d0 : Addr} {g : Tr → Tr} (hg : ∀ u, Sm u (g u)) : ∀ (t : Tr), Sm t (t.updD d0 g)
  | leaf a d ty v p => by unfold Tr.updD; split; exact hg _; exact .rfl _
  | node a d l ty ch => by unfold Tr.updD; split; exact hg _; exact .node (SmL.updD hg ch)
theorem SmL.updD {d0 : Addr} {g : Tr → Tr} (hg : ∀ u, Sm u (g u)) : ∀ (ts : List Tr), SmL ts (updDL d0 g ts)
  | [] => by unfold updDL; exact .rfl _
  | t :: r => by unfold updDL; exact .cons (Sm.updD hg t) (SmL.updD hg r)
end
mutual
theorem Sm.updL {l0 : Addr} {g : Tr → Tr} (hg : ∀ u, Sm u (g u)) : ∀ (t : Tr), Sm t (t.updL l0 g)
  | leaf a d ty v p => by unfold Tr.updL; exact .rfl _
  | node a d l ty ch => by unfold Tr.updL; split; exact hg _; exact .node (SmL.updL hg ch)
theorem SmL.updL {l0 : Addr} {g : Tr → Tr} (hg : ∀ u, Sm u (g u)) : ∀ (ts : List Tr), SmL ts (updLL l0 g ts)
  | [] => by unfold updLL; exact .rfl _
  | t :: r => by unfold updLL; exact .cons (Sm.updL hg t) (SmL.updL hg r)
end
end Tr
mutual
theorem At.updD {P : Params} {κ κ' : PM} {d0 : Addr} {g : Tr → Tr} (O : Off [d0] [] κ κ') (hg : ∀ u, (g u).addr = u.addr) : ∀ {t : Tr} {par : Option Addr}, At P κ t par → (∀ u q, u ∈ t.subs → u.dct = d0 → At P κ u q → At P κ' (g u) q) → At P κ' (t.updD d0 g) par
  | .leaf a d ty val pre, par, h, step => by
    unfold Tr.updD
    by_cases q : d = d0
    · rw [if_pos q]; exact step _ _ (Tr.self_subs _) q h
    · rw [if_neg q]; exact At.off O (fun e he m => q (by simp [Tr.ds] at he; rw [← he]; exact List.mem_singleton.mp m)) h
  | .node a d l ty ch, par, h, step => by
    unfold Tr.updD
    by_cases q : d = d0
    · rw [if_pos q]; exact step _ _ (Tr.self_subs _) q h
    · rw [if_neg q]
      unfold At at h ⊢
      obtain ⟨⟨f, i, F⟩, c⟩ := h
      have := AtL.updD O hg c fun u p hu => step u p (by simp [Tr.subs, hu])
      have ha : (Tr.updDL d0 g ch).map Tr.addr = ch.map Tr.addr := updDL_addr hg ch
      rw [ha]
      exact ⟨⟨f, i.off O (fun m => q (List.mem_singleton.mp m)), F.off O⟩, this⟩
theorem AtL.updD {P : Params} {κ κ' : PM} {d0 : Addr} {g : Tr → Tr} (O : Off [d0] [] κ κ') (hg : ∀ u, (g u).addr = u.addr) : ∀ {ts : List Tr} {p : Addr}, AtL P κ ts p → (∀ u q, u ∈ Tr.subsL ts → u.dct = d0 → At P κ u q → At P κ' (g u) q) → AtL P κ' (Tr.updDL d0 g ts) p
  | [], _, _, _ => by unfold Tr.updDL AtL; trivial
  | t :: r, p, h, step => by
    unfold AtL at h
    unfold Tr.updDL AtL
    exact ⟨At.updD O hg h.1 fun u q hu => step u q (by simp [Tr.subsL, hu]), AtL.updD O hg h.2 fun u q hu => step u q (by simp [Tr.subsL, hu])⟩
theorem updDL_addr {d0 : Addr} {g : Tr → Tr} (hg : ∀ u, (g u).addr = u.addr) : ∀ (ts : List Tr), (Tr.updDL d0 g ts).map Tr.addr = ts.map Tr.addr
  | [] => by simp [Tr.updDL]
  | .leaf a d ty v p :: r => by
    simp only [Tr.updDL, List.map_cons, updDL_addr hg r, Tr.updD]
    split <;> simp [hg]
  | .node a d l ty ch :: r => by
    simp only [Tr.updDL, List.map_cons, updDL_addr hg r, Tr.updD]
    split
    · rw [hg]
    · rfl
end
/-- all kept but the list l0 -/
def OffL (l0 : Addr) (κ κ' : PM) : Prop := (∀ b o, b ≠ l0 → κ b = some o → κ' b = some o) ∧ (∀ n, κ l0 = some (listOf #[] n) → ∃ n', κ' l0 = some (listOf #[] n'))
theorem OffL.empty {l0 l : Addr} {κ κ' : PM} {n : Nat} (O : OffL l0 κ κ') (h : κ l = some (listOf #[] n)) : ∃ n', κ' l = some (listOf #[] n') := by
  by_cases q : l = l0
  · subst q; exact O.2 n h
  · exact ⟨n, O.1 _ _ q h⟩
theorem OffL.dict {l0 : Addr} {κ κ' : PM} (O : OffL l0 κ κ') {xs : Array PySem.Value} {n : Nat} (h0 : κ l0 = some (listOf xs n)) {b : Addr} {o : Obj} (h : κ b = some o) (hd : ∀ ys m, o ≠ listOf ys m) : κ' b = some o :=
  O.1 _ _ (fun q => by subst q; rw [h0] at h; cases h; exact hd _ _ rfl) h
theorem Inst.offL {P : Params} {κ κ' : PM} {C : Addr} {names : List Str} {a d : Addr} {f : Str → Option PySem.Value} {l0 : Addr} {xs : Array PySem.Value} {n : Nat} (h : Inst P κ C names a d f) (O : OffL l0 κ κ') (h0 : κ l0 = some (listOf xs n)) : Inst P κ' C names a d f := by
  obtain ⟨h1, es, m, h2, h3⟩ := h
  exact ⟨O.dict h0 h1 (fun _ _ e => by simp at e), es, m, O.dict h0 h2 (fun _ _ e => by simp at e), h3⟩
theorem LeafF.offL {κ κ' : PM} {f : Str → Option PySem.Value} {ty : Int} {val pre : Str} {par : Option Addr} {l0 : Addr} (h : LeafF κ f ty val pre par) (O : OffL l0 κ κ') : LeafF κ' f ty val pre par :=
  ⟨h.ty, h.val, h.pre, let ⟨a, n, y, z⟩ := h.ch; let ⟨n', z'⟩ := O.empty z; ⟨a, n', y, z'⟩, let ⟨a, n, y, z⟩ := h.fx; let ⟨n', z'⟩ := O.empty z; ⟨a, n', y, z'⟩, h.line, h.col, h.bd, h.par, h.wc⟩
mutual
theorem At.updL {P : Params} {κ κ' : PM} {l0 : Addr} {g : Tr → Tr} {xs : Array PySem.Value} {n : Nat} (O : OffL l0 κ κ') (h0 : κ l0 = some (listOf xs n)) (hg : ∀ u, (g u).addr = u.addr) : ∀ {t : Tr} {par : Option Addr}, At P κ t par →
    (∀ a d ty ch q, Tr.node a d l0 ty ch ∈ t.subs → At P κ (.node a d l0 ty ch) q → At P κ' (g (.node a d l0 ty ch)) q) → At P κ' (t.updL l0 g) par
  | .leaf a d ty val pre, par, h, step => by
    unfold Tr.updL
    unfold At at h ⊢
    obtain ⟨f, i, F⟩ := h
    exact ⟨f, i.offL O h0, F.offL O⟩
  | .node a d l ty ch, par, h, step => by
    unfold Tr.updL
    by_cases q : l = l0
    · rw [if_pos q]; subst q; exact step _ _ _ _ _ (Tr.self_subs _) h
    · rw [if_neg q]
      unfold At at h ⊢
      obtain ⟨⟨f, i, F⟩, c⟩ := h
      have := AtL.updL O h0 hg c fun a' d' ty' ch' p hu => step a' d' ty' ch' p (by simp [Tr.subs, hu])
      have ha : (Tr.updLL l0 g ch).map Tr.addr = ch.map Tr.addr := updLL_addr hg ch
      rw [ha]
      exact ⟨⟨f, i.offL O h0, ⟨F.ty, F.ch, let ⟨m, z⟩ := F.li; ⟨m, O.1 _ _ q z⟩, F.fx, F.pm, F.nm, F.par, F.wc⟩⟩, this⟩
theorem AtL.updL {P : Params} {κ κ' : PM} {l0 : Addr} {g : Tr → Tr} {xs : Array PySem.Value} {n : Nat} (O : OffL l0 κ κ') (h0 : κ l0 = some (listOf xs n)) (hg : ∀ u, (g u).addr = u.addr) : ∀ {ts : List Tr} {p : Addr}, AtL P κ ts p →
    (∀ a d ty ch q, Tr.node a d l0 ty ch ∈ Tr.subsL ts → At P κ (.node a d l0 ty ch) q → At P κ' (g (.node a d l0 ty ch)) q) → AtL P κ' (Tr.updLL l0 g ts) p
  | [], _, _, _ => by unfold Tr.updLL AtL; trivial
  | t :: r, p, h, step => by
    unfold AtL at h
    unfold Tr.updLL AtL
    exact ⟨At.updL O h0 hg h.1 fun a' d' ty' ch' q hu => step a' d' ty' ch' q (by simp [Tr.subsL, hu]), AtL.updL O h0 hg h.2 fun a' d' ty' ch' q hu => step a' d' ty' ch' q (by simp [Tr.subsL, hu])⟩
theorem updLL_addr {l0 : Addr} {g : Tr → Tr} (hg : ∀ u, (g u).addr = u.addr) : ∀ (ts : List Tr), (Tr.updLL l0 g ts).map Tr.addr = ts.map Tr.addr
  | [] => by simp [Tr.updLL]
  | .leaf a d ty v p :: r => by simp [Tr.updLL, updLL_addr hg r, Tr.updL]
  | .node a d l ty ch :: r => by
    simp only [Tr.updLL, List.map_cons, updLL_addr hg r, Tr.updL]
    split
    · rw [hg]
    · rfl
end
mutual
theorem At.sub {P : Params} {κ : PM} : ∀ {t : Tr} {par : Option Addr}, At P κ t par → ∀ u ∈ t.subs, ∃ q, At P κ u q
  | .leaf a d ty v p, par, h, u, hu => by simp [Tr.subs] at hu; subst hu; exact ⟨par, h⟩
  | .node a d l ty ch, par, h, u, hu => by
    simp only [Tr.subs, List.mem_cons] at hu
    rcases hu with rfl | hu
    · exact ⟨par, h⟩
    · unfold At at h; exact AtL.sub h.2 u hu
theorem AtL.sub {P : Params} {κ : PM} : ∀ {ts : List Tr} {p : Addr}, AtL P κ ts p → ∀ u ∈ Tr.subsL ts, ∃ q, At P κ u q
  | [], _, _, u, hu => by simp [Tr.subsL] at hu
  | t :: r, p, h, u, hu => by
    unfold AtL at h
    simp only [Tr.subsL, List.mem_append] at hu
    rcases hu with hu | hu
    · exact At.sub h.1 u hu
    · exact AtL.sub h.2 u hu
end
theorem Up.succ {P : Params} {κ : PM} {F : List Addr} : ∀ {n : Nat} {a : Addr}, Up P κ F n a → Up P κ F (n + 1) a
  | 0, a, h => let ⟨C, names, d, f, k, i, w, hd, hp⟩ := h; ⟨C, names, d, f, k, i, w, hd, .inl hp⟩
  | n + 1, a, h => let ⟨C, names, d, f, k, i, w, hd, hp⟩ := h; ⟨C, names, d, f, k, i, w, hd, hp.imp id fun ⟨q, h1, h2⟩ => ⟨q, h1, h2.succ⟩⟩
theorem Up.le {P : Params} {κ : PM} {F : List Addr} {n m : Nat} {a : Addr} (h : Up P κ F n a) (hm : n ≤ m) : Up P κ F m a := by
  induction hm with
  | refl => exact h
  | step _ ih => exact ih.succ
theorem At.own2 {P : Params} {κ : PM} {t : Tr} {par : Option Addr} (h : At P κ t par) : ∃ f, Inst P κ t.cls t.nms t.addr t.dct f ∧ ParIs f par ∧ WcIs f := by
  cases t with
  | leaf => unfold At at h; obtain ⟨f, i, F⟩ := h; exact ⟨f, i, F.par, F.wc⟩
  | node => unfold At at h; obtain ⟨⟨f, i, F⟩, _⟩ := h; exact ⟨f, i, F.par, F.wc⟩
mutual
theorem At.up {P : Params} {κ : PM} {F : List Addr} : ∀ {t : Tr} {par : Option Addr} {n : Nat}, At P κ t par → (∀ d ∈ t.ds, d ∈ F) → (par = none ∨ ∃ q, par = some q ∧ Up P κ F n q) → ∀ u ∈ t.subs, Up P κ F (n + 1 + t.ht) u.addr
  | .leaf a d ty v p, par, n, h, hF, hp, u, hu => by
    simp [Tr.subs] at hu; subst hu
    obtain ⟨f, i, pi, wi⟩ := h.own2
    refine Up.le (n := n + 1) ⟨_, _, _, f, kdT P _, i, wi, hF _ (dct_mem _), ?_⟩ (by omega)
    rcases hp with rfl | ⟨q, rfl, h2⟩
    · exact .inl pi
    · exact .inr ⟨q, pi, h2⟩
  | .node a d l ty ch, par, n, h, hF, hp, u, hu => by
    obtain ⟨f, i, pi, wi⟩ := h.own2
    have me : Up P κ F (n + 1) a := by
      refine ⟨_, _, _, f, kdT P _, i, wi, hF _ (dct_mem _), ?_⟩
      rcases hp with rfl | ⟨q, rfl, h2⟩
      · exact .inl pi
      · exact .inr ⟨q, pi, h2⟩
    simp only [Tr.subs, List.mem_cons] at hu
    rcases hu with rfl | hu
    · exact me.le (by omega)
    · unfold At at h
      have := AtL.up (n := n + 1) h.2 (fun e he => hF e (by simp [Tr.ds, he])) me u hu
      exact this.le (by simp only [Tr.ht]; omega)
theorem AtL.up {P : Params} {κ : PM} {F : List Addr} : ∀ {ts : List Tr} {p : Addr} {n : Nat}, AtL P κ ts p → (∀ d ∈ Tr.dsL ts, d ∈ F) → Up P κ F n p → ∀ u ∈ Tr.subsL ts, Up P κ F (n + 1 + Tr.htL ts) u.addr
  | [], _, _, _, _, _, u, hu => by simp [Tr.subsL] at hu
  | t :: r, p, n, h, hF, hp, u, hu => by
    unfold AtL at h
    simp only [Tr.subsL, List.mem_append] at hu
    rcases hu with hu | hu
    · exact (At.up h.1 (fun e he => hF e (by simp [Tr.dsL, he])) (.inr ⟨p, rfl, hp⟩) u hu).le (by simp only [Tr.htL]; omega)
    · exact (AtL.up h.2 (fun e he => hF e (by simp [Tr.dsL, he])) hp u hu).le (by simp only [Tr.htL]; omega)
end
end Mine
end
section
open PySem PySem.W PySem.Calls PyProof.Rows PySem.SeqAt
set_option maxRecDepth 100000
set_option maxHeartbeats 1000000
set_option linter.unusedVariables false
namespace Mine
namespace Tr
mutual
theorem ds_subs : ∀ (t : Tr), t.ds = t.subs.map dct
  | leaf .. => by simp [ds, subs, dct]
  | node _ _ _ _ ch => by simp [ds, subs, dct, dsL_subs ch]
theorem dsL_subs : ∀ (ts : List Tr), dsL ts = (subsL ts).map dct
  | [] => by simp [dsL, subsL]
  | t :: r => by simp [dsL, subsL, ds_subs t, dsL_subs r]
end
theorem dct_inj {t u w : Tr} (nd : t.ds.Nodup) (hu : u ∈ t.subs) (hw : w ∈ t.subs) (h : u.dct = w.dct) : u = w := by
  rw [ds_subs] at nd
  obtain ⟨i, hi, rfl⟩ := List.getElem_of_mem hu
  obtain ⟨j, hj, rfl⟩ := List.getElem_of_mem hw
  have := (List.getElem_inj (i := i) (j := j) nd (h₀ := by simpa using hi) (h₁ := by simpa using hj)).mp (by simpa using h)
  subst this; rfl
/-- the leaf that the text ahead lies in -/
def head : Tr → Option Tr
  | leaf a d ty v p => some (leaf a d ty v p)
  | node _ _ _ _ [] => none
  | node _ _ _ _ (c :: _) => c.head
mutual
theorem subs_trans : ∀ {t u w : Tr}, u ∈ t.subs → w ∈ u.subs → w ∈ t.subs
  | leaf a d ty v p, u, w, hu, hw => by simp [subs] at hu; subst hu; exact hw
  | node a d l ty ch, u, w, hu, hw => by
    simp only [subs, List.mem_cons] at hu
    rcases hu with rfl | hu
    · exact hw
    · simp only [subs, List.mem_cons]; exact .inr (subsL_trans hu hw)
theorem subsL_trans : ∀ {ts : List Tr} {u w : Tr}, u ∈ subsL ts → w ∈ u.subs → w ∈ subsL ts
  | t :: r, u, w, hu, hw => by
    simp only [subsL, List.mem_append] at hu ⊢
    exact hu.imp (fun h => subs_trans h hw) (fun h => subsL_trans h hw)
end
theorem head_sub : ∀ {t w : Tr}, t.head = some w → w ∈ t.subs ∧ w.isLeaf = true
  | leaf a d ty v p, w, h => by simp [head] at h; subst h; simp [subs, isLeaf]
  | node a d l ty [], w, h => by simp [head] at h
  | node a d l ty (c :: r), w, h => by
    unfold head at h
    obtain ⟨h1, h2⟩ := head_sub h
    exact ⟨by simp [subs, subsL, h1], h2⟩
end Tr
/-- x.prefix -/
theorem getPrefix {W : Wd} : ∀ (N : Nat) (t : Tr), t.ht < N → ∀ {A : Around} {κ : PM} {par : Option Addr} {x : Bool} {Q : PySem.Value → PM → Prop}, AOk A (2 * t.ht + 3) → At W.w.params κ t par → t.ok → t.pre.length ≤ 1000 → (∀ p u, p.length ≤ 1 → Q (.str p u) κ) →
    Wp W A T1 (getAttr (.ref t.addr) "prefix" x) κ Q := by
  intro N
  induction N with
  | zero => intro t h; exact absurd h (Nat.not_lt_zero _)
  | succ N ih =>
    intro t ht A κ par x Q a hat hok hlen h
    cases t with
    | leaf ad d ty v p =>
      unfold At at hat
      obtain ⟨f, i, F⟩ := hat
      obtain ⟨t3, e3⟩ := F.pre
      unfold Tr.ok at hok
      exact i.prop (prefL _) <| leaf_prefix (n := 2) (a.less (m := 3) (by omega)).in1 i e3 ⟨rfl, h _ _ hok.2.2.2.1⟩
    | node ad d l ty ch =>
      have e0 : (Tr.node ad d l ty ch).ht = Tr.htL ch + 1 := by simp [Tr.ht]
      unfold At at hat
      obtain ⟨⟨f, i, F⟩, c⟩ := hat
      obtain ⟨m, hl⟩ := F.li
      unfold Tr.ok at hok
      have hchl := lenL_le ch
      have hlen' : (Tr.preL ch).length ≤ 1000 := by simp only [Tr.pre, List.length_cons] at hlen; omega
      refine i.prop (prefN _) <| Cd.def rec220 (a.less (m := 2 * Tr.htL ch + 4 + 1) (by omega)).in1 (BindsOk.eq rfl) [some (.ref ad)] rfl (by kernel_rfl) (by decide) (locs rfl) (by decide) fun L => ?_
      have aD : AOk (A.in1.deeper (callEnv rec220.fd L 220)) (2 * Tr.htL ch + 3) := (a.less (m := 2 * Tr.htL ch + 4 + 1) (by omega)).in1.deeper _
      generalize A.in1.deeper (callEnv rec220.fd L 220) = AD at aD
      refine WX.cons <| WS.if <| WT.not <| WT.value <| WE.attr <| WE.name 0 rfl rfl <| i.own (ownN (by decide)) F.ch rfl <| t_truthyList hl (by simp; omega) ?_
      cases ch with
      | nil => exact pick_t <| WX.cons <| WS.ret <| WE.str fun u => ⟨rfl, h _ u (by decide)⟩
      | cons c0 r =>
        refine pick_f <| WX.nil <| WX.cons <| WS.ret <| WE.attr <| WE.sub <| WE.attr <| WE.name 0 rfl rfl <| i.own (ownN (by decide)) F.ch rfl <| WE.int fun _ => t_item0 hl (x := .ref c0.addr) rfl ?_
        unfold AtL at c
        have h0 : c0.ht ≤ Tr.htL (c0 :: r) := by simp only [Tr.htL]; omega
        refine ih c0 (by omega) (aD.less (by omega)) c.1 (Tr.okL_get hok.2 c0 (.head _)) ?_ fun p u hp => ⟨rfl, h p u hp⟩
        simp only [Tr.preL, List.length_append] at hlen'; omega
/-- x.prefix = p -/
theorem setPrefix {W : Wd} {F : List Addr} {n : Nat} {p : Str} {tk : Tok} : ∀ (N : Nat) (t : Tr), t.ht < N → ∀ {A : Around} {κ : PM} {par : Option Addr} {Q : Unit → PM → Prop}, AOk A (3 * t.ht + 2 * n + 7) → At W.w.params κ t par → t.pre.length ≤ 1000 → (∀ u ∈ t.subs, Up W.w.params κ F n u.addr) → (∀ d ∈ t.ds, d ∈ F) →
    (t.head = none → Q () κ) → (∀ w κ₁ κ' f', t.head = some w → Wc W.w.params κ κ₁ → Inst W.w.params κ₁ 376 KL w.addr w.dct f' → Put1 W.w.params w.dct "_prefix" (.str p tk) κ₁ κ' → Only F κ κ' → Q () κ') →
    Wp W A T1 (setAttr (.ref t.addr) "prefix" (.str p tk)) κ Q := by
  intro N
  induction N with
  | zero => intro t h; exact absurd h (Nat.not_lt_zero _)
  | succ N ih =>
    intro t ht A κ par Q a hat hlen hup hF hn hs
    cases t with
    | leaf ad d ty v pr =>
      unfold At at hat
      obtain ⟨f, i, Fl⟩ := hat
      refine i.propSet (prefSL _) <| leaf_setPrefix (F := F) (n := n) (a.less (m := 2 * n + 6) (by omega)).in1.in1 i (hup _ (Tr.self_subs _)) (hF d (by simp [Tr.ds])) fun κ₁ κ' f' w i' p' o' => hs _ κ₁ κ' f' rfl w i' p' o'
    | node ad d l ty ch =>
      have e0 : (Tr.node ad d l ty ch).ht = Tr.htL ch + 1 := by simp [Tr.ht]
      unfold At at hat
      obtain ⟨⟨f, i, Fl⟩, c⟩ := hat
      obtain ⟨m, hl⟩ := Fl.li
      have hchl := lenL_le ch
      have hlen' : (Tr.preL ch).length ≤ 1000 := by simp only [Tr.pre, List.length_cons] at hlen; omega
      refine i.propSet (prefSN _) <| Cd.def rec229 (a.less (m := 3 * Tr.htL ch + 2 * n + 8 + 2) (by omega)).in1.in1 (BindsOk.eq rfl) [some (.ref ad), some (.str p tk)] rfl (by kernel_rfl) (by decide) (locs rfl) (by decide) fun L => ?_
      have aD : AOk (A.in1.in1.deeper (callEnv rec229.fd L 229)) (3 * Tr.htL ch + 2 * n + 7) := (a.less (m := 3 * Tr.htL ch + 2 * n + 8 + 2) (by omega)).in1.in1.deeper _
      generalize A.in1.in1.deeper (callEnv rec229.fd L 229) = AD at aD
      refine WX.cons <| WS.if <| WT.value <| WE.attr <| WE.name 0 rfl rfl <| i.own (ownN (by decide)) Fl.ch rfl <| t_truthyList hl (by simp; omega) ?_
      cases ch with
      | nil => exact pick_f <| WX.nil <| WX.nil <| hn rfl
      | cons c0 r =>
        refine pick_t <| WX.cons <| WS.setattr <| WE.name 1 rfl rfl <| WE.sub <| WE.attr <| WE.name 0 rfl rfl <| i.own (ownN (by decide)) Fl.ch rfl <| WE.int fun _ => t_item0 hl (x := .ref c0.addr) rfl ?_
        unfold AtL at c
        have h0 : c0.ht ≤ Tr.htL (c0 :: r) := by simp only [Tr.htL]; omega
        refine ih c0 (by omega) (aD.less (by omega)) c.1 ?_ (fun u hu => hup u (by simp [Tr.subs, Tr.subsL, hu])) (fun e he => hF e (by simp [Tr.ds, Tr.dsL, he])) (fun e => WX.nil <| WX.nil <| hn (by unfold Tr.head; exact e)) fun w κ₁ κ' f' e w' i' p' o' => WX.nil <| WX.nil <| hs w κ₁ κ' f' (by unfold Tr.head; exact e) w' i' p' o'
        simp only [Tr.preL, List.length_append] at hlen'; omega
end Mine
end
section
open PySem PySem.W PySem.Calls PyProof.Rows PySem.SeqAt
set_option maxRecDepth 100000
set_option maxHeartbeats 1000000
set_option linter.unusedVariables false
namespace Mine
section
variable {W : Wd} {A : Around} {κ : PM} {l : Addr} {xs : Array PySem.Value} {n : Nat} {u : Tok}
theorem t_delItem {k : Nat} {Q : Unit → PM → Prop} (hl : κ l = some (listOf xs n)) (hk : k < xs.size) (hz : xs.size ≤ 1000000) (h : ∀ m, Q () (κ.put l (listOf (xs.eraseIdxIfInBounds k) m))) : Wp W A T1 (PySem.delItem (.ref l) (.int (k : Int) u)) κ Q := fun R s _ _ S => by
  have h1 : IsL s.heap l xs n := S.k _ _ hl
  refine P.delItem_list h1 (by unfold Builtin.List.listFitsIndex; simp; omega) (seqIndex_of (by omega) (by omega)) ⟨_, S.upd hl (Heap.SameBut.update ..) (h1.update _), .of, h _⟩ (by rw [show sizeLine = 16777216 by decide]; omega)
theorem t_meth {name : Str} {id : String} {pl : Sem Bool} {Q : PySem.Value × List PySem.Value → PM → Prop} (slot : Slot "list" name id) (hty : typeOf (.builtin id) = Pure.pure (.type "method_descriptor")) (hl : κ l = some (listOf xs n)) (h : Q (.builtin id, [.ref l]) κ) :
    Wp W A T1 (getMethod (.ref l) name pl) κ Q := fun R s _ _ S =>
  getMethod_list_of slot hty ⟨_, S.k _ _ hl, rfl, n, rfl⟩ ⟨_, S.k _ _ hl, rfl⟩ ⟨κ, S, .of, h⟩
end
section
variable {W : Wd} {A : Around} {env : Env} {ρ : Loc} {κ : PM} {pos p : Pos}
theorem we_reverse {apos : Pos} {o : Expr} {Q : PySem.Value → PM → Prop} (h : WE W A env ρ o κ fun v κ₁ => ∃ l xs n, v = .ref l ∧ κ₁ l = some (listOf xs n) ∧ xs.size ≤ 1000000 ∧ ∀ m, Q .none (κ₁.put l (listOf xs.reverse m)))
    (he : eval (.Call (.Attribute o "reverse" apos) [] [] pos) env = (do let ov ← eval o env; standAt apos.atName; let (f, first) ← holding [ov] (getMethod ov "reverse" (Pure.pure true)); callWith pos f first (backTo pos (starEach [] env)) []) := by rfl) : WE W A env ρ (.Call (.Attribute o "reverse" apos) [] [] pos) κ Q :=
  WE.meth (pl := Pure.pure true) (Wp.mono h fun v κ₁ q => by
    obtain ⟨l, xs, n, rfl, hl, hz, hq⟩ := q
    refine t_meth F.slot_list_reverse (by rfl) hl fun R s b _ S => ?_
    have h1 : IsL s.heap l xs n := S.k _ _ hl
    exact P.reverse_list h1 ⟨_, S.upd hl (Heap.SameBut.update ..) (h1.update _), .of, hq _⟩ (by rw [show sizeLine = 16777216 by decide]; omega)) he
variable {Q : Flow → Loc → PM → Prop}
theorem ws_del {o i : Expr} (h : WE W A env ρ o κ fun ov κ₁ => WE W A env ρ i κ₁ fun iv κ₂ => Wp W A T1 (PySem.delItem ov iv) κ₂ fun _ κ₃ => Q .next ρ κ₃) : WS W A env ρ (exec (.Delete [.Subscript o i p] pos) env) κ Q :=
  fun R φ s b d f S => wpAny_Delete <| wpAny_deleteEach_cons <| wpAny_delete_Subscript <| h.seqS b d f S fun ov κ₁ s₁ S₁ F₁ h₁ => h₁.seqS b d f S₁ fun iv κ₂ s₂ S₂ F₂ h₂ => h₂.seqT b d S₂ fun _ κ₃ s₃ S₃ F₃ q => wpAny_deleteEach_nil ⟨κ₃, ρ, φ, d, f, S₃, (F₁.trans F₂).trans F₃, q⟩
/-- what follows the source of a for loop -/
structure FrRest (W : Wd) (A : Around) (env : Env) (target : Expr) (body : List Stmt) (Q : Flow → Loc → PM → Prop) (ρ : Loc) (v : PySem.Value) (κ : PM) (n : Nat) (P : Nat → PySem.Value → Prop) (ls : List Addr) (ob : Addr → Obj) (I : Nat → Loc → PM → Prop) : Prop where
  src : Src W A v n P ls ob
  first : I 0 ρ κ
  hls : ∀ k ρ κ, I k ρ κ → ∀ b ∈ ls, κ b = some (ob b)
  turn : ∀ k v ρ κ, k < n → P k v → I k ρ κ → WS W A env ρ (PySem.assign target env v) κ fun _ ρ' κ' => WX W A env ρ' body κ' fun fl ρ'' κ'' => match fl with
      | .next => I (k + 1) ρ'' κ''
      | .cont => I (k + 1) ρ'' κ''
      | .brk => Q .next ρ'' κ''
      | .ret v => Q (.ret v) ρ'' κ''
  fin : ∀ ρ κ, I n ρ κ → Q .next ρ κ
theorem ws_for {target iter : Expr} {body : List Stmt} (hi : WE W A env ρ iter κ fun v κ₁ => ∃ n P ls ob I, FrRest W A env target body Q ρ v κ₁ n P ls ob I) (hs : ∀ x, foldedSetIterable iter env x = Pure.pure x := by intro _; rfl)
    (ht : ∀ It v, letOwnedTupleGo target (.ref It) v = Pure.pure () := by intro _ _; rfl) : WS W A env ρ (exec (.For target iter body [] pos) env) κ Q := by
  intro R φ s b d f S
  refine wpAny_For (hi.seqS b d f S fun v κ₁ s₁ S₁ F₁ q => ?_) hs
  obtain ⟨n, P, ls, ob, I, C⟩ := q
  refine C.src (un φ R) κ₁ s₁ (b.trans (un_le d)) S₁ (C.hls _ _ _ C.first) _ _ fun o St fp tk hfo Wk hfp live st0 => ?_
  have hfr := S₁.fresh (get_size_none s₁.heap)
  have hφ : φ s₁.heap.objs.size = .none := by
    cases e : φ s₁.heap.objs.size with
    | none => rfl
    | some o => have := hfr.2; rw [un_left e] at this; cases this
  have hR : R s₁.heap.objs.size = .none := by have := hfr.2; rwa [un_right hφ] at this
  refine codeAny_mono (for_walk (s := { s₁ with heap := s₁.heap.push o, toks := tk }) (ls := ls) (ob := ob) Wk hfp live I C.hls C.turn (fun ρ κ hI => WX.nil (C.fin ρ κ hI)) (ht _) b d f (S₁.more fun _ _ e => Heap.get?_push_of_some _ e) hR hφ hfr.1 st0 C.first) fun r s' hr => ?_
  cases r with
  | ok fl => obtain ⟨κ', ρ', φ', d', f', S', F', q'⟩ := hr; exact ⟨κ', ρ', φ', d', f', S', (F₁.trans .of).trans F', q'⟩
  | error e => exact hr.elim
end
/-- Node._remove_from_sibling_maps: no maps are kept -/
theorem unmap_spec {W : Wd} {A : Around} {n : Nat} {κ : PM} {Q : PySem.Value → PM → Prop} {x dx y : Addr} {f : Str → Option PySem.Value} (a : AOk A n) (hI : Inst W.w.params κ 296 KN x dx f) (hp : f "prev_sibling_map" = some .none) (hn : f "next_sibling_map" = some .none) (h : Q .none κ) :
    Wp W A T1 (PySem.call (.ref 272) [.ref x, .ref y]) κ Q := by
  refine Wp.ofCd (Cd.def rec272 a (BindsOk.eq rfl) [some (.ref x), some (.ref y), none, none, none, none, none] rfl (by kernel_rfl) (by decide) (locs rfl) (by decide) fun L => ?_)
  refine WX.cons <| WS.assign 2 rfl (.inl rfl) <| WE.attr <| WE.name 0 rfl rfl <| hI.own (ownN (by decide)) hp rfl ?_
  refine WX.cons <| WS.assign 3 rfl (.inl rfl) <| WE.attr <| WE.name 0 rfl rfl <| hI.own (ownN (by decide)) hn rfl ?_
  exact WX.cons <| WS.if <| WT.bool <| WAll.or_cons <| WT.cmp <| WE.name 2 rfl rfl <| WE.none <| t_nN <| Wp.truthyBool <| pick_t <| pick_t <| WX.cons <| WS.ret0 h
end Mine
end
section
open PySem PySem.W PySem.Calls PyProof.Rows PySem.SeqAt
set_option maxRecDepth 100000
set_option maxHeartbeats 1000000
set_option linter.unusedVariables false
namespace Mine
namespace Tr
mutual
theorem ls_sub : ∀ {t u : Tr}, u ∈ t.subs → t.ls.Nodup → u.ls.Nodup
  | leaf .., u, h, nd => by simp [subs] at h; subst h; exact nd
  | node a d l ty ch, u, h, nd => by
    simp only [subs, List.mem_cons] at h
    rcases h with rfl | h
    · exact nd
    · simp only [ls, List.nodup_cons] at nd; exact lsL_sub h nd.2
theorem lsL_sub : ∀ {ts : List Tr} {u : Tr}, u ∈ subsL ts → (lsL ts).Nodup → u.ls.Nodup
  | t :: r, u, h, nd => by
    simp only [subsL, List.mem_append] at h
    simp only [lsL, List.nodup_append] at nd
    rcases h with h | h
    · exact ls_sub h nd.1
    · exact lsL_sub h nd.2.1
end
mutual
theorem ls_in : ∀ {t u : Tr}, u ∈ t.subs → ∀ l ∈ u.ls, l ∈ t.ls
  | leaf .., u, h, l, hl => by simp [subs] at h; subst h; exact hl
  | node a d l' ty ch, u, h, l, hl => by
    simp only [subs, List.mem_cons] at h
    rcases h with rfl | h
    · exact hl
    · simp only [ls, List.mem_cons]; exact .inr (lsL_in h l hl)
theorem lsL_in : ∀ {ts : List Tr} {u : Tr}, u ∈ subsL ts → ∀ l ∈ u.ls, l ∈ lsL ts
  | t :: r, u, h, l, hl => by
    simp only [subsL, List.mem_append] at h
    simp only [lsL, List.mem_append]
    exact h.imp (fun h => ls_in h l hl) (fun h => lsL_in h l hl)
end
mutual
theorem ds_in : ∀ {t u : Tr}, u ∈ t.subs → ∀ l ∈ u.ds, l ∈ t.ds
  | leaf .., u, h, l, hl => by simp [subs] at h; subst h; exact hl
  | node a d l' ty ch, u, h, l, hl => by
    simp only [subs, List.mem_cons] at h
    rcases h with rfl | h
    · exact hl
    · simp only [ds, List.mem_cons]; exact .inr (dsL_in h l hl)
theorem dsL_in : ∀ {ts : List Tr} {u : Tr}, u ∈ subsL ts → ∀ l ∈ u.ds, l ∈ dsL ts
  | t :: r, u, h, l, hl => by
    simp only [subsL, List.mem_append] at h
    simp only [dsL, List.mem_append]
    exact h.imp (fun h => ds_in h l hl) (fun h => dsL_in h l hl)
end
/-- the first child taken out -/
def tailG : Tr → Tr
  | leaf a d ty v p => leaf a d ty v p
  | node a d l ty ch => node a d l ty ch.tail
def revG : Tr → Tr
  | leaf a d ty v p => leaf a d ty v p
  | node a d l ty ch => node a d l ty ch.reverse
theorem sokL_sub {a b : List Tr} (h : ∀ t ∈ b, t ∈ a) (k : sokL a) : sokL b := sokL_all fun t ht => sokL_get k t (h t ht)
theorem preL_mem {ts : List Tr} {b : Addr} : b ∈ preL ts ↔ ∃ t ∈ ts, b ∈ t.pre := by
  induction ts with
  | nil => simp [preL]
  | cons t r ih => simp [preL, ih]
theorem dsL_mem' {ts : List Tr} {b : Addr} : b ∈ dsL ts ↔ ∃ t ∈ ts, b ∈ t.ds := by
  induction ts with
  | nil => simp [dsL]
  | cons t r ih => simp [dsL, ih]
theorem htL_sub {a b : List Tr} (h : ∀ t ∈ b, t ∈ a) : htL b ≤ htL a := htL_bound fun t ht => htL_le (h t ht)
theorem preL_rev (ts : List Tr) : (preL ts.reverse).length = (preL ts).length := by
  induction ts with
  | nil => rfl
  | cons t r ih => rw [List.reverse_cons, preL_append]; simp [preL, ih]; omega
theorem Sm.tailG (u : Tr) : Sm u u.tailG := by
  cases u with
  | leaf => exact .rfl _
  | node a d l ty ch =>
    have hs : ∀ t ∈ ch.tail, t ∈ ch := fun t h => List.mem_of_mem_tail h
    refine ⟨Eq.refl _, fun k => ?_, ?_, fun b hb => ?_, ?_, Eq.refl _, fun b hb => ?_⟩
    · unfold Tr.tailG Tr.sok at *; exact sokL_sub hs k
    · have := htL_sub hs; simp only [Tr.tailG, Tr.ht]; omega
    · simp only [Tr.tailG, Tr.pre, List.mem_cons] at hb ⊢
      exact hb.imp id fun h => by obtain ⟨t, h1, h2⟩ := preL_mem.mp h; exact preL_mem.mpr ⟨t, hs t h1, h2⟩
    · cases ch <;> simp [Tr.tailG, Tr.pre, preL]
    · simp only [Tr.tailG, Tr.ds, List.mem_cons] at hb ⊢
      exact hb.imp id fun h => by obtain ⟨t, h1, h2⟩ := dsL_mem'.mp h; exact dsL_mem'.mpr ⟨t, hs t h1, h2⟩
theorem Sm.revG (u : Tr) : Sm u u.revG := by
  cases u with
  | leaf => exact .rfl _
  | node a d l ty ch =>
    have hs : ∀ t ∈ ch.reverse, t ∈ ch := fun t h => List.mem_reverse.mp h
    refine ⟨Eq.refl _, fun k => ?_, ?_, fun b hb => ?_, ?_, Eq.refl _, fun b hb => ?_⟩
    · unfold Tr.revG Tr.sok at *; exact sokL_sub hs k
    · have := htL_sub hs; simp only [Tr.revG, Tr.ht]; omega
    · simp only [Tr.revG, Tr.pre, List.mem_cons] at hb ⊢
      exact hb.imp id fun h => by obtain ⟨t, h1, h2⟩ := preL_mem.mp h; exact preL_mem.mpr ⟨t, hs t h1, h2⟩
    · have := preL_rev ch; simp only [Tr.revG, Tr.pre, List.length_cons]; omega
    · simp only [Tr.revG, Tr.ds, List.mem_cons] at hb ⊢
      exact hb.imp id fun h => by obtain ⟨t, h1, h2⟩ := dsL_mem'.mp h; exact dsL_mem'.mpr ⟨t, hs t h1, h2⟩
mutual
theorem drop_ds {a d l : Addr} {ty : Int} {u : Tr} {r : List Tr} : ∀ {t : Tr}, t.ds.Nodup → t.ls.Nodup → node a d l ty (u :: r) ∈ t.subs → ∀ e ∈ u.ds, e ∉ (t.updL l tailG).ds
  | leaf .., _, _, h, e, he => by simp [subs] at h
  | node a' d' l' ty' ch, nd, nl, h, e, he => by
    simp only [ds, List.nodup_cons] at nd
    simp only [ls, List.nodup_cons] at nl
    simp only [subs, List.mem_cons] at h
    unfold updL
    by_cases q : l' = l
    · rw [if_pos q]
      rcases h with h | h
      · cases h
        simp only [tailG, List.tail_cons, ds, List.mem_cons, not_or]
        simp only [dsL, List.nodup_append, List.mem_append, not_or] at nd
        exact ⟨fun z => nd.1.1 (z ▸ he), fun z => nd.2.2.2 e he e z rfl⟩
      · exact absurd (lsL_in h l (by simp [ls])) (q ▸ nl.1)
    · rw [if_neg q]
      rcases h with h | h
      · cases h; exact absurd rfl q
      · simp only [ds, List.mem_cons, not_or]
        refine ⟨fun z => nd.1 ?_, dropL_ds nd.2 nl.2 h e he⟩
        exact z ▸ dsL_in h e (by simp [ds, dsL, he])
theorem dropL_ds {a d l : Addr} {ty : Int} {u : Tr} {r : List Tr} : ∀ {ts : List Tr}, (dsL ts).Nodup → (lsL ts).Nodup → node a d l ty (u :: r) ∈ subsL ts → ∀ e ∈ u.ds, e ∉ dsL (updLL l tailG ts)
  | t :: s, nd, nl, h, e, he => by
    simp only [dsL, List.nodup_append] at nd
    simp only [lsL, List.nodup_append] at nl
    simp only [subsL, List.mem_append] at h
    simp only [updLL, dsL, List.mem_append, not_or]
    rcases h with h | h
    · refine ⟨drop_ds nd.1 nl.1 h e he, fun z => ?_⟩
      have h1 := ds_in h e (by simp [ds, dsL, he])
      have h2 := (SmL.updL (l0 := l) Sm.tailG s).ds e z
      exact nd.2.2 e h1 e h2 rfl
    · refine ⟨fun z => ?_, dropL_ds nd.2.1 nl.2.1 h e he⟩
      have h1 := dsL_in h e (by simp [ds, dsL, he])
      have h2 := (Sm.updL (l0 := l) Sm.tailG t).ds e z
      exact nd.2.2 e h2 e h1 rfl
end
end Tr
mutual
theorem At.offL {P : Params} {κ κ' : PM} {l0 : Addr} {xs : Array PySem.Value} {n : Nat} (O : OffL l0 κ κ') (h0 : κ l0 = some (listOf xs n)) : ∀ {t : Tr} {par : Option Addr}, l0 ∉ t.ls → At P κ t par → At P κ' t par
  | .leaf a d ty val pre, par, _, h => by
    unfold At at h ⊢
    obtain ⟨f, i, F⟩ := h
    exact ⟨f, i.offL O h0, F.offL O⟩
  | .node a d l ty ch, par, hn, h => by
    unfold At at h ⊢
    simp only [Tr.ls, List.mem_cons, not_or] at hn
    obtain ⟨⟨f, i, F⟩, c⟩ := h
    exact ⟨⟨f, i.offL O h0, ⟨F.ty, F.ch, let ⟨m, z⟩ := F.li; ⟨m, O.1 _ _ (Ne.symm hn.1) z⟩, F.fx, F.pm, F.nm, F.par, F.wc⟩⟩, AtL.offL O h0 hn.2 c⟩
theorem AtL.offL {P : Params} {κ κ' : PM} {l0 : Addr} {xs : Array PySem.Value} {n : Nat} (O : OffL l0 κ κ') (h0 : κ l0 = some (listOf xs n)) : ∀ {ts : List Tr} {p : Addr}, l0 ∉ Tr.lsL ts → AtL P κ ts p → AtL P κ' ts p
  | [], _, _, _ => by unfold AtL; trivial
  | t :: r, p, hn, h => by
    simp only [Tr.lsL, List.mem_append, not_or] at hn
    unfold AtL at h ⊢
    exact ⟨At.offL O h0 hn.1 h.1, AtL.offL O h0 hn.2 h.2⟩
end
theorem refs_inj {as bs : List Addr} {n m : Nat} (h : (some (listOf (as.map PySem.Value.ref).toArray n) : Option Obj) = some (listOf (bs.map PySem.Value.ref).toArray m)) : as = bs := by
  have h1 : as.map PySem.Value.ref = bs.map PySem.Value.ref := by simpa using (show (as.map PySem.Value.ref).toArray = (bs.map PySem.Value.ref).toArray by simp at h; simpa using h.1)
  exact (List.map_inj_right (fun a b e => by cases e; rfl)).mp h1
/-- the list of one node turned to that of some of its children -/
theorem At.relist {P : Params} {κ : PM} {t : Tr} {par : Option Addr} {a d l : Addr} {ty : Int} {ch : List Tr} (h : At P κ t par) (nl : t.ls.Nodup) (hu : Tr.node a d l ty ch ∈ t.subs) (g : List Tr → List Tr) (G : Tr → Tr) (hG : ∀ a d l ty c, G (.node a d l ty c) = .node a d l ty (g c)) (hGl : ∀ u, (G u).addr = u.addr)
    (hg : ∀ c, ∀ x ∈ g c, x ∈ c) (gm : ∀ c c' : List Tr, c.map Tr.addr = c'.map Tr.addr → (g c).map Tr.addr = (g c').map Tr.addr) (he : ch = [] → g ch = []) {m : Nat} {κ' : PM} (hκ : κ' = κ.put l (listOf (((g ch).map Tr.addr).map PySem.Value.ref).toArray m)) : At P κ' (t.updL l G) par := by
  obtain ⟨q, hq⟩ := h.sub _ hu
  have hq' := hq
  unfold At at hq'
  obtain ⟨⟨f, i, F⟩, c⟩ := hq'
  obtain ⟨n0, h0⟩ := F.li
  have O : OffL l κ κ' := by
    subst hκ
    refine ⟨fun b o hb e => by rw [PM.put_ne _ _ hb]; exact e, fun n e => ⟨m, ?_⟩⟩
    rw [h0] at e
    have : ch.map Tr.addr = [] := refs_inj (bs := []) (m := n) e
    have hc : ch = [] := by simpa using this
    rw [PM.put_self, he hc]; rfl
  refine At.updL O h0 hGl h fun a' d' ty' ch' p hu' hat => ?_
  rw [hG]
  have hnl := Tr.ls_sub hu' nl
  simp only [Tr.ls, List.nodup_cons] at hnl
  unfold At at hat ⊢
  obtain ⟨⟨f', i', F'⟩, c'⟩ := hat
  obtain ⟨n1, h1⟩ := F'.li
  have hch : ch'.map Tr.addr = ch.map Tr.addr := refs_inj (h1.symm.trans h0)
  refine ⟨⟨f', i'.offL O h0, ⟨F'.ty, F'.ch, ⟨m, ?_⟩, F'.fx, F'.pm, F'.nm, F'.par, F'.wc⟩⟩, ?_⟩
  · rw [hκ, PM.put_self, gm _ _ hch]
  · have := AtL.offL O h0 hnl.1 c'
    exact AtL.all fun x hx => this.get x (hg _ x hx)
end Mine
end
section
open PySem PySem.W PySem.Calls PyProof.Rows PySem.SeqAt
set_option maxRecDepth 100000
set_option maxHeartbeats 1000000
set_option linter.unusedVariables false
namespace Mine
namespace Tr
mutual
theorem pre_len_sub : ∀ {t u : Tr}, u ∈ t.subs → u.pre.length ≤ t.pre.length
  | leaf .., u, h => by simp [subs] at h; subst h; exact Nat.le_refl _
  | node a d l ty ch, u, h => by
    simp only [subs, List.mem_cons] at h
    rcases h with rfl | h
    · exact Nat.le_refl _
    · have := preL_len_sub h; simp only [pre, List.length_cons]; omega
theorem preL_len_sub : ∀ {ts : List Tr} {u : Tr}, u ∈ subsL ts → u.pre.length ≤ (preL ts).length
  | t :: r, u, h => by
    simp only [subsL, List.mem_append] at h
    simp only [preL, List.length_append]
    rcases h with h | h
    · have := pre_len_sub h; omega
    · have := preL_len_sub h; omega
end
mutual
theorem updL_sub {g : Tr → Tr} (hg : ∀ u, (g u).addr = u.addr) {a d l : Addr} {ty : Int} {ch : List Tr} : ∀ {t : Tr}, t.ls.Nodup → node a d l ty ch ∈ t.subs → ∃ v ∈ (t.updL l g).subs, v.addr = a
  | leaf .., _, h => by simp [subs] at h
  | node a' d' l' ty' ch', nl, h => by
    simp only [ls, List.nodup_cons] at nl
    simp only [subs, List.mem_cons] at h
    unfold updL
    by_cases q : l' = l
    · rw [if_pos q]
      rcases h with h | h
      · cases h; exact ⟨_, self_subs _, by rw [hg]; rfl⟩
      · exact absurd (lsL_in h l (by simp [ls])) (q ▸ nl.1)
    · rw [if_neg q]
      rcases h with h | h
      · cases h; exact absurd rfl q
      · obtain ⟨v, h1, h2⟩ := updLL_sub hg nl.2 h
        exact ⟨v, by simp [subs, h1], h2⟩
theorem updLL_sub {g : Tr → Tr} (hg : ∀ u, (g u).addr = u.addr) {a d l : Addr} {ty : Int} {ch : List Tr} : ∀ {ts : List Tr}, (lsL ts).Nodup → node a d l ty ch ∈ subsL ts → ∃ v ∈ subsL (updLL l g ts), v.addr = a
  | t :: r, nl, h => by
    simp only [lsL, List.nodup_append] at nl
    simp only [subsL, List.mem_append] at h
    simp only [updLL, subsL, List.mem_append]
    rcases h with h | h
    · obtain ⟨v, h1, h2⟩ := updL_sub hg nl.1 h
      exact ⟨v, .inl h1, h2⟩
    · obtain ⟨v, h1, h2⟩ := updLL_sub hg nl.2.1 h
      exact ⟨v, .inr h1, h2⟩
end
end Tr
/-- the first child, removed -/
theorem remove_spec {W : Wd} {F : List Addr} {n : Nat} {A : Around} {κ : PM} {Q : PySem.Value → PM → Prop} {c u : Tr} {a d l : Addr} {ty : Int} {r : List Tr} (ao : AOk A (2 * n + 7)) (hat : At W.w.params κ c none) (nd : c.ds.Nodup) (nl : c.ls.Nodup) (hlen : c.pre.length ≤ 1000)
    (hu : Tr.node a d l ty (u :: r) ∈ c.subs) (hup : ∀ κ' c', At W.w.params κ' c' none → Tr.Sm c c' → ∀ v ∈ c'.subs, Up W.w.params κ' F n v.addr) (hds : ∀ e ∈ c.ds, e ∈ F) (hls : ∀ e ∈ c.ls, e ∈ F)
    (h : ∀ v κ', Only F κ κ' → At W.w.params κ' (c.updL l Tr.tailG) none → Q v κ') : Wp W A T1 (PySem.call (.ref 121) [.ref u.addr]) κ Q := by
  obtain ⟨q, hq⟩ := hat.sub _ hu
  have hq' := hq
  unfold At at hq'
  obtain ⟨⟨f, i, Fn⟩, kids⟩ := hq'
  have hkids := kids
  unfold AtL at hkids
  obtain ⟨fu, Iu, hpu⟩ := hkids.1.own
  obtain ⟨m, hl⟩ := Fn.li
  have hlF : l ∈ F := hls l (Tr.ls_in hu l (by simp [Tr.ls]))
  have hudF : u.dct ∈ F := hds _ (Tr.ds_in hu _ (by simp [Tr.ds, Tr.dsL, dct_mem]))
  have hsz : (((u :: r).map Tr.addr).map PySem.Value.ref).toArray.size = r.length + 1 := by simp
  have hrl : r.length + 1 ≤ 1000 := by
    have h1 : (Tr.node a d l ty (u :: r)).pre.length ≤ c.pre.length := Tr.pre_len_sub hu
    have := lenL_le (u :: r)
    simp only [Tr.pre, List.length_cons] at h1 this ⊢; omega
  have hb : ∃ t, BindsOk W rec121.fd [.ref u.addr] [] [("self", .ref u.addr), ("search_start", .int 0 t)] := ⟨_, BindsOk.dflt (T := 114) rfl rfl rfl rfl rfl⟩
  obtain ⟨t0, hb⟩ := hb
  refine Wp.ofCd (Cd.def rec121 (ao.less (m := 2 * n + 7) (by omega)) hb [some (.ref u.addr), some (.int 0 t0), none, none, none, none, none, none] rfl (by kernel_rfl) (by decide) (locs rfl) (by decide) fun L => ?_)
  have aD : AOk (A.deeper (callEnv rec121.fd L 121)) (2 * n + 6) := ao.deeper _
  generalize A.deeper (callEnv rec121.fd L 121) = AD at aD
  refine WX.cons <| WS.if <| WT.value <| WE.attr <| WE.name 0 rfl rfl <| getParent Iu hpu <| i.truthy (boolN _) <| pick_t ?_
  refine WX.cons <| WS.assign 2 rfl (.inl rfl) <| WE.attr <| WE.attr <| WE.name 0 rfl rfl <| getParent Iu hpu <| i.own (ownN (by decide)) Fn.ch rfl ?_
  refine WX.cons <| WS.assign 3 rfl (.inl rfl) <| WE.call <| WE.blt rfl rfl rfl (by decide) <| call_with .builtin <| WArgs.cons <| WE.name 2 rfl rfl <| WArgs.nil <| t_len hl (by rw [hsz]; omega) fun tc => ?_
  refine WX.cons <| ws_for <| WE.call <| WE.blt rfl rfl rfl (by decide) <| call_with .type <| WArgs.cons <| WE.name 3 rfl rfl <| WArgs.nil <| t_range fun rg ta tb tcc hrg => ?_
  rw [hsz]
  refine ⟨r.length + 1, fun i v => ∃ t, v = .int (i : Int) t, [rg], fun _ => rangeOf (r.length + 1) ta tb tcc, fun k ρ κ' => k = 0 ∧ ρ = [some (.ref u.addr), some (.int 0 t0), some (.ref l), some (.int ((r.length + 1 : Nat) : Int) tc), none, none, none, none] ∧ κ' = κ.put rg (rangeOf (r.length + 1) ta tb tcc), ?_⟩
  refine ⟨.range aD.hh rg _ (by omega) ta tb tcc, ⟨rfl, rfl, rfl⟩, fun k ρ κ' hI b hb => by rw [List.mem_singleton.mp hb, hI.2.2, PM.put_self], ?_, fun ρ κ' hI => absurd hI.1 (Nat.succ_ne_zero _)⟩
  rintro k v ρ κ₀ hk ⟨ti, rfl⟩ ⟨rfl, rfl, rfl⟩
  have l0 : κ.le (κ.put rg (rangeOf (r.length + 1) ta tb tcc)) := PM.put_fresh hrg _
  generalize κ.put rg (rangeOf (r.length + 1) ta tb tcc) = κ₀ at l0
  refine WS.bindN 4 rfl (.inl rfl) <| WX.cons <| WS.assign 5 rfl (.inl rfl) <| WE.binop <| WE.binop <| WE.name 1 rfl rfl <| WE.name 4 rfl rfl <| t_add fun _ => WE.name 3 rfl rfl <| t_mod (by omega) fun tm => ?_
  have e1 : ((0 : Int) + ((0 : Nat) : Int)).fmod ((r.length + 1 : Nat) : Int) = ((0 : Nat) : Int) := by simp
  rw [e1]
  refine WX.cons <| WS.if <| WT.cmp <| WE.sub <| WE.name 2 rfl rfl <| WE.name 5 rfl rfl <| t_item (l0 _ _ hl) (k := 0) (by omega) (x := .ref u.addr) rfl <| WE.name 0 rfl rfl <| t_is (l0 _ _ Iu.1) (l0 _ _ Iu.1) (by simp) <| Wp.truthyBool ?_
  rw [beq_self_eq_true]
  refine pick_t <| WX.cons <| ws_del <| WE.name 2 rfl rfl <| WE.name 5 rfl rfl <| t_delItem (l0 _ _ hl) (k := 0) (by rw [hsz]; omega) (by rw [hsz]; omega) fun mm => ?_
  have hera : ((((u :: r).map Tr.addr).map PySem.Value.ref).toArray.eraseIdxIfInBounds 0) = ((((u :: r).tail).map Tr.addr).map PySem.Value.ref).toArray := by
    apply Array.toList_inj.mp
    simp [Array.toList_eraseIdxIfInBounds]
  rw [hera]
  have at1 : At W.w.params (κ₀.put l (listOf ((((u :: r).tail).map Tr.addr).map PySem.Value.ref).toArray mm)) (c.updL l Tr.tailG) none :=
    At.relist (hat.le l0) nl hu List.tail Tr.tailG (fun _ _ _ _ _ => rfl) (fun x => (Tr.Sm.tailG x).ad) (fun c x hx => List.mem_of_mem_tail hx) (fun c c' e => by rw [List.map_tail, List.map_tail, e]) (fun e => by rw [e]; rfl) rfl
  have O1 : Only F κ (κ₀.put l (listOf ((((u :: r).tail).map Tr.addr).map PySem.Value.ref).toArray mm)) := (Only.rfl.le l0).put hlF
  have hne : ∀ {b : Addr} {o : Obj}, κ b = some o → (∀ ys m, o ≠ listOf ys m) → (κ₀.put l (listOf ((((u :: r).tail).map Tr.addr).map PySem.Value.ref).toArray mm)) b = some o := fun e ho => by
    rw [PM.put_ne _ _ (fun q => by subst q; rw [hl] at e; cases e; exact ho _ _ rfl)]; exact l0 _ _ e
  have i1 : Inst W.w.params (κ₀.put l (listOf ((((u :: r).tail).map Tr.addr).map PySem.Value.ref).toArray mm)) 296 KN a d f := by
    obtain ⟨x1, es, nn, x2, x3⟩ := i
    exact ⟨hne x1 (fun _ _ e => by simp at e), es, nn, hne x2 (fun _ _ e => by simp at e), x3⟩
  have Iu1 : Inst W.w.params (κ₀.put l (listOf ((((u :: r).tail).map Tr.addr).map PySem.Value.ref).toArray mm)) u.cls u.nms u.addr u.dct fu := by
    obtain ⟨x1, es, nn, x2, x3⟩ := Iu
    exact ⟨hne x1 (fun _ _ e => by simp at e), es, nn, hne x2 (fun _ _ e => by simp at e), x3⟩
  generalize κ₀.put l (listOf ((((u :: r).tail).map Tr.addr).map PySem.Value.ref).toArray mm) = κ₁ at at1 O1 i1 Iu1
  have hsub : ∃ v ∈ (c.updL l Tr.tailG).subs, v.addr = a := Tr.updL_sub (fun x => (Tr.Sm.tailG x).ad) nl hu
  obtain ⟨va, hva, rfl⟩ := hsub
  have up1 := hup κ₁ _ at1 (Tr.Sm.updL Tr.Sm.tailG c) va hva
  refine WX.cons <| WS.exprS <| WE.meth <| WE.attr <| WE.name 0 rfl rfl <| getParent Iu1 hpu <| i1.method (kdN _).meth (by decide) <| call_with0 (.ref (keepF (by decide))) <| changed_spec n (aD.less (by omega)) up1 fun κ₂ wc2 o2 => ?_
  have at2 := at1.chg wc2
  obtain ⟨f2, i2, q2⟩ := wc2.inst _ _ _ _ _ (by decide) i1
  obtain ⟨fu2, Iu2, qu2⟩ := wc2.inst _ _ _ _ _ (wcMem u) Iu1
  have hpu2 : ParIs fu2 (some va.addr) := by
    rcases qu2 with rfl | rfl
    · exact hpu
    · exact hpu.upd (by decide)
  have hm2 : f2 "prev_sibling_map" = some .none ∧ f2 "next_sibling_map" = some .none := by
    rcases q2 with rfl | rfl
    · exact ⟨Fn.pm, Fn.nm⟩
    · exact ⟨Fn.pm, Fn.nm⟩
  refine WX.cons <| WS.exprS <| WE.meth <| WE.attr <| WE.name 0 rfl rfl <| getParent Iu2 hpu2 <| i2.method (mthN' (by decide)) (by decide) <| call_with (.ref (keepF (by decide))) <| WArgs.cons <| WE.name 0 rfl rfl <| WArgs.nil <| unmap_spec (n := n) (aD.less (by omega)) i2 hm2.1 hm2.2 ?_
  refine WX.cons <| WS.setattr <| WE.none <| WE.name 0 rfl rfl <| Iu2.set1 (setT (parMem u)) (parMem u) (nmsLen u) fun κ₃ p3 => ?_
  refine WX.cons <| WS.ret <| WE.name 5 rfl rfl <| h _ κ₃ ((O1.trans o2).trans (p3.only hudF)) ?_
  refine At.off (D := [u.dct]) (X := []) ?_ (fun e he q => Tr.drop_ds nd nl hu _ (dct_mem u) (List.mem_singleton.mp q ▸ he)) at2
  obtain ⟨es, nn, n', tk, h1, rfl⟩ := p3
  exact Off.rfl.put h1 rfl (.head _)
end Mine
end
section
open PySem PySem.W PySem.Calls PyProof.Rows
set_option maxRecDepth 100000
set_option maxHeartbeats 1000000
set_option linter.unusedVariables false
namespace Mine
open PySem.AutoSeq1 (wpAny_loadPart')
open PySem.MeetsSeq PySem.MeetsSeq2 PySem.MeetsSeq3 PySem.SeqRoads2
section
variable {prog : Program} {w : World} {A : Around} {E : PySem.Value → Shared → Prop}
/-- pair by pair, as long as they are equal -/
def EqChain (prog : Program) (w : World) (A : Around) (E : PySem.Value → Shared → Prop) (J : Shared → Prop) (K : Bool → Shared → Prop) : List (PySem.Value × PySem.Value) → Shared → Prop
  | [], s => J s ∧ K true s
  | (x, y) :: r, s => J s ∧ wpAny (model prog w) A (eqBool x y) (fun e s' => if e = true then EqChain prog w A E J K r s' else J s' ∧ K false s') E s

theorem eqloopS {R : Result → Shared → Prop} {l b : Addr} {items items2 : Array PySem.Value} {n n2 : Nat} (hsz : items.size = items2.size) (K : Bool → Shared → Prop) (hK : ∀ e s, K e s → R (.ok (.ret (.bool e))) s) (hE : ∀ e s, E e s → R (.error e) s) (k : Nat) :
    ∀ (i : Nat) (s : Shared), items.size - i = k →
      EqChain prog w A.in1 E (fun s => s.heap.get? l = some (listOf items n) ∧ s.heap.get? b = some (listOf items2 n2)) K ((items.toList.zip items2.toList).drop i) s →
      wpAny (model prog w) A.in1 (Builtin.«list.__eq__.loop» ⟨[.ref l, .ref b, rawInt i, rawInt 2], []⟩) (fun fin s' => match fin with | .done f => R (.ok f) s' | .again c' => c'.quiet = true ∧ codeAny (model prog w) A c' R s') (fun e s' => R (.error e) s') s := by
  induction k with
  | zero =>
    intro i s hk h
    have hd : (items.toList.zip items2.toList).drop i = [] := by simp; omega
    rw [hd] at h
    obtain ⟨⟨hl, hb⟩, h⟩ := h
    obtain ⟨hp, g, d, tk, os⟩ := s
    dsimp only at hl hb h
    wp_walk using wpAny_loadPart' hl, wpAny_loadPart' hb
    have hi1 : items[((i : Nat) : Int).toNat]? = none := by simp; omega
    have hi2 : items2[((i : Nat) : Int).toNat]? = none := by simp; omega
    rw [hi1, hi2]
    wp_walk using wpAny_loadPart' hl, wpAny_loadPart' hb
    show R (.ok (.ret (.bool (items.size == items2.size)))) _
    rw [hsz, beq_self_eq_true]
    exact hK _ _ h
  | succ k ih =>
    intro i s hk h
    have hlt : i < items.size := by omega
    have hlt2 : i < items2.size := by omega
    have hd : (items.toList.zip items2.toList).drop i = (items[i], items2[i]) :: (items.toList.zip items2.toList).drop (i + 1) := by
      rw [List.drop_eq_getElem_cons (by simp; omega)]; simp
    rw [hd] at h
    obtain ⟨⟨hl, hb⟩, h⟩ := h
    obtain ⟨hp, g, d, tk, os⟩ := s
    dsimp only at hl hb h
    wp_walk using wpAny_loadPart' hl, wpAny_loadPart' hb
    have hi1 : items[((i : Nat) : Int).toNat]? = some items[i] := by simp [hlt]
    have hi2 : items2[((i : Nat) : Int).toNat]? = some items2[i] := by simp [hlt2]
    have hc : ((i : Int) + 1) = ((i + 1 : Nat) : Int) := by push_cast; rfl
    rw [hi1, hi2]
    refine wpAny_bind (wpAny_mono h (fun e s' h' => ?_) fun e s' h' => hE e s' h')
    cases e with
    | true =>
      rw [if_pos rfl] at h'
      have h'' := h'
      obtain ⟨hp', g', d', tk', os'⟩ := s'
      wp_walk
      rw [hc]
      exact ⟨plainId_quiet plain_eq_loop _, codeAny_builtin entry_eq_loop (by
        rw [Around.under_plainId plain_eq_loop _]
        exact ih (i + 1) _ (by omega) h')⟩
    | false =>
      rw [if_neg Bool.false_ne_true] at h'
      obtain ⟨⟨hl', hb'⟩, h'⟩ := h'
      obtain ⟨hp', g', d', tk', os'⟩ := s'
      dsimp only at hl' hb' h'
      wp_walk using wpAny_loadPart' hl', wpAny_loadPart' hb'
      rw [hi1, hi2]
      wp_walk
      exact hK _ _ h'

theorem rcList {l b : Addr} {items items2 : Array PySem.Value} {n n2 : Nat} {s : Shared} {Q : PySem.Value → Shared → Prop} (hl : s.heap.get? l = some (listOf items n)) (hb : s.heap.get? b = some (listOf items2 n2)) (hu : A.units < cLine)
    (hne : items.size ≠ items2.size → Q (.bool false) s)
    (h : items.size = items2.size → EqChain prog w A.in1 E (fun s => s.heap.get? l = some (listOf items n) ∧ s.heap.get? b = some (listOf items2 n2)) (fun e s' => Q (.bool e) s') (items.toList.zip items2.toList) s) :
    wpAny (model prog w) A (richCompare .Eq (.ref l) (.ref b)) Q E s := by
  refine wpAny_richCompare_same_room ⟨_, hl, rfl⟩ ⟨_, hb, rfl⟩ F.slot_list_eq (wpAny_call (codeAny_call_builtin F.slot_list_eq.plain F.entry_list_eq (F.slot_list_eq.check _ _ _ _ _ _ _ _ ⟨_, hl, rfl⟩ (F.args_list_eq_2 _ _) ?_))) hu
  by_cases hsz : items.size = items2.size
  · have h' := h hsz
    have hne' : ¬ (items.size != items2.size) = true := by simp [hsz]
    have f3 := AutoSeq1.sub_list_list
    obtain ⟨hp, g, d, tk, os⟩ := s
    dsimp only at hl hb
    wp_walk using wpAny_loadPart' hl, wpAny_loadPart' hb
    have key := eqloopS (prog := prog) (w := w) (A := A) (E := E) (R := fun r s' => match r with | .ok (.ret v) => v ≠ PySem.Value.notImplemented ∧ Q v s' | .ok _ => False | .error e => E e s') (l := l) (b := b) (n := n) (n2 := n2) hsz
      (fun e s' => Q (.bool e) s') (fun e s hq => (⟨fun x => (nomatch x), hq⟩ : PySem.Value.bool e ≠ PySem.Value.notImplemented ∧ Q (.bool e) s)) (fun e s he => he) _ 0 ⟨hp, g, d, tk, os⟩ rfl (by rw [List.drop_zero]; exact h')
    exact ⟨plainId_quiet plain_eq_loop _, codeAny_builtin entry_eq_loop (by
      rw [Around.under_plainId plain_eq_loop _]
      exact key)⟩
  · have hc0 : (items.size != items2.size) = true := by simpa using hsz
    have hq := hne hsz
    have f3 := AutoSeq1.sub_list_list
    obtain ⟨hp, g, d, tk, os⟩ := s
    dsimp only at hl hb
    wp_walk using wpAny_loadPart' hl, wpAny_loadPart' hb
    exact ⟨fun x => (nomatch x), hq⟩
theorem rcTuple {l b : Addr} {items items2 : Array PySem.Value} {n n2 : Nat} {s : Shared} {Q : PySem.Value → Shared → Prop} (hl : s.heap.get? l = some { cls := .type "tuple", data := .seq items n }) (hb : s.heap.get? b = some { cls := .type "tuple", data := .seq items2 n2 }) (hu : A.units < cLine) (hsz : items.size = items2.size)
    (h : EqChain prog w A.in1 E (fun _ => True) (fun e s' => Q (.bool e) s') (items.toList.zip items2.toList) s) :
    wpAny (model prog w) A (richCompare .Eq (.ref l) (.ref b)) Q E s := by
  refine wpAny_richCompare_same_room ⟨_, hl, rfl⟩ ⟨_, hb, rfl⟩ F.slot_tuple_eq (wpAny_call (codeAny_call_builtin F.slot_tuple_eq.plain F.entry_tuple_eq (F.slot_tuple_eq.check _ _ _ _ _ _ _ _ ⟨_, hl, rfl⟩ (F.args_tuple_eq_2 _ _) ?_))) hu
  have f2 := AutoSeq1.sub_tuple_tuple
  obtain ⟨hp, g, d, tk, os⟩ := s
  dsimp only at hl hb
  wp_walk using wpAny_loadPart' hl, wpAny_loadPart' hb, wpAny_forIn_list _ (fun rest b s' => b.1 = none ∧ EqChain prog w A.in1 E (fun _ => True) (fun e s' => Q (.bool e) s') rest s') _
  case turn =>
    rintro ⟨y, x⟩ rest b s' ⟨hb', -, hc⟩
    refine wpAny_bind (wpAny_mono hc (fun e s'' h'' => ?_) fun _ _ z => z)
    obtain ⟨hp', g', d', tk', os'⟩ := s''
    cases e with
    | true =>
      rw [if_pos rfl] at h''
      wp_walk
      exact ⟨rfl, h''⟩
    | false =>
      rw [if_neg Bool.false_ne_true] at h''
      have hq := h''.2
      wp_walk
      exact ⟨fun x => (nomatch x), hq⟩
  case fin =>
    rintro ⟨b1, b2⟩ s' ⟨hb', -, hc⟩
    simp only at hb'
    subst hb'
    obtain ⟨hp', g', d', tk', os'⟩ := s'
    wp_walk
    refine ⟨fun x => (nomatch x), ?_⟩
    simpa [Builtin.Tuple.tupleCompareSizes, hsz] using hc
  case h =>
    exact ⟨rfl, by simpa using h⟩
end
end Mine
end
section
open PySem PySem.W PySem.Calls PyProof.Rows
set_option maxRecDepth 100000
set_option maxHeartbeats 1000000
set_option linter.unusedVariables false
namespace Mine
noncomputable def eqOk (P : Params) (C : Addr) : Bool := findIn (KF P) (.ref C) "__eq__" == some (some (.ref 56)) && isFn (KF P) (.ref 56)
theorem eqL (P : Params) : eqOk P 376 = true := by kernel_rfl
theorem eqN (P : Params) : eqOk P 296 = true := by kernel_rfl
theorem subLN (P : Params) : subIn (KF P) (.ref 376) (.ref 296) = some false := by kernel_rfl
theorem subNL (P : Params) : subIn (KF P) (.ref 296) (.ref 376) = some false := by kernel_rfl
theorem eqT (P : Params) (t : Tr) : eqOk P t.cls = true := by
  cases t with
  | leaf => exact eqL P
  | node => exact eqN P
section
variable {W : Wd} {A : Around} {κ : PM} {Q : PySem.Value → PM → Prop} {C C2 a1 a2 d1 d2 : Addr} {n1 n2 : List Str} {f1 f2 : Str → Option PySem.Value}

theorem rc_same (hu : A.units < cLine) (I1 : Inst W.w.params κ C n1 a1 d1 f1) (I2 : Inst W.w.params κ C n2 a2 d2 f2) (ok : eqOk W.w.params C = true)
    (h : Wp W A T1 (PySem.call (.ref 56) [.ref a1, .ref a2]) κ fun v κ' => ∃ e, v = .bool e ∧ Q (.bool e) κ') : Wp W A T1 (richCompare .Eq (.ref a1) (.ref a2)) κ Q := fun R s b _ S => by
  obtain ⟨es1, m1, J1, _⟩ := I1.at S
  obtain ⟨es2, m2, J2, _⟩ := I2.at S
  unfold eqOk at ok
  simp only [Bool.and_eq_true, beq_iff_eq] at ok
  have X := W.inK b S
  have one : wpAny W.M A (tryCompare (.ref a1) (cmpInfo .Eq).2.1 (.ref a2)) (fun r s' => ∃ e, r = some (.bool e) ∧ ∃ κ', Sat κ' R s'.heap ∧ Fwd s s' ∧ Q (.bool e) κ') (fun _ _ => False) s := by
    unfold tryCompare
    refine wpAny_bind (ifBound_K X J1 ok.1 ok.2 (h.seq b trivial S fun v κ' s' S' F q => ?_))
    obtain ⟨e, rfl, q⟩ := q
    exact wpAny_pure ⟨e, rfl, κ', S', F, q⟩
  unfold richCompare
  simp only [oneThing_ref]
  refine wpAny_holding (wpAny_bind (wpAny_cRoomFor hu ?_))
  refine wpAny_bind (J1.type.here (wpAny_bind (J2.type.here ?_)))
  rw [show (PySem.Value.ref C != PySem.Value.ref C) = false from by simp]
  refine wpAny_bind (wpAny_pure ?_)
  simp only [Bool.false_eq_true, if_false]
  refine wpAny_bind (wpAny_mono one (fun r s' z => ?_) fun _ _ e => e)
  obtain ⟨e, rfl, hq⟩ := z
  exact wpAny_pure hq

theorem rc_diff (hu : A.units < cLine) (I1 : Inst W.w.params κ C n1 a1 d1 f1) (I2 : Inst W.w.params κ C2 n2 a2 d2 f2) (ok : eqOk W.w.params C = true) (ok2 : eqOk W.w.params C2 = true) (hC : C ≠ C2) (hs : subIn (KF W.w.params) (.ref C2) (.ref C) = some false) (ha : a1 ≠ a2)
    (h : Wp W A T1 (PySem.call (.ref 56) [.ref a1, .ref a2]) κ fun v κ' => v = .notImplemented ∧ κ.le κ' ∧ Wp W A T1 (PySem.call (.ref 56) [.ref a2, .ref a1]) κ' fun v κ'' => v = .notImplemented ∧ κ.le κ'' ∧ Q (.bool false) κ'') : Wp W A T1 (richCompare .Eq (.ref a1) (.ref a2)) κ Q := fun R s b _ S => by
  obtain ⟨es1, m1, J1, _⟩ := I1.at S
  obtain ⟨es2, m2, J2, _⟩ := I2.at S
  unfold eqOk at ok ok2
  simp only [Bool.and_eq_true, beq_iff_eq] at ok ok2
  have X := W.inK b S
  unfold richCompare
  simp only [oneThing_ref]
  refine wpAny_holding (wpAny_bind (wpAny_cRoomFor hu ?_))
  refine wpAny_bind (J1.type.here (wpAny_bind (J2.type.here ?_)))
  rw [show (PySem.Value.ref C != PySem.Value.ref C2) = true from by simpa using hC]
  simp only [if_true]
  refine wpAny_bind ((looks_subIn X hs).here ?_)
  simp only [Bool.false_eq_true, if_false, Bool.not_false, if_true]
  unfold tryCompare
  refine wpAny_bind (wpAny_bind (ifBound_K X J1 ok.1 ok.2 (h.seq b trivial S fun v κ' s' S' F q => ?_)))
  obtain ⟨rfl, hle, q⟩ := q
  refine wpAny_pure ?_
  obtain ⟨es2', m2', J2', _⟩ := (I2.le hle).at S'
  refine wpAny_bind (wpAny_bind (ifBound_K (W.inK b S') J2' ok2.1 ok2.2 (Wp.seq q b trivial S' fun v κ'' s'' S'' F' q' => ?_)))
  obtain ⟨rfl, hle', q'⟩ := q'
  refine wpAny_pure ?_
  refine wpAny_bind (wpAny_rule (wpAny_bind (wpAny_isSame_ref_other ha (S''.k _ _ (hle' _ _ I1.1)) (S''.k _ _ (hle' _ _ I2.1)) (by simp) (wpAny_pure ⟨κ'', S'', F.trans F', q'⟩))))
end
end Mine
end
section
open PySem PySem.W PySem.Calls PyProof.Rows PySem.SeqAt
set_option maxRecDepth 100000
set_option maxHeartbeats 1000000
set_option linter.unusedVariables false
namespace Mine
section
variable {W : Wd} {A : Around} {κ : PM} {Q : PySem.Value → PM → Prop} {l b : Addr}
theorem eqb_ref {Q : Bool → PM → Prop} (hne : l ≠ b) (h : Wp W A T1 (richCompare .Eq (.ref l) (.ref b)) κ fun v κ' => ∃ e, v = .bool e ∧ Q e κ') : Wp W A T1 (eqBool (.ref l) (.ref b)) κ Q := fun R s bb _ S => by
  unfold eqBool
  refine wpAny_holding ?_
  refine wpAny_ite_split (fun hab => absurd (by have := eq_of_beq hab; injection this) hne) (fun _ => ?_)
  refine wpAny_bind (h.seq bb trivial S fun v κ' s' S' F q => ?_)
  obtain ⟨e, rfl, q⟩ := q
  exact wpAny_truthy_bool ⟨κ', S', F, q⟩
theorem eqb_same {Q : Bool → PM → Prop} (h : Q true κ) : Wp W A T1 (eqBool (.ref l) (.ref l)) κ Q := fun R s bb _ S => by
  unfold eqBool
  refine wpAny_holding ?_
  refine wpAny_ite_split (fun _ => wpAny_bind (wpAny_rule (wpAny_pure ⟨κ, S, .of, h⟩))) (fun hab => absurd (beq_self_eq_true _) hab)
theorem eqb_int {Q : Bool → PM → Prop} {x y : Int} {t u : Tok} (h : Q (x == y) κ) : Wp W A T1 (eqBool (.int x t) (.int y u)) κ Q := fun R s bb _ S => wpAny_eqBool_int ⟨κ, S, .of, h⟩
theorem w_rcTuple {x1 y1 x2 y2 : PySem.Value} (hu : A.units < cLine) (hl : κ l = some (tupOf #[x1, y1])) (hb : κ b = some (tupOf #[x2, y2]))
    (h : Wp W A.in1 T1 (eqBool x1 x2) κ fun e κ' => if e = true then Wp W A.in1 T1 (eqBool y1 y2) κ' fun e κ'' => Q (.bool e) κ'' else Q (.bool false) κ') : Wp W A T1 (richCompare .Eq (.ref l) (.ref b)) κ Q := fun R s bb _ S => by
  refine rcTuple (S.k _ _ hl) (S.k _ _ hb) hu rfl ?_
  refine ⟨trivial, h.seq bb trivial S fun e κ' s' S' F q => ?_⟩
  cases e with
  | false => exact ⟨trivial, κ', S', F, q⟩
  | true =>
    refine ⟨trivial, Wp.seq (pick_t (q := False) (by exact q) |> fun z => (show Wp W A.in1 T1 (eqBool y1 y2) κ' fun e κ'' => Q (.bool e) κ'' from by simpa using q)) bb trivial S' fun e κ'' s'' S'' F' q' => ?_⟩
    cases e with
    | false => exact ⟨trivial, κ'', S'', F.trans F', q'⟩
    | true => exact ⟨trivial, κ'', S'', F.trans F', q'⟩
/-- pair by pair -/
def EqCh (W : Wd) (A : Around) (l b : Addr) (ol ob : Obj) (Q : PySem.Value → PM → Prop) : List (PySem.Value × PySem.Value) → PM → Prop
  | [], κ => Q (.bool true) κ
  | (x, y) :: r, κ => Wp W A T1 (eqBool x y) κ fun e κ' => (κ' l = some ol ∧ κ' b = some ob) ∧ if e = true then EqCh W A l b ol ob Q r κ' else Q (.bool false) κ'
theorem w_rcList {xs ys : Array PySem.Value} {n m : Nat} (hu : A.units < cLine) (hl : κ l = some (listOf xs n)) (hb : κ b = some (listOf ys m)) (hne : xs.size ≠ ys.size → Q (.bool false) κ)
    (h : xs.size = ys.size → EqCh W A.in1 l b (listOf xs n) (listOf ys m) Q (xs.toList.zip ys.toList) κ) : Wp W A T1 (richCompare .Eq (.ref l) (.ref b)) κ Q := fun R s bb _ S => by
  refine rcList (S.k _ _ hl) (S.k _ _ hb) hu (fun e => ⟨κ, S, .of, hne e⟩) fun e => ?_
  have h' := h e
  have go : ∀ (ps : List (PySem.Value × PySem.Value)) (κ' : PM) (s' : Shared), EqCh W A.in1 l b (listOf xs n) (listOf ys m) Q ps κ' → κ' l = some (listOf xs n) → κ' b = some (listOf ys m) → Sat κ' R s'.heap → Fwd s s' →
      EqChain PW W.w A.in1 (fun _ _ => False) (fun s => s.heap.get? l = some (listOf xs n) ∧ s.heap.get? b = some (listOf ys m)) (fun e s' => ∃ κ', Sat κ' R s'.heap ∧ Fwd s s' ∧ Q (.bool e) κ') ps s' := by
    intro ps
    induction ps with
    | nil => exact fun κ' s' c h1 h2 S' F => ⟨⟨S'.k _ _ h1, S'.k _ _ h2⟩, κ', S', F, c⟩
    | cons p r ih =>
      obtain ⟨x, y⟩ := p
      intro κ' s' c h1 h2 S' F
      refine ⟨⟨S'.k _ _ h1, S'.k _ _ h2⟩, Wp.seq c bb trivial S' fun e κ'' s'' S'' F' q => ?_⟩
      obtain ⟨⟨g1, g2⟩, q⟩ := q
      cases e with
      | false => exact ⟨⟨S''.k _ _ g1, S''.k _ _ g2⟩, κ'', S'', F.trans F', by simpa using q⟩
      | true => exact ih κ'' s'' (by simpa using q) g1 g2 S'' (F.trans F')
  exact go _ κ s h' hl hb S .of
theorem t_eqRc {a c : PySem.Value} (h : Wp W A T1 (richCompare .Eq a c) κ Q) : Wp W A T1 (compareOp .Eq a c) κ Q := fun R s bb p S => by
  unfold compareOp; exact h R s bb p S
theorem t_isNotK {C1 C2 : Addr} {o1 o2 : Obj} (h1 : (KF W.w.params).lookup C1 = some o1) (h2 : (KF W.w.params).lookup C2 = some o2) (hn : o1.cls ≠ .type "tuple") (h : Q (.bool (C1 != C2)) κ) : Wp W A T1 (compareOp .IsNot (.ref C1) (.ref C2)) κ Q := fun R s bb _ S => by
  by_cases e : C1 = C2
  · subst e; exact wpAny_isNot_ref_self ⟨κ, S, .of, by simpa using h⟩
  · exact wpAny_isNot_ref_other e (W.inK bb S _ _ h1) (W.inK bb S _ _ h2) hn ⟨κ, S, .of, by rwa [bne_iff_ne.mpr e] at h⟩
end
theorem clsObj (P : Params) (t : Tr) : ∃ o, (KF P).lookup t.cls = some o ∧ o.cls ≠ .type "tuple" := by
  cases t with
  | leaf => exact ⟨_, rfl, by simp⟩
  | node => exact ⟨_, rfl, by simp⟩
theorem clsT (P : Params) (t : Tr) : classOk P t.cls = true := by
  cases t with
  | leaf => exact clsL P
  | node => exact clsN P
def eqF : Tr → Addr
  | .leaf .. => 328
  | .node .. => 194
theorem eqFOk (P : Params) (t : Tr) : methOk P t.cls "_eq" (eqF t) = true := by
  cases t with
  | leaf => show methOk P 376 "_eq" 328 = true; exact mthL' (by decide)
  | node => show methOk P 296 "_eq" 194 = true; exact mthN' (by decide)
theorem eqFK (P : Params) (t : Tr) : keepIn (KF P) (.ref (eqF t)) = true := by
  cases t with
  | leaf => show keepIn (KF P) (.ref 328) = true; exact keepF (by decide)
  | node => show keepIn (KF P) (.ref 194) = true; exact keepF (by decide)
theorem eqNm (t : Tr) : ("_eq" : Str) ∉ t.nms := by cases t <;> simp only [Tr.nms, KL, KN] <;> decide
/-- Base.__eq__ of two of the same class -/
theorem eq56 {W : Wd} {A : Around} {n : Nat} {κ : PM} {Q : PySem.Value → PM → Prop} {t u : Tr} {f g : Str → Option PySem.Value} (ao : AOk A (n + 1)) (i : Inst W.w.params κ t.cls t.nms t.addr t.dct f) (j : Inst W.w.params κ u.cls u.nms u.addr u.dct g) (hc : t.cls = u.cls)
    (h : ∀ B, AOk B n → Wp W B T1 (PySem.call (.ref (eqF t)) [.ref t.addr, .ref u.addr]) κ Q) : Wp W A T1 (PySem.call (.ref 56) [.ref t.addr, .ref u.addr]) κ Q := by
  refine Wp.ofCd (Cd.def rec56 ao (BindsOk.eq rfl) [some (.ref t.addr), some (.ref u.addr), none] rfl (by kernel_rfl) (by decide) (locs rfl) (by decide) fun L => ?_)
  obtain ⟨o, h1, h2⟩ := clsObj W.w.params t
  refine WX.cons <| WS.if <| WT.cmp <| WE.attr <| WE.name 0 rfl rfl <| i.cls' (clsT _ t) <| WE.attr <| WE.name 1 rfl rfl <| j.cls' (clsT _ u) <| t_isNotK h1 (hc ▸ h1) h2 <| Wp.truthyBool ?_
  rw [show (t.cls != u.cls) = false from by rw [hc]; simp]
  exact pick_f <| WX.nil <| WX.cons <| WS.ret <| WE.meth <| WE.name 0 rfl rfl <| i.method (eqFOk _ t) (eqNm t) <| call_with (.ref (eqFK _ t)) <| WArgs.cons <| WE.name 1 rfl rfl <| WArgs.nil <| h _ (ao.deeper _)
/-- Base.__eq__ of a leaf and a node -/
theorem ne56 {W : Wd} {A : Around} {n : Nat} {κ : PM} {Q : PySem.Value → PM → Prop} {t u : Tr} {f g : Str → Option PySem.Value} (ao : AOk A n) (i : Inst W.w.params κ t.cls t.nms t.addr t.dct f) (j : Inst W.w.params κ u.cls u.nms u.addr u.dct g) (hc : t.cls ≠ u.cls)
    (h : Q .notImplemented κ) : Wp W A T1 (PySem.call (.ref 56) [.ref t.addr, .ref u.addr]) κ Q := by
  refine Wp.ofCd (Cd.def rec56 ao (BindsOk.eq rfl) [some (.ref t.addr), some (.ref u.addr), none] rfl (by kernel_rfl) (by decide) (locs rfl) (by decide) fun L => ?_)
  obtain ⟨o, h1, h2⟩ := clsObj W.w.params t
  obtain ⟨o', h1', _⟩ := clsObj W.w.params u
  refine WX.cons <| WS.if <| WT.cmp <| WE.attr <| WE.name 0 rfl rfl <| i.cls' (clsT _ t) <| WE.attr <| WE.name 1 rfl rfl <| j.cls' (clsT _ u) <| t_isNotK h1 h1' h2 <| Wp.truthyBool ?_
  rw [show (t.cls != u.cls) = true from by simpa using hc]
  exact pick_t <| WX.cons <| WS.ret <| WE.blt rfl rfl rfl (by decide) h
end Mine
end
section
open PySem PySem.W PySem.Calls PyProof.Rows PySem.SeqAt
set_option maxRecDepth 100000
set_option maxHeartbeats 1000000
set_option linter.unusedVariables false
namespace Mine
theorem eqvAll_len : ∀ {a b : List PyData}, a.length ≠ b.length → PyData.eqvAll a b = false
  | [], [], h => absurd rfl h
  | [], _ :: _, _ => by simp [PyData.eqvAll]
  | _ :: _, [], _ => by simp [PyData.eqvAll]
  | x :: r, y :: q, h => by simp only [PyData.eqvAll, eqvAll_len (a := r) (b := q) (by simpa using h), Bool.and_false]
theorem shaped2 {ty : Int} {v : Str} (h : PyData.strOk v = true) : shaped (.tuple [.int ty, .str v]) = true := by
  simp [shaped, PyData.canLay0, PyData.canLayAll0, PyData.depth, PyData.depthAll, h]
/-- == of two nodes that stand apart -/
theorem eq_spec {W : Wd} : ∀ (N : Nat) (t u : Tr), t.ht < N → ∀ {A : Around} {κ : PM} {p q : Option Addr} {Q : PySem.Value → PM → Prop}, AOk A (4 * t.ht + 5) → At W.w.params κ t p → At W.w.params κ u q → t.sok → u.sok → t.pre.length ≤ 1000 → u.pre.length ≤ 1000 → (∀ a ∈ t.pre, a ∉ u.pre) →
    (∀ κ', κ.le κ' → Q (.bool (PyData.eqv t.shp u.shp)) κ') → Wp W A T1 (richCompare .Eq (.ref t.addr) (.ref u.addr)) κ Q := by
  intro N
  induction N with
  | zero => intro t u h; exact absurd h (Nat.not_lt_zero _)
  | succ N ih =>
    intro t u ht A κ p q Q a h1 h2 k1 k2 z1 z2 dj h
    obtain ⟨f, i, _⟩ := h1.own
    obtain ⟨g, j, _⟩ := h2.own
    have hne : t.addr ≠ u.addr := fun e => dj t.addr (by rw [Tr.pre_eq]; exact .head _) (by rw [e, Tr.pre_eq]; exact .head _)
    have hu := a.units
    cases t with
    | leaf ad d ty v pr =>
      cases u with
      | leaf ad2 d2 ty2 v2 pr2 =>
        unfold At at h1 h2
        obtain ⟨f, i, F⟩ := h1
        obtain ⟨g, j, G⟩ := h2
        obtain ⟨t1, e1⟩ := F.ty
        obtain ⟨t2, e2⟩ := F.val
        obtain ⟨u1, g1⟩ := G.ty
        obtain ⟨u2, g2⟩ := G.val
        unfold Tr.sok at k1 k2
        refine rc_same hu i j (eqL _) (eq56 (n := 4) (t := .leaf ad d ty v pr) (u := .leaf ad2 d2 ty2 v2 pr2) (a.less (by omega)) i j rfl fun B aB => ?_)
        show Wp W B T1 (PySem.call (.ref 328) [.ref ad, .ref ad2]) κ _
        refine Wp.ofCd (Cd.def rec328 aB (BindsOk.eq rfl) [some (.ref ad), some (.ref ad2)] rfl (by kernel_rfl) (by decide) (locs rfl) (by decide) fun L => ?_)
        refine WX.cons <| WS.ret <| WE.cmp <| WE.tuple <| WArgs.cons <| WE.attr <| WE.name 0 rfl rfl <| i.own (ownL (by decide)) e1 rfl <| WArgs.cons <| WE.attr <| WE.name 0 rfl rfl <| i.own (ownL (by decide)) e2 rfl <| WArgs.nil ⟨by show 2 ≤ sizeLine; decide, fun x hx => ?_⟩
        have l1 := PM.put_fresh hx (tupOf #[.int ty t1, .str v t2])
        refine WE.tuple <| WArgs.cons <| WE.attr <| WE.name 1 rfl rfl <| (j.le l1).own (ownL (by decide)) g1 rfl <| WArgs.cons <| WE.attr <| WE.name 1 rfl rfl <| (j.le l1).own (ownL (by decide)) g2 rfl <| WArgs.nil ⟨by show 2 ≤ sizeLine; decide, fun y hy => ?_⟩
        have l2 := PM.put_fresh hy (tupOf #[.int ty2 u1, .str v2 u2])
        refine t_eqData (n := 1) ((aB.less (m := 4) (by omega)).deeper _) (.tuple (l2 _ _ (PM.put_self ..)) (.cons (RdK.int _ _ _) (.cons (RdK.str _ _ _) (.nil _)))) (.tuple (PM.put_self ..) (.cons (RdK.int _ _ _) (.cons (RdK.str _ _ _) (.nil _)))) (shaped2 k1) (shaped2 k2) ⟨_, rfl, h _ (l1.trans l2)⟩
      | node ad2 d2 l2 ty2 ch2 =>
        have e : PyData.eqv (Tr.leaf ad d ty v pr).shp (Tr.node ad2 d2 l2 ty2 ch2).shp = false := by simp [Tr.shp, PyData.eqv, PyData.eqvAll]
        rw [e] at h
        refine rc_diff hu i j (eqL _) (eqN _) (by show (376 : Nat) ≠ 296; decide) (subNL _) hne (ne56 (n := 5) (a.less (by omega)) i j (by show (376 : Nat) ≠ 296; decide) ⟨rfl, .rfl, ne56 (n := 5) (a.less (by omega)) j i (by show (296 : Nat) ≠ 376; decide) ⟨rfl, .rfl, h _ .rfl⟩⟩)
    | node ad d l ty ch =>
      cases u with
      | leaf ad2 d2 ty2 v2 pr2 =>
        have e : PyData.eqv (Tr.node ad d l ty ch).shp (Tr.leaf ad2 d2 ty2 v2 pr2).shp = false := by simp [Tr.shp, PyData.eqv, PyData.eqvAll]
        rw [e] at h
        refine rc_diff hu i j (eqN _) (eqL _) (by show (296 : Nat) ≠ 376; decide) (subLN _) hne (ne56 (n := 5) (a.less (by omega)) i j (by show (296 : Nat) ≠ 376; decide) ⟨rfl, .rfl, ne56 (n := 5) (a.less (by omega)) j i (by show (376 : Nat) ≠ 296; decide) ⟨rfl, .rfl, h _ .rfl⟩⟩)
      | node ad2 d2 l2 ty2 ch2 =>
        unfold At at h1 h2
        obtain ⟨⟨f, i, F⟩, c1⟩ := h1
        obtain ⟨⟨g, j, G⟩, c2⟩ := h2
        obtain ⟨t1, e1⟩ := F.ty
        obtain ⟨u1, g1⟩ := G.ty
        obtain ⟨m1, hl1⟩ := F.li
        obtain ⟨m2, hl2⟩ := G.li
        unfold Tr.sok at k1 k2
        have e0 : (Tr.node ad d l ty ch).ht = Tr.htL ch + 1 := by simp [Tr.ht]
        refine rc_same hu i j (eqN _) (eq56 (n := 4 * Tr.htL ch + 8) (t := .node ad d l ty ch) (u := .node ad2 d2 l2 ty2 ch2) (a.less (by omega)) i j rfl fun B aB => ?_)
        show Wp W B T1 (PySem.call (.ref 194) [.ref ad, .ref ad2]) κ _
        refine Wp.ofCd (Cd.def rec194 aB (BindsOk.eq rfl) [some (.ref ad), some (.ref ad2)] rfl (by kernel_rfl) (by decide) (locs rfl) (by decide) fun L => ?_)
        have aD : AOk (B.deeper (callEnv rec194.fd L 194)) (4 * Tr.htL ch + 7) := aB.deeper _
        generalize B.deeper (callEnv rec194.fd L 194) = AD at aD
        refine WX.cons <| WS.ret <| WE.cmp <| WE.tuple <| WArgs.cons <| WE.attr <| WE.name 0 rfl rfl <| i.own (ownN (by decide)) e1 rfl <| WArgs.cons <| WE.attr <| WE.name 0 rfl rfl <| i.own (ownN (by decide)) F.ch rfl <| WArgs.nil ⟨by show 2 ≤ sizeLine; decide, fun x hx => ?_⟩
        have l1 := PM.put_fresh hx (tupOf #[.int ty t1, .ref l])
        refine WE.tuple <| WArgs.cons <| WE.attr <| WE.name 1 rfl rfl <| (j.le l1).own (ownN (by decide)) g1 rfl <| WArgs.cons <| WE.attr <| WE.name 1 rfl rfl <| (j.le l1).own (ownN (by decide)) G.ch rfl <| WArgs.nil ⟨by show 2 ≤ sizeLine; decide, fun y hy => ?_⟩
        have l2' := PM.put_fresh hy (tupOf #[.int ty2 u1, .ref l2])
        have ll := l1.trans l2'
        generalize hκ : (κ.put x (tupOf #[.int ty t1, .ref l])).put y (tupOf #[.int ty2 u1, .ref l2]) = κ₂ at l2' ll
        have hx2 : κ₂ x = some (tupOf #[.int ty t1, .ref l]) := l2' _ _ (PM.put_self ..)
        have hy2 : κ₂ y = some (tupOf #[.int ty2 u1, .ref l2]) := by rw [← hκ, PM.put_self]
        have es : PyData.eqv (Tr.node ad d l ty ch).shp (Tr.node ad2 d2 l2 ty2 ch2).shp = ((ty == ty2) && PyData.eqvAll (Tr.shpL ch) (Tr.shpL ch2)) := by simp [Tr.shp, PyData.eqv, PyData.eqvAll]
        rw [es] at h
        refine t_eqRc <| w_rcTuple aD.units hx2 hy2 <| eqb_int ?_
        by_cases ety : ¬ ty = ty2
        · rw [show (ty == ty2) = false from by simpa using ety] at h ⊢
          exact pick_f ⟨_, rfl, by simpa using h _ ll⟩
        have ety := Classical.not_not.mp ety
        rw [show (ty == ty2) = true from by simpa using ety] at h ⊢
        simp only [Bool.true_and] at h
        refine pick_t ?_
        have djL : ∀ b ∈ Tr.preL ch, b ∉ Tr.preL ch2 := fun b hb hb2 => dj b (by simp [Tr.pre, hb]) (by simp [Tr.pre, hb2])
        simp only [Tr.pre, List.length_cons] at z1 z2
        by_cases el : l = l2
        · subst el
          have hc := refs_inj (hl1.symm.trans hl2)
          refine eqb_same ⟨_, rfl, ?_⟩
          have : PyData.eqvAll (Tr.shpL ch) (Tr.shpL ch2) = true := by
            cases ch with
            | nil =>
              have : ch2 = [] := by simpa using hc.symm
              subst this; simp [Tr.shpL, PyData.eqvAll]
            | cons c r =>
              cases ch2 with
              | nil => simp at hc
              | cons c' r' =>
                exfalso
                simp only [List.map_cons, List.cons.injEq] at hc
                exact djL c.addr (by simp [Tr.preL, Tr.pre_eq c]) (by rw [hc.1]; simp [Tr.preL, Tr.pre_eq c'])
          rw [this] at h
          exact h _ ll
        · refine eqb_ref el <| w_rcList aD.in1.units (ll _ _ hl1) (ll _ _ hl2) (fun hs => ⟨_, rfl, ⟨_, rfl, ?_⟩⟩) fun hs => ?_
          · have := eqvAll_len (a := Tr.shpL ch) (b := Tr.shpL ch2) (by simpa [Tr.shpL_map] using hs)
            rw [this] at h; exact h _ ll
          · have aI : AOk AD.in1.in1 (4 * Tr.htL ch + 5) := (AOk.in1 (n := 4 * Tr.htL ch + 5) (AOk.in1 (n := 4 * Tr.htL ch + 6) aD))
            have go : ∀ (r1 r2 : List Tr) (κ' : PM), r1.length = r2.length → (∀ x ∈ r1, x ∈ ch) → (∀ x ∈ r2, x ∈ ch2) → κ.le κ' → (∀ κ'', κ.le κ'' → Q (.bool (PyData.eqvAll (Tr.shpL r1) (Tr.shpL r2))) κ'') →
                EqCh W AD.in1.in1 l l2 (listOf ((ch.map Tr.addr).map PySem.Value.ref).toArray m1) (listOf ((ch2.map Tr.addr).map PySem.Value.ref).toArray m2) (fun v κ' => ∃ e, v = .bool e ∧ ∃ e', (.bool e : PySem.Value) = .bool e' ∧ Q (.bool e') κ') (((r1.map Tr.addr).map PySem.Value.ref).zip ((r2.map Tr.addr).map PySem.Value.ref)) κ' := by
              intro r1
              induction r1 with
              | nil =>
                intro r2 κ' hl _ _ hle hq
                cases r2 with
                | nil => exact ⟨_, rfl, _, rfl, by simpa [Tr.shpL, PyData.eqvAll] using hq κ' hle⟩
                | cons _ _ => simp at hl
              | cons x r ihr =>
                intro r2 κ' hl m1' m2' hle hq
                cases r2 with
                | nil => simp at hl
                | cons y r' =>
                  have hxm := m1' x (.head _)
                  have hym := m2' y (.head _)
                  have px := Tr.preL_mem_len hxm
                  have py := Tr.preL_mem_len hym
                  have dxy : ∀ b ∈ x.pre, b ∉ y.pre := fun b hb hb2 => djL b (Tr.preL_mem.mpr ⟨x, hxm, hb⟩) (Tr.preL_mem.mpr ⟨y, hym, hb2⟩)
                  have hxy : x.addr ≠ y.addr := fun e => dxy x.addr (by rw [Tr.pre_eq]; exact .head _) (by rw [e, Tr.pre_eq]; exact .head _)
                  have hhx := Tr.htL_le hxm
                  refine eqb_ref hxy <| ih x y (by omega) (aI.less (by omega)) ((c1.get x hxm).le hle) ((c2.get y hym).le hle) (Tr.sokL_get k1 x hxm) (Tr.sokL_get k2 y hym) (by omega) (by omega) dxy fun κ'' hle' => ⟨_, rfl, ⟨(hle.trans hle') _ _ hl1, (hle.trans hle') _ _ hl2⟩, ?_⟩
                  have hh : PyData.eqvAll (Tr.shpL (x :: r)) (Tr.shpL (y :: r')) = (PyData.eqv x.shp y.shp && PyData.eqvAll (Tr.shpL r) (Tr.shpL r')) := by simp [Tr.shpL, PyData.eqvAll]
                  rw [hh] at hq
                  cases he : PyData.eqv x.shp y.shp with
                  | false => rw [he] at hq; exact ⟨_, rfl, _, rfl, by simpa using hq _ (hle.trans hle')⟩
                  | true =>
                    rw [he] at hq
                    exact ihr r' κ'' (by simpa using hl) (fun z hz => m1' z (.tail _ hz)) (fun z hz => m2' z (.tail _ hz)) (hle.trans hle') (by simpa using hq)
            exact go ch ch2 κ₂ (by simpa using hs) (fun _ h => h) (fun _ h => h) ll h
end Mine
end
section
open PySem PySem.W PySem.Calls PyProof.Rows PySem.SeqAt
set_option maxRecDepth 100000
set_option maxHeartbeats 1000000
set_option linter.unusedVariables false
namespace Mine
noncomputable def neOk (P : Params) (C : Addr) : Bool := findIn (KF P) (.ref C) "__ne__" == some (some (.builtin "object.__ne__")) && mroIn (KF P) C (.type "object") == some true
theorem neL (P : Params) : neOk P 376 = true := by kernel_rfl
theorem neN (P : Params) : neOk P 296 = true := by kernel_rfl
section
variable {W : Wd} {A : Around} {κ : PM} {Q : PySem.Value → PM → Prop} {C C2 a1 a2 d1 d2 : Addr} {n1 n2 : List Str} {f1 f2 : Str → Option PySem.Value}
theorem ifBoundB {M : Model} {E : PySem.Value → Shared → Prop} {K : Frag} {s : Shared} {x C : Addr} {ox : Obj} {od : Option Obj} {name : Str} {id : String} {args : List PySem.Value} {Q : Option PySem.Value → Shared → Prop} (X : K.In s.heap) (I : InstAt s.heap x ox C od) (hs : findIn K (.ref C) name = some (some (.builtin id)))
    (hb : ∀ self, bindSpecial (.builtin id) self = Pure.pure (.builtin id, [self])) (h : wpAny M A (PySem.call (.builtin id) (.ref x :: args)) (fun v => Q (some v)) E s) : wpAny M A (callSpecialIfBound? (.ref x) name args) Q E s := by
  simp only [callSpecialIfBound?, bindSpecialIfBound?]
  refine wpAny_holding (wpAny_bind (wpAny_bind (wpAny_bind (I.type.here ((looks_findIn X hs).here ?_)))))
  refine wpAny_bind (wpAny_askSetting (wpAny_ite ?_))
  have fin : wpAny M A (PySem.call (.builtin id) ([.ref x] ++ args) >>= fun v => Pure.pure (some v)) Q E s := wpAny_bind (wpAny_mono h (fun v s' h' => wpAny_pure h') fun _ _ h' => h')
  split
  · exact wpAny_bind ((Looks.of_pure (hb _)).here (wpAny_pure (by exact fin)))
  · exact wpAny_tryCatch (wpAny_bind ((Looks.of_pure (hb _)).here (wpAny_pure (by exact fin))))
open Builtin in
/-- object.__ne__ -/
theorem neCall (hu : A.in1.units < cLine) (I1 : Inst W.w.params κ C n1 a1 d1 f1) (ok : eqOk W.w.params C = true) (nk : neOk W.w.params C = true)
    (h : Wp W A.in1 T1 (PySem.call (.ref 56) [.ref a1, .ref a2]) κ fun v κ' => (∃ e, v = .bool e ∧ Q (.bool (!e)) κ') ∨ (v = .notImplemented ∧ Q .notImplemented κ')) : Wp W A T1 (PySem.call (.builtin "object.__ne__") [.ref a1, .ref a2]) κ Q := fun R s b _ S => by
  obtain ⟨es1, m1, J1, _⟩ := I1.at S
  unfold eqOk at ok
  unfold neOk at nk
  simp only [Bool.and_eq_true, beq_iff_eq] at ok nk
  have X := W.inK b S
  refine wpAny_call (codeAny_call_builtin PySem.F.cmp_object.ne.plain PySem.F.cmpEntry_ne (check_slot (i := "object.__ne__") (owner := "object") (n := "__ne__") (by decide +kernel) (by decide +kernel) (J1.type.andThen (looks_mroIn X nk.2)) (PySem.F.cmpArgs_ne _ _) ?_))
  unfold Builtin.«object.__ne__»
  refine wpAny_bind (m := slotArgs "__ne__" 1 _) (wpAny_pure ?_)
  refine wpAny_bind (m := cRoomFor _ _) (wpAny_cRoomFor hu ?_)
  refine wpAny_bind (m := callSpecialIfBound? (.ref a1) (Str.ofString "__eq__") _) (ifBound_K X J1 ok.1 ok.2 (h.seq b trivial S fun v κ' s' S' F q => ?_))
  rcases q with ⟨e, rfl, q⟩ | ⟨rfl, q⟩
  · exact wpAny_bind (wpAny_truthy_bool (wpAny_pure ⟨κ', S', F, q⟩))
  · exact wpAny_pure ⟨κ', S', F, q⟩
theorem rcne_same (hu : A.in1.units < cLine) (I1 : Inst W.w.params κ C n1 a1 d1 f1) (I2 : Inst W.w.params κ C n2 a2 d2 f2) (ok : eqOk W.w.params C = true) (nk : neOk W.w.params C = true)
    (h : Wp W A.in1 T1 (PySem.call (.ref 56) [.ref a1, .ref a2]) κ fun v κ' => ∃ e, v = .bool e ∧ Q (.bool (!e)) κ') : Wp W A T1 (compareOp .NotEq (.ref a1) (.ref a2)) κ Q := fun R s b _ S => by
  obtain ⟨es1, m1, J1, _⟩ := I1.at S
  obtain ⟨es2, m2, J2, _⟩ := I2.at S
  have nk' := nk
  unfold neOk at nk
  simp only [Bool.and_eq_true, beq_iff_eq] at nk
  have X := W.inK b S
  have hc := neCall (Q := fun v κ' => ∃ e, v = .bool e ∧ Q (.bool e) κ') hu I1 ok nk' (Wp.mono h fun v κ' ⟨e, h1, h2⟩ => .inl ⟨e, h1, _, rfl, h2⟩)
  unfold compareOp
  unfold richCompare
  simp only [oneThing_ref]
  refine wpAny_holding (wpAny_bind (wpAny_cRoomFor (Nat.lt_of_succ_lt hu) ?_))
  refine wpAny_bind (J1.type.here (wpAny_bind (J2.type.here ?_)))
  rw [show (PySem.Value.ref C != PySem.Value.ref C) = false from by simp]
  refine wpAny_bind (wpAny_pure ?_)
  simp only [Bool.false_eq_true, if_false]
  unfold tryCompare
  refine wpAny_bind (wpAny_bind (ifBoundB X J1 nk.1 PySem.F.cmp_object.ne.bind (hc.seq b trivial S fun v κ' s' S' F q => ?_)))
  obtain ⟨e, rfl, q⟩ := q
  exact wpAny_pure (wpAny_pure ⟨κ', S', F, q⟩)
theorem rcne_diff (hu : A.in1.units < cLine) (I1 : Inst W.w.params κ C n1 a1 d1 f1) (I2 : Inst W.w.params κ C2 n2 a2 d2 f2) (ok : eqOk W.w.params C = true) (nk : neOk W.w.params C = true) (ok2 : eqOk W.w.params C2 = true) (nk2 : neOk W.w.params C2 = true)
    (hC : C ≠ C2) (hs : subIn (KF W.w.params) (.ref C2) (.ref C) = some false) (ha : a1 ≠ a2)
    (h : Wp W A.in1 T1 (PySem.call (.ref 56) [.ref a1, .ref a2]) κ fun v κ' => v = .notImplemented ∧ κ.le κ' ∧ Wp W A.in1 T1 (PySem.call (.ref 56) [.ref a2, .ref a1]) κ' fun v κ'' => v = .notImplemented ∧ κ.le κ'' ∧ Q (.bool true) κ'') : Wp W A T1 (compareOp .NotEq (.ref a1) (.ref a2)) κ Q := fun R s b _ S => by
  obtain ⟨es1, m1, J1, _⟩ := I1.at S
  obtain ⟨es2, m2, J2, _⟩ := I2.at S
  have nk' := nk
  have nk2' := nk2
  unfold neOk at nk nk2
  simp only [Bool.and_eq_true, beq_iff_eq] at nk nk2
  have X := W.inK b S
  have hc := neCall (Q := fun v κ' => v = .notImplemented ∧ κ.le κ' ∧ Wp W A.in1 T1 (PySem.call (.ref 56) [.ref a2, .ref a1]) κ' fun v κ'' => v = .notImplemented ∧ κ.le κ'' ∧ Q (.bool true) κ'') hu I1 ok nk' (Wp.mono h fun v κ' q => .inr ⟨q.1, rfl, q.2⟩)
  unfold compareOp
  unfold richCompare
  simp only [oneThing_ref]
  refine wpAny_holding (wpAny_bind (wpAny_cRoomFor (Nat.lt_of_succ_lt hu) ?_))
  refine wpAny_bind (J1.type.here (wpAny_bind (J2.type.here ?_)))
  rw [show (PySem.Value.ref C != PySem.Value.ref C2) = true from by simpa using hC]
  simp only [if_true]
  refine wpAny_bind ((looks_subIn X hs).here ?_)
  simp only [Bool.false_eq_true, if_false, Bool.not_false, if_true]
  unfold tryCompare
  refine wpAny_bind (wpAny_bind (ifBoundB X J1 nk.1 PySem.F.cmp_object.ne.bind (hc.seq b trivial S fun v κ' s' S' F q => ?_)))
  obtain ⟨rfl, hle, q⟩ := q
  refine wpAny_pure ?_
  obtain ⟨es2', m2', J2', _⟩ := (I2.le hle).at S'
  have hc2 := neCall (Q := fun v κ'' => v = .notImplemented ∧ κ.le κ'' ∧ Q (.bool true) κ'') hu (I2.le hle) ok2 nk2' (Wp.mono q fun v κ' q => .inr ⟨q.1, rfl, q.2⟩)
  refine wpAny_bind (wpAny_bind (ifBoundB (W.inK b S') J2' nk2.1 PySem.F.cmp_object.ne.bind (hc2.seq b trivial S' fun v κ'' s'' S'' F' q' => ?_)))
  obtain ⟨rfl, hle', q'⟩ := q'
  refine wpAny_pure ?_
  refine wpAny_bind (wpAny_rule (wpAny_bind (wpAny_isSame_ref_other ha (S''.k _ _ (hle' _ _ I1.1)) (S''.k _ _ (hle' _ _ I2.1)) (by simp) (wpAny_pure ⟨κ'', S'', F.trans F', q'⟩))))
end
end Mine
end
section
open PySem PySem.W PySem.Calls PyProof.Rows PySem.SeqAt
set_option maxRecDepth 100000
set_option maxHeartbeats 1000000
set_option linter.unusedVariables false
namespace Mine
/-- __eq__ of two of the same class -/
theorem eq56_spec {W : Wd} (t u : Tr) (hcls : t.cls = u.cls) : ∀ {A : Around} {κ : PM} {p q : Option Addr} {Q : PySem.Value → PM → Prop}, AOk A (4 * t.ht + 5) → At W.w.params κ t p → At W.w.params κ u q → t.sok → u.sok → t.pre.length ≤ 1000 → u.pre.length ≤ 1000 → (∀ a ∈ t.pre, a ∉ u.pre) →
    (∀ κ', κ.le κ' → Q (.bool (PyData.eqv t.shp u.shp)) κ') → Wp W A T1 (PySem.call (.ref 56) [.ref t.addr, .ref u.addr]) κ Q := by
    intro A κ p q Q a h1 h2 k1 k2 z1 z2 dj h
    obtain ⟨f, i, _⟩ := h1.own
    obtain ⟨g, j, _⟩ := h2.own
    have hne : t.addr ≠ u.addr := fun e => dj t.addr (by rw [Tr.pre_eq]; exact .head _) (by rw [e, Tr.pre_eq]; exact .head _)
    have hu := a.units
    cases t with
    | leaf ad d ty v pr =>
      cases u with
      | leaf ad2 d2 ty2 v2 pr2 =>
        unfold At at h1 h2
        obtain ⟨f, i, F⟩ := h1
        obtain ⟨g, j, G⟩ := h2
        obtain ⟨t1, e1⟩ := F.ty
        obtain ⟨t2, e2⟩ := F.val
        obtain ⟨u1, g1⟩ := G.ty
        obtain ⟨u2, g2⟩ := G.val
        unfold Tr.sok at k1 k2
        refine (eq56 (n := 4) (t := .leaf ad d ty v pr) (u := .leaf ad2 d2 ty2 v2 pr2) (a.less (by omega)) i j rfl fun B aB => ?_)
        show Wp W B T1 (PySem.call (.ref 328) [.ref ad, .ref ad2]) κ _
        refine Wp.ofCd (Cd.def rec328 aB (BindsOk.eq rfl) [some (.ref ad), some (.ref ad2)] rfl (by kernel_rfl) (by decide) (locs rfl) (by decide) fun L => ?_)
        refine WX.cons <| WS.ret <| WE.cmp <| WE.tuple <| WArgs.cons <| WE.attr <| WE.name 0 rfl rfl <| i.own (ownL (by decide)) e1 rfl <| WArgs.cons <| WE.attr <| WE.name 0 rfl rfl <| i.own (ownL (by decide)) e2 rfl <| WArgs.nil ⟨by show 2 ≤ sizeLine; decide, fun x hx => ?_⟩
        have l1 := PM.put_fresh hx (tupOf #[.int ty t1, .str v t2])
        refine WE.tuple <| WArgs.cons <| WE.attr <| WE.name 1 rfl rfl <| (j.le l1).own (ownL (by decide)) g1 rfl <| WArgs.cons <| WE.attr <| WE.name 1 rfl rfl <| (j.le l1).own (ownL (by decide)) g2 rfl <| WArgs.nil ⟨by show 2 ≤ sizeLine; decide, fun y hy => ?_⟩
        have l2 := PM.put_fresh hy (tupOf #[.int ty2 u1, .str v2 u2])
        refine t_eqData (n := 1) ((aB.less (m := 4) (by omega)).deeper _) (.tuple (l2 _ _ (PM.put_self ..)) (.cons (RdK.int _ _ _) (.cons (RdK.str _ _ _) (.nil _)))) (.tuple (PM.put_self ..) (.cons (RdK.int _ _ _) (.cons (RdK.str _ _ _) (.nil _)))) (shaped2 k1) (shaped2 k2) (h _ (l1.trans l2))
      | node ad2 d2 l2 ty2 ch2 => exact absurd hcls (by show (376 : Nat) ≠ 296; decide)
    | node ad d l ty ch =>
      cases u with
      | leaf ad2 d2 ty2 v2 pr2 => exact absurd hcls (by show (296 : Nat) ≠ 376; decide)
      | node ad2 d2 l2 ty2 ch2 =>
        unfold At at h1 h2
        obtain ⟨⟨f, i, F⟩, c1⟩ := h1
        obtain ⟨⟨g, j, G⟩, c2⟩ := h2
        obtain ⟨t1, e1⟩ := F.ty
        obtain ⟨u1, g1⟩ := G.ty
        obtain ⟨m1, hl1⟩ := F.li
        obtain ⟨m2, hl2⟩ := G.li
        unfold Tr.sok at k1 k2
        have e0 : (Tr.node ad d l ty ch).ht = Tr.htL ch + 1 := by simp [Tr.ht]
        refine (eq56 (n := 4 * Tr.htL ch + 8) (t := .node ad d l ty ch) (u := .node ad2 d2 l2 ty2 ch2) (a.less (by omega)) i j rfl fun B aB => ?_)
        show Wp W B T1 (PySem.call (.ref 194) [.ref ad, .ref ad2]) κ _
        refine Wp.ofCd (Cd.def rec194 aB (BindsOk.eq rfl) [some (.ref ad), some (.ref ad2)] rfl (by kernel_rfl) (by decide) (locs rfl) (by decide) fun L => ?_)
        have aD : AOk (B.deeper (callEnv rec194.fd L 194)) (4 * Tr.htL ch + 7) := aB.deeper _
        generalize B.deeper (callEnv rec194.fd L 194) = AD at aD
        refine WX.cons <| WS.ret <| WE.cmp <| WE.tuple <| WArgs.cons <| WE.attr <| WE.name 0 rfl rfl <| i.own (ownN (by decide)) e1 rfl <| WArgs.cons <| WE.attr <| WE.name 0 rfl rfl <| i.own (ownN (by decide)) F.ch rfl <| WArgs.nil ⟨by show 2 ≤ sizeLine; decide, fun x hx => ?_⟩
        have l1 := PM.put_fresh hx (tupOf #[.int ty t1, .ref l])
        refine WE.tuple <| WArgs.cons <| WE.attr <| WE.name 1 rfl rfl <| (j.le l1).own (ownN (by decide)) g1 rfl <| WArgs.cons <| WE.attr <| WE.name 1 rfl rfl <| (j.le l1).own (ownN (by decide)) G.ch rfl <| WArgs.nil ⟨by show 2 ≤ sizeLine; decide, fun y hy => ?_⟩
        have l2' := PM.put_fresh hy (tupOf #[.int ty2 u1, .ref l2])
        have ll := l1.trans l2'
        generalize hκ : (κ.put x (tupOf #[.int ty t1, .ref l])).put y (tupOf #[.int ty2 u1, .ref l2]) = κ₂ at l2' ll
        have hx2 : κ₂ x = some (tupOf #[.int ty t1, .ref l]) := l2' _ _ (PM.put_self ..)
        have hy2 : κ₂ y = some (tupOf #[.int ty2 u1, .ref l2]) := by rw [← hκ, PM.put_self]
        have es : PyData.eqv (Tr.node ad d l ty ch).shp (Tr.node ad2 d2 l2 ty2 ch2).shp = ((ty == ty2) && PyData.eqvAll (Tr.shpL ch) (Tr.shpL ch2)) := by simp [Tr.shp, PyData.eqv, PyData.eqvAll]
        rw [es] at h
        refine t_eqRc <| w_rcTuple aD.units hx2 hy2 <| eqb_int ?_
        by_cases ety : ¬ ty = ty2
        · rw [show (ty == ty2) = false from by simpa using ety] at h ⊢
          exact pick_f (h _ ll)
        have ety := Classical.not_not.mp ety
        rw [show (ty == ty2) = true from by simpa using ety] at h ⊢
        simp only [Bool.true_and] at h
        refine pick_t ?_
        have djL : ∀ b ∈ Tr.preL ch, b ∉ Tr.preL ch2 := fun b hb hb2 => dj b (by simp [Tr.pre, hb]) (by simp [Tr.pre, hb2])
        simp only [Tr.pre, List.length_cons] at z1 z2
        by_cases el : l = l2
        · subst el
          have hc := refs_inj (hl1.symm.trans hl2)
          refine eqb_same ?_
          have : PyData.eqvAll (Tr.shpL ch) (Tr.shpL ch2) = true := by
            cases ch with
            | nil =>
              have : ch2 = [] := by simpa using hc.symm
              subst this; simp [Tr.shpL, PyData.eqvAll]
            | cons c r =>
              cases ch2 with
              | nil => simp at hc
              | cons c' r' =>
                exfalso
                simp only [List.map_cons, List.cons.injEq] at hc
                exact djL c.addr (by simp [Tr.preL, Tr.pre_eq c]) (by rw [hc.1]; simp [Tr.preL, Tr.pre_eq c'])
          rw [this] at h
          exact h _ ll
        · refine eqb_ref el <| w_rcList aD.in1.units (ll _ _ hl1) (ll _ _ hl2) (fun hs => ⟨_, rfl, ?_⟩) fun hs => ?_
          · have := eqvAll_len (a := Tr.shpL ch) (b := Tr.shpL ch2) (by simpa [Tr.shpL_map] using hs)
            rw [this] at h; exact h _ ll
          · have aI : AOk AD.in1.in1 (4 * Tr.htL ch + 5) := (AOk.in1 (n := 4 * Tr.htL ch + 5) (AOk.in1 (n := 4 * Tr.htL ch + 6) aD))
            have go : ∀ (r1 r2 : List Tr) (κ' : PM), r1.length = r2.length → (∀ x ∈ r1, x ∈ ch) → (∀ x ∈ r2, x ∈ ch2) → κ.le κ' → (∀ κ'', κ.le κ'' → Q (.bool (PyData.eqvAll (Tr.shpL r1) (Tr.shpL r2))) κ'') →
                EqCh W AD.in1.in1 l l2 (listOf ((ch.map Tr.addr).map PySem.Value.ref).toArray m1) (listOf ((ch2.map Tr.addr).map PySem.Value.ref).toArray m2) (fun v κ' => ∃ e, v = .bool e ∧ Q (.bool e) κ') (((r1.map Tr.addr).map PySem.Value.ref).zip ((r2.map Tr.addr).map PySem.Value.ref)) κ' := by
              intro r1
              induction r1 with
              | nil =>
                intro r2 κ' hl _ _ hle hq
                cases r2 with
                | nil => exact ⟨_, rfl, by simpa [Tr.shpL, PyData.eqvAll] using hq κ' hle⟩
                | cons _ _ => simp at hl
              | cons x r ihr =>
                intro r2 κ' hl m1' m2' hle hq
                cases r2 with
                | nil => simp at hl
                | cons y r' =>
                  have hxm := m1' x (.head _)
                  have hym := m2' y (.head _)
                  have px := Tr.preL_mem_len hxm
                  have py := Tr.preL_mem_len hym
                  have dxy : ∀ b ∈ x.pre, b ∉ y.pre := fun b hb hb2 => djL b (Tr.preL_mem.mpr ⟨x, hxm, hb⟩) (Tr.preL_mem.mpr ⟨y, hym, hb2⟩)
                  have hxy : x.addr ≠ y.addr := fun e => dxy x.addr (by rw [Tr.pre_eq]; exact .head _) (by rw [e, Tr.pre_eq]; exact .head _)
                  have hhx := Tr.htL_le hxm
                  refine eqb_ref hxy <| eq_spec (x.ht + 1) x y (Nat.lt_succ_self _) (aI.less (by omega)) ((c1.get x hxm).le hle) ((c2.get y hym).le hle) (Tr.sokL_get k1 x hxm) (Tr.sokL_get k2 y hym) (by omega) (by omega) dxy fun κ'' hle' => ⟨_, rfl, ⟨(hle.trans hle') _ _ hl1, (hle.trans hle') _ _ hl2⟩, ?_⟩
                  have hh : PyData.eqvAll (Tr.shpL (x :: r)) (Tr.shpL (y :: r')) = (PyData.eqv x.shp y.shp && PyData.eqvAll (Tr.shpL r) (Tr.shpL r')) := by simp [Tr.shpL, PyData.eqvAll]
                  rw [hh] at hq
                  cases he : PyData.eqv x.shp y.shp with
                  | false => rw [he] at hq; exact ⟨_, rfl, by simpa using hq _ (hle.trans hle')⟩
                  | true =>
                    rw [he] at hq
                    exact ihr r' κ'' (by simpa using hl) (fun z hz => m1' z (.tail _ hz)) (fun z hz => m2' z (.tail _ hz)) (hle.trans hle') (by simpa using hq)
            exact go ch ch2 κ₂ (by simpa using hs) (fun _ h => h) (fun _ h => h) ll h

theorem neT (P : Params) (t : Tr) : neOk P t.cls = true := by
  cases t with
  | leaf => exact neL P
  | node => exact neN P
theorem subT (P : Params) {t u : Tr} (h : t.cls ≠ u.cls) : subIn (KF P) (.ref u.cls) (.ref t.cls) = some false := by
  cases t with
  | leaf => cases u with
    | leaf => exact absurd rfl h
    | node => exact subNL P
  | node => cases u with
    | node => exact absurd rfl h
    | leaf => exact subLN P
theorem eqv_diff {t u : Tr} (h : t.cls ≠ u.cls) : PyData.eqv t.shp u.shp = false := by
  cases t with
  | leaf => cases u with
    | leaf => exact absurd rfl h
    | node => simp [Tr.shp, PyData.eqv, PyData.eqvAll]
  | node => cases u with
    | node => exact absurd rfl h
    | leaf => simp [Tr.shp, PyData.eqv, PyData.eqvAll]
/-- != of two nodes that stand apart -/
theorem ne_spec {W : Wd} {t u : Tr} {A : Around} {κ : PM} {p q : Option Addr} {Q : PySem.Value → PM → Prop} (a : AOk A (4 * t.ht + 6)) (h1 : At W.w.params κ t p) (h2 : At W.w.params κ u q) (k1 : t.sok) (k2 : u.sok) (z1 : t.pre.length ≤ 1000) (z2 : u.pre.length ≤ 1000) (dj : ∀ a ∈ t.pre, a ∉ u.pre)
    (h : ∀ κ', κ.le κ' → Q (.bool (!PyData.eqv t.shp u.shp)) κ') : Wp W A T1 (compareOp .NotEq (.ref t.addr) (.ref u.addr)) κ Q := by
  obtain ⟨f, i, _⟩ := h1.own
  obtain ⟨g, j, _⟩ := h2.own
  have hne : t.addr ≠ u.addr := fun e => dj t.addr (by rw [Tr.pre_eq]; exact .head _) (by rw [e, Tr.pre_eq]; exact .head _)
  have a' : AOk A.in1 (4 * t.ht + 5) := a.in1
  by_cases hc : t.cls = u.cls
  · have i' : Inst W.w.params κ u.cls t.nms t.addr t.dct f := hc ▸ i
    exact rcne_same a'.units i' j (eqT _ u) (neT _ u) (eq56_spec t u hc a' h1 h2 k1 k2 z1 z2 dj fun κ' hle => ⟨_, rfl, h κ' hle⟩)
  · rw [eqv_diff hc] at h
    exact rcne_diff a'.units i j (eqT _ t) (neT _ t) (eqT _ u) (neT _ u) hc (subT _ hc) hne (ne56 (n := 4) (a'.less (by omega)) i j hc ⟨rfl, .rfl, ne56 (n := 4) (a'.less (by omega)) j i (Ne.symm hc) ⟨rfl, .rfl, h _ .rfl⟩⟩)
end Mine
end
section
open PySem PySem.W PySem.Calls PyProof.Rows PySem.SeqAt
set_option maxRecDepth 100000
set_option maxHeartbeats 1000000
set_option linter.unusedVariables false
namespace Mine
/-- an iterator at I that gives P 0, P 1, .., n of them, beside a list at S; G: what is so of its own memory and of the generators before the i-th -/
structure It (W : Wd) (A : Around) (s₀ : Shared) (R : PM) (S I n : Nat) (P : Nat → PySem.Value → Prop) (G : Nat → PM → Array GenState → Prop) : Prop where
  nxt : ∀ i (κ : PM) (s : Shared), i < n → (∃ o, κ S = some o) → Sat κ R s.heap → G i κ s.gens → Fwd s₀ s →
    wpAny W.M A (pyNext (.ref I)) (fun r s' => ∃ v κ', r = some v ∧ P i v ∧ Sat κ' R s'.heap ∧ Fwd s₀ s' ∧ G (i + 1) κ' s'.gens ∧ κ' S = κ S) (fun _ _ => False) s
  fin : ∀ (κ : PM) (s : Shared), (∃ o, κ S = some o) → Sat κ R s.heap → G n κ s.gens → Fwd s₀ s →
    wpAny W.M A (pyNext (.ref I)) (fun r s' => r = none ∧ ∃ κ', Sat κ' R s'.heap ∧ Fwd s₀ s' ∧ G (n + 1) κ' s'.gens ∧ κ' S = κ S) (fun _ _ => False) s
  stab : ∀ i κ gens o, G i κ gens → G i (κ.put S o) gens

theorem Sat.intoR {κ R : PM} {h : Heap} {a : Addr} {o : Obj} (S : Sat κ R h) (hκ : κ a = none) (hR : R a = none) (ho : h.get? a = some o) : Sat κ (R.put a o) h := by
  refine ⟨S.k, fun b ob e => ?_, fun b ob e => ?_⟩
  · by_cases q : b = a
    · subst q; rw [PM.put_self] at e; cases e; exact ho
    · rw [PM.put_ne _ _ q] at e; exact S.r _ _ e
  · rw [PM.put_ne _ _ (PM.ne_of hκ e)]; exact S.d _ _ e
theorem Sat.outR {κ R : PM} {h : Heap} {a : Addr} {o : Obj} (S : Sat κ (R.put a o) h) (hR : R a = none) : Sat κ R h ∧ κ a = none ∧ h.get? a = some o := by
  refine ⟨⟨S.k, fun b ob e => S.r _ _ (by rw [PM.put_ne _ _ (PM.ne_of hR e)]; exact e), fun b ob e => ?_⟩, ?_, S.r _ _ (PM.put_self ..)⟩
  · have := S.d _ _ e
    by_cases q : b = a
    · rw [q]; exact hR
    · rwa [PM.put_ne _ _ q] at this
  · cases e : κ a with
    | none => rfl
    | some ob => have := S.d _ _ e; rw [PM.put_self] at this; cases this

theorem extend_loop {W : Wd} {A : Around} {s₀ : Shared} {I n : Nat} {P : Nat → PySem.Value → Prop} {G : Nat → PM → Array GenState → Prop} {S : Addr} {R : PM} (T : It W A.in1 s₀ R S I n P G) (pre : List PySem.Value) (hn : pre.length + n ≤ 1000000) (res : PySem.Value) {RR : Result → Shared → Prop}
    (fin : ∀ κ s (acc : List PySem.Value) c, Sat κ R s.heap → κ S = some (listOf (pre ++ acc).toArray c) → acc.length = n → (∀ j v, acc[j]? = some v → P j v) → Fwd s₀ s → G (n + 1) κ s.gens → RR (.ok (.ret res)) s) :
    ∀ (k i : Nat) (κ : PM) (s : Shared) (acc : List PySem.Value) (c : Nat), n - i = k → i ≤ n → Sat κ R s.heap → κ S = some (listOf (pre ++ acc).toArray c) → acc.length = i → (∀ j v, acc[j]? = some v → P j v) → Fwd s₀ s → G i κ s.gens →
      codeAny W.M A (.builtin "list.extend.loop" ⟨[.ref S, .ref I, res], []⟩) RR s := by
  intro k
  induction k with
  | zero =>
    intro i κ s acc c hk hi St hS hlen hacc F hG
    have hin : i = n := by omega
    subst hin
    refine codeAny_builtin PySem.F.entry_extend_loop ?_
    rw [Around.under_plainId PySem.F.plain_extend_loop _]
    show wpAny _ A.in1 (pyNext (.ref I) >>= _) _ _ s
    refine wpAny_bind (wpAny_mono (T.fin κ s ⟨_, hS⟩ St hG F) (fun r s' hq => ?_) fun _ _ x => x.elim)
    obtain ⟨rfl, κ', S', F', g', e'⟩ := hq
    exact wpAny_pure (fin κ' s' acc c S' (e'.trans hS) hlen hacc F' g')
  | succ k ih =>
    intro i κ s acc c hk hi St hS hlen hacc F hG
    have hlt : i < n := by omega
    refine codeAny_builtin PySem.F.entry_extend_loop ?_
    rw [Around.under_plainId PySem.F.plain_extend_loop _]
    show wpAny _ A.in1 (pyNext (.ref I) >>= _) _ _ s
    refine wpAny_bind (wpAny_mono (T.nxt i κ s hlt ⟨_, hS⟩ St hG F) (fun r s' hq => ?_) fun _ _ x => x.elim)
    obtain ⟨v, κ', rfl, hv, S', F', g', e'⟩ := hq
    have hS' : κ' S = some (listOf (pre ++ acc).toArray c) := e'.trans hS
    have h2 := S'.k _ _ hS'
    show wpAny _ A.in1 (updateSeq S (·.push v) >>= _) _ _ _
    refine wpAny_bind ?_
    have hz : sizeLine = 16777216 := by decide
    refine wpAny_updateSeq h2 rfl (wpAny_pure ⟨plainId_quiet PySem.F.plain_extend_loop _, ?_⟩) (by simp; omega) (by simp; omega)
    have h3 : (s'.heap.update S (Obj.mapSeq (·.push v))).get? S = some (listOf (pre ++ (acc ++ [v])).toArray (c + 1)) := by
      rw [Heap.get?_update_self _ h2 rfl]
      show some (Obj.mapSeq (·.push v) (listOf (pre ++ acc).toArray c)) = _
      have e : (listOf (pre ++ acc).toArray c).mapSeq (·.push v) = listOf (pre ++ (acc ++ [v])).toArray (c + 1) := by
        unfold Obj.mapSeq
        simp
      rw [e]
    refine ih (i + 1) _ _ (acc ++ [v]) (c + 1) (by omega) hlt (S'.upd hS' (Heap.SameBut.update ..) h3) (PM.put_self ..) (by simp [hlen]) (fun j w hj => ?_) (F'.trans .of) (T.stab _ _ _ _ g')
    rw [List.getElem?_append] at hj
    split at hj
    · exact hacc j w hj
    · rename_i hge
      have : j = i := by
        have := (List.getElem?_eq_some_iff.mp hj).1
        simp at this; omega
      subst this
      rw [hlen] at hj
      simp at hj; subst hj; exact hv
end Mine
end
section
open PySem PySem.W PySem.Calls PyProof.Rows PySem.SeqAt
set_option maxRecDepth 100000
set_option maxHeartbeats 1000000
set_option linter.unusedVariables false
namespace Mine
section
variable {W : Wd} {A : Around} {s₀ : Shared} {I n g : Nat} {P : Nat → PySem.Value → Prop} {G : Nat → PM → Array GenState → Prop}
theorem extend_gen {S : Addr} {R : PM} (T : It W A.in1 s₀ R S I n P G) (hn : n ≤ 1000000) (res : PySem.Value) {RR : Result → Shared → Prop} {κ : PM} {s : Shared} {c : Nat}
    (fin : ∀ κ s (acc : List PySem.Value) c, Sat κ R s.heap → κ S = some (listOf acc.toArray c) → acc.length = n → (∀ j v, acc[j]? = some v → P j v) → Fwd s₀ s → G (n + 1) κ s.gens → RR (.ok (.ret res)) s)
    (hg : s.heap.IsGen I g) (St : Sat κ R s.heap) (hS0 : κ S = some (listOf #[] c)) (hSI : S ≠ I) (F : Fwd s₀ s) (g0 : G 0 κ s.gens) :
    wpAny W.M A.in1 (Builtin.List.listExtendWith (.ref S) (.ref I) res) (fun fin s' => match fin with | .done f => RR (.ok f) s' | .again c' => c'.quiet = true ∧ codeAny W.M A c' RR s') (fun e s' => RR (.error e) s') s := by
  have hS := St.k _ _ hS0
  unfold Builtin.List.listExtendWith
  refine wpAny_bind (wpAny_typeOf hg.typeIs ?_)
  have h1 : Builtin.List.listSameRef (.ref S) (.ref I) = false := by simp [Builtin.List.listSameRef, hSI]
  have h2 : (PySem.Value.type "generator" == PySem.Value.type "list") = false := by decide
  have h3 : (PySem.Value.type "generator" == PySem.Value.type "tuple") = false := by decide
  simp only [h1, h2, h3, Bool.or_false, Bool.false_eq_true, if_false]
  refine wpAny_bind (wpAny_pyIter_gen hg ?_)
  refine wpAny_bind (wpAny_holding ?_)
  unfold Builtin.List.listLengthHint
  refine wpAny_bind (wpAny_specialOf hg.typeIs PySem.F.gen_no_len ?_)
  show wpAny _ A.in1 (specialOf (PySem.Value.ref I) (Str.ofString "__length_hint__") >>= _) _ _ _
  refine wpAny_bind (wpAny_specialOf hg.typeIs PySem.F.gen_no_hint ?_)
  refine wpAny_pure ?_
  show wpAny _ A.in1 (rule "list.extend.makes-room" >>= fun _ => Builtin.List.listTouch (.ref S) >>= fun _ => again (.builtin "list.extend.loop" ⟨[.ref S, .ref I, res], []⟩)) _ _ _
  refine wpAny_bind (wpAny_rule ?_)
  refine wpAny_bind ?_
  show wpAny _ A.in1 (updateSeq S (·.push .none) >>= fun _ => updateSeq S (·.pop)) _ _ _
  refine wpAny_bind (wpAny_updateSeq hS rfl ?_)
  have hS₂ := Heap.get?_update_self (Obj.mapSeq (·.push PySem.Value.none)) hS rfl
  refine wpAny_updateSeq (hz := by seq_fits) hS₂ rfl ?_
  have hS₃ := Heap.get?_update_self (Obj.mapSeq (·.pop)) hS₂ rfl
  have S₂ : Sat (κ.put S _) R _ := St.upd hS0 ((Heap.SameBut.update ..).trans (Heap.SameBut.update ..)) hS₃
  refine wpAny_pure ⟨plainId_quiet PySem.F.plain_extend_loop _, ?_⟩
  exact extend_loop T [] (by simpa using hn) res fin n 0 _ _ [] _ rfl (Nat.zero_le _) S₂ (PM.put_self ..) rfl (fun j v h => by simp at h) (F.trans .of) (T.stab _ _ _ _ g0)
end
section
variable {W : Wd} {A : Around} {s₀ : Shared} {I n g : Nat} {P : Nat → PySem.Value → Prop} {G : Nat → PM → Array GenState → Prop}
theorem list_gen {R κ : PM} {s : Shared} (T : It W A.in1.in1 s₀ R s.heap.objs.size I n P G) (hn : n ≤ 1000000) (hg : s.heap.IsGen I g) (St : Sat κ R s.heap) (F : Fwd s₀ s) (g0 : G 0 κ s.gens) {Q : PySem.Value → Shared → Prop} {E : PySem.Value → Shared → Prop}
    (hQ : ∀ D κ' s' (acc : List PySem.Value) c, D = s.heap.objs.size → Sat κ' R s'.heap → κ' D = some (listOf acc.toArray c) → κ D = none → acc.length = n → (∀ j v, acc[j]? = some v → P j v) → Fwd s₀ s' → G (n + 1) κ' s'.gens → Q (.ref D) s') :
    wpAny W.M A (PySem.call (.type "list") [.ref I]) Q E s := by
  have fr := St.fresh (get_size_none s.heap)
  have hSI : s.heap.objs.size ≠ I := by obtain ⟨o, _, _, ho, _⟩ := hg; exact (Nat.ne_of_lt (Heap.lt_size ho)).symm
  refine callType_codes (Q₁ := fun obj s₁ => obj = .ref s.heap.objs.size ∧ s₁ = { s with heap := s.heap.push { cls := .type "list", data := .seq #[] } }) PySem.F.called_list (PySem.F.typeCall_list_1 _) PySem.F.entry_list_init
    (code_list_new _ ⟨rfl, rfl⟩) fun obj s₁ h₁ => ?_
  obtain ⟨rfl, rfl⟩ := h₁
  have hS : (s.heap.push { cls := .type "list", data := .seq #[] }).get? s.heap.objs.size = some { cls := .type "list", data := .seq #[] } := Heap.get?_push_size _ rfl
  refine ⟨⟨_, hS, rfl⟩, PySem.F.args_list_init_2 _ _, ?_⟩
  generalize hD : s.heap.objs.size = D at *
  show wpAny _ _ (do let old ← Builtin.List.listItems (.ref D); Builtin.List.listUpdate (.ref D) (fun _ => #[]); letGo old.toList.reverse; Builtin.List.listExtendWith (.ref D) (.ref I) .none) _ _ _
  refine wpAny_bind ?_
  unfold Builtin.List.listItems
  refine wpAny_bind (wpAny_seqItems hS rfl (wpAny_pure ?_))
  show wpAny _ _ (updateSeq D (fun _ => #[]) >>= fun _ => letGo (#[] : Array PySem.Value).toList.reverse >>= fun _ => Builtin.List.listExtendWith (.ref D) (.ref I) .none) _ _ _
  refine wpAny_bind (wpAny_updateSeq hS rfl ?_)
  have hS₂ := Heap.get?_update_self (Obj.mapSeq (fun _ => (#[] : Array PySem.Value))) hS rfl
  have oth : ∀ u o, u ≠ D → s.heap.get? u = some o → ((s.heap.push { cls := .type "list", data := .seq #[] }).update D (Obj.mapSeq (fun _ => (#[] : Array PySem.Value)))).get? u = some o :=
    fun u o hb e => (Heap.get?_update_other _ _ (Ne.symm hb)).trans (Heap.get?_push_of_some _ e)
  have S₂ : Sat (κ.put D (listOf #[] 0)) R ((s.heap.push { cls := .type "list", data := .seq #[] }).update D (Obj.mapSeq (fun _ => (#[] : Array PySem.Value)))) := by
    refine ⟨fun u o e => ?_, fun u o e => oth u o (PM.ne_of fr.2 e) (St.r _ _ e), fun u o e => ?_⟩
    · by_cases q : u = D
      · subst q; rw [PM.put_self] at e; cases e; exact hS₂
      · rw [PM.put_ne _ _ q] at e; exact oth u o q (St.k _ _ e)
    · by_cases q : u = D
      · subst q; exact fr.2
      · rw [PM.put_ne _ _ q] at e; exact St.d _ _ e
  refine wpAny_bind (wpAny_letGo ?_)
  have hg2 : ((s.heap.push { cls := .type "list", data := .seq #[] }).update D (Obj.mapSeq (fun _ => (#[] : Array PySem.Value)))).IsGen I g := by
    obtain ⟨o, nm, qn, ho, r⟩ := hg
    exact ⟨o, nm, qn, oth _ _ (Ne.symm hSI) ho, r⟩
  exact extend_gen (A := A.in1) (RR := fun r s' => match r with | .ok (.ret v) => v = .none ∧ Q (.ref D) s' | .ok _ => False | .error e => E e s') T hn .none (fun κ' s' acc c h1 h2 h4 h5 h6 h7 => ⟨rfl, hQ D κ' s' acc c rfl h1 h2 fr.1 h4 h5 h6 h7⟩) hg2 S₂ (PM.put_self ..) hSI (F.trans .of) (T.stab _ _ _ _ g0)
end
end Mine
end
section
open PySem PySem.W PySem.Calls PyProof.Rows PySem.SeqAt
set_option maxRecDepth 100000
set_option maxHeartbeats 1000000
set_option linter.unusedVariables false
namespace Mine
theorem next_gen {prog : Program} {w : World} {A : Around} {E : PySem.Value → Shared → Prop} {s : Shared} {a : Addr} {g n : Nat} {gs : GenState} {P : Nat → Shared → Shared → Prop} {Y : Protocol} {Q : Option PySem.Value → Shared → Prop} (hh : A.handled = none)
    (hl : s.heap.NoLimit) (hroom : A.depth < recursionLimit) (hg : s.heap.IsGen a g) (hgs : s.gens[g]? = some gs)
    (hgo : gs.Goes (model prog w) A.in1 (fun n s₀ r s₁ => r = .ok (.ret .none) ∧ P n s₀ s₁) Y n (.send .none) (s.setGen g .running))
    (hY : ∀ v s₁ gs', gs'.bare = true → Y (n - 1) (s.setGen g .running) v s₁ (fun r' s'' => match n with
        | 0 => False
        | m + 1 => gs'.Goes (model prog w) A.in1 (fun n s₀ r s₁ => r = .ok (.ret .none) ∧ P n s₀ s₁) Y m r' s'') → Q (some v) (s₁.setGen g gs'))
    (hP : ∀ s₁, P n (s.setGen g .running) s₁ → ∀ h', (∀ b o, s₁.heap.get? b = some o → h'.get? b = some o) → Q none { s₁.setGen g .finished with heap := h' }) :
    wpAny (model prog w) A (pyNext (.ref a)) Q E s := by
  unfold pyNext
  refine wpAny_bind (wpAny_attempt (wpAny_callSpecial?_slot (name := Str.ofString "__next__") hg.typeIs slot_gen_next
    (wpAny_call_entry slot_gen_next hg.typeIs entry_gen_next ?_ (args_gen_next _))))
  show wpAny _ _ (Builtin.Generator.genWake (.ref a) (.send .none)) _ _ s
  unfold Builtin.Generator.genWake
  refine wpAny_bind (wpAny_holding (wpAny_genNumber hg (wpAny_bind (wpAny_genState hgs ?_))))
  cases gs with
  | running => exact hgo.elim
  | finished => exact hgo.elim
  | _ =>
    refine wpAny_bind (wpAny_roomToWake hl hroom ?_)
    show wpAny _ _ (.resume g (.send .none) [] _) _ _ s
    refine wpAny_resumeQ hgs hgo (fun x s₁ hx => ?_) (fun v s₁ gs' hb hv => ?_)
    · obtain ⟨rfl, hp⟩ := hx
      show wpAny _ _ (newExc (.type "StopIteration") [] >>= _) _ _ _
      refine wpAny_bind ?_
      simp only [newExc, newTuple]
      refine wpAny_bind (wpAny_newObj_type ?_ (by size_fits))
      refine wpAny_bind (m := firstArgMember _ _) (wpAny_of_eq (a := PySem.Value.none) (by first | rfl | (simp only [firstArgMember]; rfl)) ?_)
      refine wpAny_newObj_type ?_ (by size_fits)
      simp only [raiseNew]
      refine wpAny_bind (wpAny_bind (wpAny_handled ?_))
      rw [show A.in1.handled = none from hh]
      refine wpAny_throw ?_
      refine wpAny_bind (wpAny_isInstance (T := "StopIteration") (b := true) ⟨_, Heap.get?_push_size _ rfl, rfl⟩ isSubtype_stop ?_)
      exact wpAny_pure (hP s₁ hp _ fun b o hb => Heap.get?_push_of_some _ (Heap.get?_push_of_some _ hb))
    · exact wpAny_pure ⟨v, rfl, wpAny_pure (hY v s₁ gs' hb hv)⟩

section
variable (W : Wd) (A : Around) (s₀ : Shared) (R κ₀ : PM) (S I g n : Nat) (P : Nat → PySem.Value → Prop) (J : PM → Prop)
/-- the memory between two turns -/
structure Bt (κ : PM) (s : Shared) : Prop where
  sat : Sat κ R s.heap
  le : κ₀.le κ
  fwd : Fwd s₀ s
  run : s.gens[g]? = some .running
def YP : Protocol := fun m s₁ v s₂ kap => m < n ∧ P (n - 1 - m) v ∧ ∃ κ', Bt s₀ R κ₀ g κ' s₂ ∧ κ' S = s₁.heap.get? S ∧ (∃ o nm qn, κ' I = some o ∧ o.cls = .type "generator" ∧ o.data = .fields #[.int g 0, nm, qn] ∧ o.slots = #[]) ∧ ∀ o s₃, Bt s₀ R κ₀ g (κ'.put S o) s₃ → kap (.send .none) s₃
def EP : Nat → Shared → Shared → Prop := fun m s₁ s₂ => m = 0 ∧ ∃ κ', Bt s₀ R κ₀ g κ' s₂ ∧ κ' S = s₁.heap.get? S ∧ J κ'
abbrev EG : GenEnd := fun m s₁ r s₂ => r = .ok (.ret .none) ∧ EP s₀ R κ₀ S g J m s₁ s₂
/-- what holds before the i-th next -/
def GG (i : Nat) (κ : PM) (gens : Array GenState) : Prop :=
  κ₀.le κ ∧ ((i = n + 1 ∧ J κ) ∨ (i ≤ n ∧ (∃ o nm qn, κ I = some o ∧ o.cls = .type "generator" ∧ o.data = .fields #[.int g 0, nm, qn] ∧ o.slots = #[]) ∧ ∃ gs, gens[g]? = some gs ∧ ∀ o s, Bt s₀ R κ₀ g (κ.put S o) s → gs.Goes W.M A.in1 (EG s₀ R κ₀ S g J) (YP s₀ R κ₀ S I g n P) (n - i) (.send .none) s))
end
theorem Fwd.setGen {s₀ s : Shared} {g : Nat} {x : GenState} (F : Fwd s₀ s) (hg : s₀.gens.size ≤ g) (hx : x.bare = true) : Fwd s₀ (s.setGen g x) := by
  refine ⟨F.os, by show _ ≤ (s.gens.setIfInBounds g x).size; rw [Array.size_setIfInBounds]; exact F.gsz, fun i hi => ?_, fun z => ?_⟩
  · show (s.gens.setIfInBounds g x)[i]? = _
    rw [Array.getElem?_setIfInBounds_ne (by omega)]
    exact F.gold i hi
  · intro y hy
    have := F.bare z
    have hy' : y ∈ s.gens.setIfInBounds g x := hy
    rcases Array.mem_or_eq_of_mem_setIfInBounds hy' with h | h
    · exact this y h
    · rw [h]; exact hx
theorem gen_it {W : Wd} {A : Around} {s₀ : Shared} {R κ₀ : PM} {S I g n k : Nat} {P : Nat → PySem.Value → Prop} (a : AOk A (k + 1)) (b : W.kB.le R) (hgs : s₀.gens.size ≤ g) (hSI : S ≠ I) (hS0 : κ₀ S = none) {J : PM → Prop} (hJ : ∀ κ o, J κ → J (κ.put S o)) : It W A s₀ R S I n P (GG W A s₀ R κ₀ S I g n P J) := by
  have keepI : ∀ {κ : PM} {h : Heap}, (∃ o nm qn, κ I = some o ∧ o.cls = .type "generator" ∧ o.data = .fields #[.int g 0, nm, qn] ∧ o.slots = #[]) → Sat κ R h → h.IsGen I g := fun ⟨o, nm, qn, h1, h2⟩ St => ⟨o, nm, qn, St.k _ _ h1, h2⟩
  have putself : ∀ {κ : PM} {o : Obj}, κ S = some o → κ.put S o = κ := fun {κ o} e => by
    funext u; unfold PM.put; split
    · rename_i q; rw [q, e]
    · rfl
  have setrun : ∀ {s : Shared} {gs : GenState}, s.gens[g]? = some gs → (s.setGen g .running).gens[g]? = some .running := fun {s gs} e => by
    show (s.gens.setIfInBounds g .running)[g]? = _
    rw [Array.getElem?_setIfInBounds_self_of_lt (Array.getElem?_eq_some_iff.mp e).1]
  refine ⟨fun i κ s hi hSo St hG F => ?_, fun κ s hSo St hG F => ?_, fun i κ gens o hG => ?_⟩
  · obtain ⟨hκ, hG⟩ := hG
    obtain ⟨oS, hS⟩ := hSo
    rcases hG with e | ⟨hle, hI, gs, hgs', hgo⟩
    · have := e.1; omega
    have bt : Bt s₀ R κ₀ g (κ.put S oS) (s.setGen g .running) := ⟨by rw [putself hS]; exact St, by rw [putself hS]; exact hκ, F.setGen hgs rfl, setrun hgs'⟩
    refine next_gen a.hh (W.lim b St) a.room (keepI hI St) hgs' (hgo oS _ bt) (fun v s₁ gs' hb hy => ?_) fun s₁ hp h' hk => ?_
    · obtain ⟨hm, hv, κ', B', e1, hI', hkap⟩ := hy
      have hlt : g < s₁.gens.size := (Array.getElem?_eq_some_iff.mp B'.run).1
      have eS : κ' S = κ S := by rw [e1, hS]; exact St.k _ _ hS
      refine ⟨v, κ', rfl, ?_, B'.sat, B'.fwd.setGen hgs hb, ⟨B'.le, .inr ⟨by omega, hI', gs', ?_, fun o s₃ B₃ => ?_⟩⟩, eS⟩
      · have : n - 1 - (n - i - 1) = i := by omega
        rwa [this] at hv
      · show (s₁.gens.setIfInBounds g gs')[g]? = _
        rw [Array.getElem?_setIfInBounds_self_of_lt hlt]
      · have := hkap o s₃ B₃
        have e2 : n - i = (n - (i + 1)) + 1 := by omega
        rw [e2] at this
        exact this
    · have := hp.1; omega
  · obtain ⟨hκ, hG⟩ := hG
    obtain ⟨oS, hS⟩ := hSo
    rcases hG with e | ⟨hle, hI, gs, hgs', hgo⟩
    · have := e.1; omega
    have bt : Bt s₀ R κ₀ g (κ.put S oS) (s.setGen g .running) := ⟨by rw [putself hS]; exact St, by rw [putself hS]; exact hκ, F.setGen hgs rfl, setrun hgs'⟩
    refine next_gen a.hh (W.lim b St) a.room (keepI hI St) hgs' (hgo oS _ bt) (fun v s₁ gs' hb hy => ?_) fun s₁ hp h' hk => ?_
    · exfalso
      obtain ⟨hm, hv, κ', B', e1, hI', hkap⟩ := hy
      have eS : κ' S = some oS := by rw [e1]; exact St.k _ _ hS
      have := hkap oS s₁ (by rw [putself eS]; exact B')
      rw [show n - n = 0 by omega] at this
      exact this
    · obtain ⟨_, κ', B', e1, hj⟩ := hp
      have eS : κ' S = κ S := by rw [e1, hS]; exact St.k _ _ hS
      refine ⟨rfl, κ', B'.sat.more hk, (B'.fwd.setGen (x := .finished) hgs rfl).trans .of, ⟨B'.le, .inl ⟨rfl, hj⟩⟩, eS⟩
  · obtain ⟨hκ, hG⟩ := hG
    have hκ' : κ₀.le (κ.put S o) := fun u ou e => by rw [PM.put_ne _ _ (fun q => by subst q; rw [hS0] at e; cases e)]; exact hκ _ _ e
    refine ⟨hκ', ?_⟩
    rcases hG with e | ⟨hle, ⟨oI, nm, qn, h1, h2⟩, gs, hgs', hgo⟩
    · exact .inl ⟨e.1, hJ _ _ e.2⟩
    refine .inr ⟨hle, ⟨oI, nm, qn, by rw [PM.put_ne _ _ (Ne.symm hSI)]; exact h1, h2⟩, gs, hgs', fun o' s B => hgo o' s ?_⟩
    have : (κ.put S o).put S o' = κ.put S o' := by
      funext u; unfold PM.put; split <;> rfl
    rwa [this] at B
end Mine
end
section
open PySem PySem.W PySem.Calls PyProof.Rows PySem.SeqAt
set_option maxRecDepth 100000
set_option maxHeartbeats 1000000
set_option linter.unusedVariables false
namespace Mine
theorem Sat.join {κ φ R : PM} {h : Heap} (S : Sat κ (un φ R) h) (d : Dj φ R) : Sat (un φ κ) R h := by
  refine ⟨fun b o e => ?_, fun b o e => S.r _ _ (un_le d _ _ e), fun b o e => ?_⟩
  · cases q : φ b with
    | some o2 => rw [un_left q] at e; cases e; exact S.r _ _ (un_left q)
    | none => rw [un_right q] at e; exact S.k _ _ e
  · cases q : φ b with
    | some o2 => exact d _ _ q
    | none =>
      rw [un_right q] at e
      have := S.d _ _ e
      rwa [un_right q] at this
theorem Sat.part {κ φ R : PM} {h : Heap} (S : Sat (un φ κ) R h) (dk : ∀ b o, φ b = some o → κ b = none) : Sat κ (un φ R) h := by
  have hk : ∀ b o, κ b = some o → φ b = none := fun b o e => by
    cases q : φ b with
    | none => rfl
    | some o2 => rw [dk _ _ q] at e; cases e
  refine ⟨fun b o e => S.k _ _ (by rw [un_right (hk _ _ e)]; exact e), fun b o e => ?_, fun b o e => ?_⟩
  · cases q : φ b with
    | some o2 => rw [un_left q] at e; cases e; exact S.k _ _ (un_left q)
    | none => rw [un_right q] at e; exact S.r _ _ e
  · rw [un_right (hk _ _ e)]
    exact S.d b o (by rw [un_right (hk _ _ e)]; exact e)
theorem Sat.off {κ φ R : PM} {h : Heap} (S : Sat κ (un φ R) h) {b : Addr} {o : Obj} (e : κ b = some o) : φ b = none := by
  cases q : φ b with
  | none => rfl
  | some o2 => have := S.d _ _ e; rw [un_left q] at this; cases this
section
variable (W : Wd) (A : Around) (s₀ : Shared) (R κ₀ : PM) (S I g n : Nat) (P : Nat → PySem.Value → Prop) (J : PM → Prop)
def IsG (κ : PM) : Prop := ∃ o nm qn, κ I = some o ∧ o.cls = .type "generator" ∧ o.data = .fields #[.int g 0, nm, qn] ∧ o.slots = #[]
/-- a piece of the generator's run -/
def SW (m : Nat) (c : Code) (t : Sem Fin) (fs : List Frame) (env : Env) (ρ : Loc) (κ : PM) : Prop :=
  ∀ (φ : PM) (sr s : Shared), Dj φ R → FrameW env ρ φ → Sat κ (un φ R) s.heap → Fwd s₀ s → s.gens[g]? = some .running → κ₀.le κ → IsG I g κ → (∃ o, κ S = some o ∧ sr.heap.get? S = some o) → Seg W.M A.in1 (EG s₀ R κ₀ S g J) (YP s₀ R κ₀ S I g n P) m sr c t fs s
end
section
variable {W : Wd} {A : Around} {s₀ : Shared} {R κ₀ : PM} {S I g n m : Nat} {P : Nat → PySem.Value → Prop} {J : PM → Prop} {c : Code} {fs : List Frame} {env : Env} {ρ : Loc} {κ : PM} {K : Flow → Sem Fin} {H : PySem.Value → Sem Fin} {gd : Bool → Bool} {lv : List PySem.Value → List PySem.Value}
theorem run_keep {s s' : Shared} (h : s.gens[g]? = some .running) (F : Fwd s s') : s'.gens[g]? = some .running := by
  rw [F.gold g (Array.getElem?_eq_some_iff.mp h).1]; exact h
theorem IsG.eq {κ κ' : PM} (h : IsG I g κ) (e : κ' I = κ I) : IsG I g κ' := let ⟨o, a, b, h1, h2⟩ := h; ⟨o, a, b, e.trans h1, h2⟩
/-- a statement that does not yield -/
theorem sw_stmt {st : Stmt} {r : List Stmt} (b : W.kB.le R) (h : WS W (A.in1.over c fs) env ρ (exec st env) κ fun fl ρ' κ' => fl = .next ∧ κ₀.le κ' ∧ κ' I = κ I ∧ κ' S = κ S ∧ SW W A s₀ R κ₀ S I g n P J m c ((execs r env).wrap K H gd lv) fs env ρ' κ') :
    SW W A s₀ R κ₀ S I g n P J m c ((execs (st :: r) env).wrap K H gd lv) fs env ρ κ := fun φ sr s d f St F hr hle hI hS => by
  refine seg_execs_cons (seg_wrap (h.seq b d f St fun fl κ' ρ' φ' s' d' f' S' F' q => ?_))
  obtain ⟨rfl, hle', e1, e2, q⟩ := q
  obtain ⟨o, h1, h2⟩ := hS
  exact q φ' sr s' d' f' S' (F.trans F') (run_keep hr F') hle' (hI.eq e1) ⟨o, e2.trans h1, h2⟩
/-- yield e -/
theorem sw_yield {e : Expr} {r : List Stmt} {yp p : Pos} (b : W.kB.le R) (hfs : splitAtGen fs = none) (hgd : gd false = false) (hfg : fs.any Frame.guarded = false) (hSI : S ≠ I) (hS0 : κ₀ S = none)
    (h : WE W (A.in1.over c fs) env ρ e κ fun v κ' => κ₀.le κ' ∧ κ' I = κ I ∧ κ' S = κ S ∧ m < n ∧ P (n - 1 - m) v ∧ ∀ o, SW W A s₀ R κ₀ S I g n P J m c ((execs r env).wrap K H gd lv) fs env ρ (κ'.put S o)) (hco : env.scope.isCoroutine = false := by rfl) (hi : interactive env = false := by rfl) :
    SW W A s₀ R κ₀ S I g n P J (m + 1) c ((execs (.Expr (.Yield (some e) yp) p :: r) env).wrap K H gd lv) fs env ρ κ := fun φ sr s d f St F hr hle hI hS => by
  refine seg_execs_cons (seg_Expr_Yield hfs hgd hfg (h.seqS b d f St fun v κ' s' S' F' q => ?_) hco hi)
  obtain ⟨hle', e1, e2, hm, hv, q⟩ := q
  intro kap hkap
  obtain ⟨o, h1, h2⟩ := hS
  have hS' : κ' S = some o := e2.trans h1
  have hI' := hI.eq (κ' := κ') e1
  obtain ⟨oI, nm, qn, g1, g2⟩ := hI'
  have pS := S'.off hS'
  have pI := S'.off g1
  refine ⟨hm, hv, un φ κ', ⟨S'.join d, fun u ou e => by rw [un_right (S'.off (hle' _ _ e))]; exact hle' _ _ e, F.trans F', run_keep hr F'⟩, by rw [un_right pS, hS']; exact h2.symm, ⟨oI, nm, qn, by rw [un_right pI]; exact g1, g2⟩, fun o' s₃ B => hkap .none s₃ ?_⟩
  have e3 : (un φ κ').put S o' = un φ (κ'.put S o') := by
    funext u; unfold un PM.put
    by_cases q : u = S
    · subst q; simp [pS]
    · simp [q]
  have B' := B.sat
  rw [e3] at B'
  have dk : ∀ b o, φ b = some o → (κ'.put S o') b = none := fun u ou e => by
    have : u ≠ S := fun q => by subst q; rw [pS] at e; cases e
    rw [PM.put_ne _ _ this]
    cases q : κ' u with
    | none => rfl
    | some o2 => have := S'.off q; rw [this] at e; cases e
  refine q o' φ s₃ s₃ d f (B'.part dk) B.fwd B.run (fun u ou e => by rw [PM.put_ne _ _ (fun q => by subst q; rw [hS0] at e; cases e)]; exact hle' _ _ e) ⟨oI, nm, qn, by rw [PM.put_ne _ _ (Ne.symm hSI)]; exact g1, g2⟩ ⟨o', PM.put_self .., ?_⟩
  exact B'.k S o' (by rw [un_right pS]; exact PM.put_self ..)
theorem sw_nil (h : SW W A s₀ R κ₀ S I g n P J m c (K .next) fs env ρ κ) : SW W A s₀ R κ₀ S I g n P J m c ((execs [] env).wrap K H gd lv) fs env ρ κ := fun φ sr s d f St F hr hle hI hS => seg_execs_nil (h φ sr s d f St F hr hle hI hS)
theorem sw_end (hJ : ∀ φ : PM, (∀ u o, κ u = some o → φ u = none) → J (un φ κ)) : SW W A s₀ R κ₀ S I g n P J 0 c (.pure (.done (.ret .none))) [] env ρ κ := fun φ sr s d f St F hr hle hI hS => by
  obtain ⟨o, h1, h2⟩ := hS
  refine seg_end (.ok (.ret .none)) ⟨rfl, rfl, un φ κ, ⟨St.join d, fun u ou e => by rw [un_right (St.off (hle _ _ e))]; exact hle _ _ e, F, hr⟩, ?_, hJ φ fun u o e => St.off e⟩
  rw [un_right (St.off h1), h1]; exact h2.symm
theorem sw_func {body : List Stmt} (h : SW W A s₀ R κ₀ S I g n P J m (.func body env) ((execs body env).wrap (fun f => .pure (.done (.ret (match f with | .ret v => v | _ => .none)))) (fun e => (leaving env e).wrap (fun _ => .raise e) .raise id id) id id) fs env ρ κ) :
    SW W A s₀ R κ₀ S I g n P J m (.func body env) (W.M.den (.func body env)) fs env ρ κ := fun φ sr s d f St F hr hle hI hS => seg_func (h φ sr s d f St F hr hle hI hS)
theorem sw_again {c' : Code} (hq : c'.quiet = true) (h : SW W A s₀ R κ₀ S I g n P J m c' (W.M.den c') fs env ρ κ) : SW W A s₀ R κ₀ S I g n P J m c (.pure (.again c')) fs env ρ κ := fun φ sr s d f St F hr hle hI hS => seg_again hq (h φ sr s d f St F hr hle hI hS)
theorem sw_loop {test : Expr} {body : List Stmt} (b : W.kB.le R) (h : WT W (A.in1.over (.whileLoop test body [] env) fs) env ρ test κ fun bb κ' => κ₀.le κ' ∧ κ' I = κ I ∧ κ' S = κ S ∧
      if bb = true then SW W A s₀ R κ₀ S I g n P J m (.whileLoop test body [] env) ((execs body env).wrap (fun f => match f with
            | .next | .cont => .pure (.again (.whileLoop test body [] env))
            | .brk => .pure (.done .next)
            | .ret v => .pure (.done (.ret v))) (fun e => (do noteFrame e env; theTreesLotGoes e : Sem Unit).wrap (fun _ => .raise e) .raise id id) id id) fs env ρ κ'
      else SW W A s₀ R κ₀ S I g n P J m (.whileLoop test body [] env) (.pure (.done .next)) fs env ρ κ') : SW W A s₀ R κ₀ S I g n P J m (.whileLoop test body [] env) (W.M.den (.whileLoop test body [] env)) fs env ρ κ := fun φ sr s d f St F hr hle hI hS => by
  refine seg_whileLoop (h.seqS b d f St fun bb κ' s' S' F' q => ?_)
  obtain ⟨hle', e1, e2, q⟩ := q
  obtain ⟨o, h1, h2⟩ := hS
  have hS' : ∃ o, κ' S = some o ∧ sr.heap.get? S = some o := ⟨o, e2.trans h1, h2⟩
  cases bb with
  | true =>
    rw [if_pos rfl] at q ⊢
    exact q φ sr s' d f S' (F.trans F') (run_keep hr F') hle' (hI.eq e1) hS'
  | false =>
    rw [if_neg Bool.false_ne_true] at q ⊢
    exact seg_execs_nil (q φ sr s' d f S' (F.trans F') (run_keep hr F') hle' (hI.eq e1) hS')
theorem sw_while {test : Expr} {body r : List Stmt} {pos : Pos} (h : ∀ p, SW W A s₀ R κ₀ S I g n P J m (.whileLoop test body [] env) (W.M.den (.whileLoop test body [] env))
      (.ret (fun r' => ((match r' with | .ok f => (.pure f : Sem Flow) | .error e => .raise e).onRaise fun (x : PySem.Value) => do
        if (← field x 1) == PySem.Value.none then unsupported "frame.own-activation:exception-without-traceback"
        setFlight x env.frame).wrap (fun (f : Flow) => match f with | Flow.next => (execs r env).wrap K H gd lv | f => K f) H gd lv) none (gd false) (lv []) c p [] :: fs) env ρ κ) :
    SW W A s₀ R κ₀ S I g n P J m c ((execs (.While test body [] pos :: r) env).wrap K H gd lv) fs env ρ κ := fun φ sr s d f St F hr hle hI hS =>
  seg_execs_cons (seg_While fun p => h p φ sr s d f St F hr hle hI hS)
theorem sw_out {r : List Stmt} {c' : Code} {p : Pos} (h : SW W A s₀ R κ₀ S I g n P J m c ((execs r env).wrap K H gd lv) fs env ρ κ) : SW W A s₀ R κ₀ S I g n P J m c' (.pure (.done .next))
      (.ret (fun r' => ((match r' with | .ok f => (.pure f : Sem Flow) | .error e => .raise e).onRaise fun (x : PySem.Value) => do
        if (← field x 1) == PySem.Value.none then unsupported "frame.own-activation:exception-without-traceback"
        setFlight x env.frame).wrap (fun (f : Flow) => match f with | Flow.next => (execs r env).wrap K H gd lv | f => K f) H gd lv) none (gd false) (lv []) c p [] :: fs) env ρ κ := fun φ sr s d f St F hr hle hI hS =>
  seg_leaf (.ok .next) (h φ sr s d f St F hr hle hI hS)
end
end Mine
end
section
open PySem PySem.W PySem.Calls PyProof.Rows PySem.SeqAt
set_option maxRecDepth 100000
set_option maxHeartbeats 1000000
set_option linter.unusedVariables false
namespace Mine
/-- what a generator's body is to be shown -/
abbrev GenBody (W : Wd) {f : Addr} (r : FnRec f) (k : Nat) (κ₀ κ : PM) (J : PM → Prop) (ρ₀ : Loc) (N : Nat) (P : Nat → PySem.Value → Prop) : Prop :=
  ∀ (A' : Around) (s₀ : Shared) (R : PM) (S I g : Nat) (L : Addr) (κ' : PM), AOk A' k → W.kB.le R → κ S = none → S ≠ I → κ.le κ' → IsG I g κ' → (∃ o, κ' S = some o) →
    SW W A' s₀ R κ₀ S I g N P J N (.func r.body (callEnv r.fd L f)) ((execs r.body (callEnv r.fd L f)).wrap (fun f => .pure (.done (.ret (match f with | .ret v => v | _ => .none)))) (fun e => (leaving (callEnv r.fd L f) e).wrap (fun _ => .raise e) .raise id id) id id) [] (callEnv r.fd L f) ρ₀ κ'
theorem we_listgen {W : Wd} {A : Around} {env : Env} {ρ : Loc} {κ : PM} {Q : PySem.Value → PM → Prop} (ix : Nat) {x meth : Str} {kx : NameKind} {a d f C : Addr} {names : List Str} {fa : Str → Option PySem.Value} {k N : Nat} {P : Nat → PySem.Value → Prop} {p1 p2 p3 p4 p5 : Pos} {pl : Sem Bool} {binds : List (Str × PySem.Value)} {ρ₀ : Loc}
    (r : FnRec f) (ao : AOk A (k + 3)) (hx : env.scope.names[ix]? = some (x, kx)) (hv : ρ[ix]? = some (some (.ref a))) (hl : env.kindOf "list" = some .globalImplicit) (gl : nsIn (KF W.w.params) mainGlobals "list" = some none)
    (i : Inst W.w.params κ C names a d fa) (mok : methOk W.w.params C meth f = true) (hn : meth ∉ names) (kf : keepIn (KF W.w.params) (.ref f) = true)
    (hb : bindArgs r.fd ⟨[.ref a], []⟩ = Pure.pure binds) (hρ : ∃ rest, r.sc.names.map (fun y => binds.reverse.lookup y.1) = ρ₀ ++ rest) (hcd : codeIn (KF W.w.params) r.cdv r.qual = true) (hcell : ∀ x ∈ r.sc.names, x.2 ≠ .cell) (hloc : ∀ x ∈ binds, r.sc.names.lookup x.1 = some .local) (hnd : (r.sc.names.map (·.1)).Nodup)
    (hN : N ≤ 1000000) {κ₀ : PM} {J : PM → Prop} (hκ₀ : κ₀.le κ) (hJ : ∀ κ' S o, κ S = none → J κ' → J (κ'.put S o)) (body : GenBody W r (k + 1) κ₀ κ J ρ₀ N P)
    (h : ∀ D (acc : List PySem.Value) c κ', κ₀.le κ' → J κ' → κ D = none → κ' D = some (listOf acc.toArray c) → acc.length = N → (∀ j v, acc[j]? = some v → P j v) → Q (.ref D) κ')
    (hd : (x == ("__debug__" : Str)) = false := by decide) (hc : (x == ("__classdict__" : Str)) = false := by decide)
    (he : eval (.Call (.Name "list" p1) [.Call (.Attribute (.Name x p2) meth p3) [] [] p4] [] p5) env = (do callWith p5 (← eval (.Name "list" p1) env) [] (backTo p5 (starEach [.Call (.Attribute (.Name x p2) meth p3) [] [] p4] env)) (backToKw p5 (keywordEach [] env))) := by rfl)
    (he2 : starEach [.Call (.Attribute (.Name x p2) meth p3) [] [] p4] env = (false, eval (.Call (.Attribute (.Name x p2) meth p3) [] [] p4) env) :: starEach [] env := by rfl)
    (he3 : eval (.Call (.Attribute (.Name x p2) meth p3) [] [] p4) env = (do let ov ← eval (.Name x p2) env; standAt p3.atName; let (f, first) ← holding [ov] (getMethod ov meth pl); callWith p4 f first (backTo p4 (starEach [] env)) []) := by rfl)
    (hco : r.sc.isCoroutine = false := by rfl) (hgen : r.sc.isGenerator = true := by rfl) (hk : r.sc.kind = .function := by rfl) :
    WE W A env ρ (.Call (.Name "list" p1) [.Call (.Attribute (.Name x p2) meth p3) [] [] p4] [] p5) κ Q := by
  intro R s b p S
  have nm : WE W A env ρ (.Name "list" p1) κ fun v κ' => v = .type "list" ∧ κ' = κ := WE.blt hl gl rfl (by decide) ⟨rfl, rfl⟩
  refine Call_ (nm.seq b p S fun v κ₁ s₁ S₁ F₁ q => ?_) he
  obtain ⟨rfl, rfl⟩ := q
  rw [he2]
  refine callWith_of (P := fun _ => True) rfl (fun _ _ => ⟨.machine, .inr (.inl rfl), Looks.of_pure rfl⟩) (evalArgs_plain ?_)
  show wpAny W.M A (spliced (backTo p5 ((false, eval (.Call (.Attribute (.Name x p2) meth p3) [] [] p4) env) :: starEach [] env))) _ _ s₁
  rw [← he2]
  refine wpAny_items_cons ?_ he2
  have nx : WE W A env ρ (.Name x p2) κ₁ fun v κ' => v = .ref a ∧ κ' = κ₁ := WE.name ix hx hv ⟨rfl, rfl⟩ hd hc
  refine MethodCall_ (nx.seq b p S₁ fun v κ₂ s₂ S₂ F₂ q => ?_) he3
  obtain ⟨rfl, rfl⟩ := q
  refine Wp.seq (i.method mok hn (pl := pl) (Q := fun fx κ' => fx = (.ref f, [.ref a]) ∧ κ' = κ₂) ⟨rfl, rfl⟩) b trivial S₂ fun fx κ₃ s₃ S₃ F₃ q => ?_
  obtain ⟨rfl, rfl⟩ := q
  refine callWith_of (P := fun g => ∃ κ', Sat κ' R g) rfl (fun g ⟨κ', S'⟩ => Callee.ref kf κ' R g b S') (evalArgs_nil3 ⟨⟨κ₃, S₃⟩, ?_⟩)
  have X := W.inK b S₃
  refine wpAny_call (codeAny_call_generator (fd := r.fd) (body := r.body) ao.room (X _ _ (r.eq _)) rfl hco hgen rfl (codeRec_of X hcd) ?_)
  show wpAny _ _ (bindArgs r.fd ⟨[.ref a], []⟩) _ _ _
  rw [hb]
  refine wpAny_pure (wpAny_newFunctionEnv hcell hloc (fun h₀ hns hsb => ?_) hk)
  obtain ⟨o, es, ep, hL, hd', hks, hf⟩ := hns
  have hsz : h₀.objs.size = s₃.heap.objs.size + 1 := by rw [hsb.1, Heap.size_push]
  have keep : ∀ u ou, s₃.heap.get? u = some ou → h₀.get? u = some ou := fun u ou e => (hsb.2 u (Nat.ne_of_lt (Heap.lt_size e))).trans (Heap.get?_push_of_some _ e)
  have hLn : s₃.heap.get? s₃.heap.objs.size = none := get_size_none _
  generalize hLe : s₃.heap.objs.size = L at *
  let φ : PM := fun b => if b = L then some o else none
  have hφ : ∀ b o', φ b = some o' → b = L ∧ o' = o := fun b o' e => by
    by_cases q : b = L
    · simp [φ, q] at e; exact ⟨q, e.symm⟩
    · simp [φ, q] at e
  have hφn : ∀ b, b ≠ L → φ b = none := fun b q => if_neg q
  have hφL : φ L = some o := if_pos rfl
  obtain ⟨dj, S4⟩ := S₃.frame (φ := φ) keep fun b o' e => by obtain ⟨rfl, rfl⟩ := hφ b o' e; exact ⟨hLn, hL⟩
  have fw : FrameW (callEnv r.fd L f) ρ₀ φ := by
    refine ⟨⟨hk, rfl, rfl⟩, hnd, fun i x k v hx hv => ?_, ⟨o, es, ep, hφL, hd', hks⟩, fun i x hx => ?_, fun x y c hc => (nomatch hc), fun x c hc => (nomatch hc)⟩
    · have hx' : r.sc.names[i]? = some (x, k) := hx
      obtain ⟨rest, hρ⟩ := hρ
      have hv := (List.getElem?_append_left (l₂ := rest) (List.getElem?_eq_some_iff.mp hv).1).trans hv
      rw [← hρ, List.getElem?_map, hx'] at hv
      simp only [Option.map_some, Option.some.injEq] at hv
      have hm : (x, v) ∈ binds := by
        have := List.lookup_eq_some_iff.mp hv
        obtain ⟨l₁, l₂, e, _⟩ := this
        exact List.mem_reverse.mp (e ▸ by simp)
      exact .inl ⟨hloc _ hm, o, hφL, es, ep, hd', hks, (hf x).trans hv⟩
    · exact absurd rfl (hcell _ (List.mem_of_getElem? hx))
  refine ⟨(W.lim b S₃).keeps keep, wpAny_items_nil ⟨trivial, ?_⟩⟩
  have hκL : κ₃ L = none := (S₃.fresh hLn).1
  have hIn : κ₃ h₀.objs.size = none := by
    have := (S4.fresh (get_size_none h₀)).1; exact this
  generalize hgo : ({ cls := .type "generator", data := .fields #[.int s₃.gens.size 0, .str r.fd.name (s₃.toks + binds.length), .str r.fd.qualname (s₃.toks + binds.length + 1)] } : Obj) = go
  have hgf : go.isFreed = false := by rw [← hgo]; rfl
  have S5 := S4.push go hgf
  have S6 := S5.join dj
  generalize hIe : h₀.objs.size = I at *
  have hIL : I ≠ L := by rw [hsz]; exact Nat.succ_ne_self _
  have l0 : κ₃.le (un φ (κ₃.put I go)) := fun u ou e => by
    rw [un_right (hφn u (PM.ne_of hκL e)), PM.put_ne _ _ (PM.ne_of hIn e)]; exact e
  have isg : IsG I s₃.gens.size (κ₃.put I go) := ⟨go, _, _, PM.put_self .., by rw [← hgo], by rw [← hgo], by rw [← hgo]⟩
  have isg' : IsG I s₃.gens.size (un φ (κ₃.put I go)) := by
    obtain ⟨o1, a1, b1, g1, g2⟩ := isg
    exact ⟨o1, a1, b1, by rw [un_right (hφn _ hIL)]; exact g1, g2⟩
  have hS5 : (h₀.push go).objs.size = I + 1 := by rw [Heap.size_push, hIe]
  have F5 : Fwd s₃ { s₃ with heap := h₀.push go, gens := s₃.gens.push (.fresh (.func r.body (callEnv r.fd L f))), toks := s₃.toks + binds.length + 1 + 1 } := by
    refine ⟨rfl, by simp, fun j hj => ?_, fun z => AllBare.push z rfl⟩
    show (s₃.gens.push _)[j]? = _
    rw [Array.getElem?_push, if_neg (Nat.ne_of_lt hj)]
  have hSI : I + 1 ≠ I := Nat.succ_ne_self _
  have hSL : I + 1 ≠ L := by rw [hsz]; omega
  have hκS : κ₃ (I + 1) = none := by
    have := S5.hole
    rw [hS5, PM.put_ne _ _ hSI] at this; exact this
  have T := gen_it (W := W) (A := A.in1.in1) (s₀ := s₃) (R := R) (κ₀ := κ₀) (S := I + 1) (I := I) (g := s₃.gens.size) (n := N) (k := k) (P := P) (AOk.in1 (n := k + 1) (AOk.in1 (n := k + 2) ao)) b (Nat.le_refl _) hSI (hκ₀.none hκS) (J := J) (fun κ' o => hJ κ' _ o hκS)
  refine list_gen (s₀ := s₃) (κ := un φ (κ₃.put I go)) (g := s₃.gens.size) (by dsimp only; rw [hS5]; exact T) hN ?_ S6 F5 ?_ ?_
  · obtain ⟨o1, a1, b1, g1, g2⟩ := isg'
    exact ⟨o1, a1, b1, S6.k _ _ g1, g2⟩
  · refine ⟨hκ₀.trans l0, .inr ⟨Nat.zero_le _, isg', .fresh (.func r.body (callEnv r.fd L f)), ?_, fun oS s B => ⟨rfl, ?_⟩⟩⟩
    · show (s₃.gens.push _)[s₃.gens.size]? = _
      simp
    · have B' := B.sat
      have e3 : (un φ (κ₃.put I go)).put (I + 1) oS = un φ ((κ₃.put I go).put (I + 1) oS) := by
        funext u; unfold un PM.put
        by_cases q : u = I + 1
        · subst q; simp [hφn _ hSL]
        · simp [q]
      rw [e3] at B'
      have B2 := B'.part (fun u ou e => by
        obtain ⟨rfl, _⟩ := hφ u ou e
        rw [PM.put_ne _ _ (Ne.symm hSL), PM.put_ne _ _ (Ne.symm hIL)]; exact hκL)
      have l2 : κ₃.le ((κ₃.put I go).put (I + 1) oS) := (PM.put_fresh hIn go).trans (PM.put_fresh (by rw [PM.put_ne _ _ hSI]; exact hκS) oS)
      have isg2 : IsG I s₃.gens.size ((κ₃.put I go).put (I + 1) oS) := isg.eq (by rw [PM.put_ne _ _ (Ne.symm hSI)])
      exact sw_func (body A.in1.in1 s₃ R (I + 1) I s₃.gens.size L _ (AOk.in1 (n := k + 1) (AOk.in1 (n := k + 2) ao)) b hκS hSI l2 isg2 ⟨oS, PM.put_self ..⟩) φ s s dj fw B2 B.fwd B.run (hκ₀.trans l2) isg2 ⟨oS, PM.put_self .., B2.k _ _ (PM.put_self ..)⟩
  · intro D κ' s' acc c hD S' h1 h2 h3 h4 F' hG
    have hκD : κ₃ D = none := by
      cases q : κ₃ D with
      | none => rfl
      | some o2 => rw [l0 _ _ q] at h2; cases h2
    have hj : J κ' := by
      rcases hG.2 with q | ⟨q, _⟩
      · exact q.2
      · exact absurd q (Nat.not_succ_le_self _)
    exact ⟨κ', S', ((F₁.trans F₂).trans F₃).trans F', h D acc c κ' hG.1 hj hκD h1 h3 h4⟩
end Mine
end
section
open PySem PySem.W PySem.Calls PyProof.Rows PySem.SeqAt
set_option maxRecDepth 100000
set_option maxHeartbeats 1000000
set_option linter.unusedVariables false
namespace Mine
theorem gList (P : Params) : nsIn (KF P) mainGlobals "list" = some none := by kernel_rfl
theorem gen356 {W : Wd} {k : Nat} {κ : PM} {a : Addr} : GenBody W rec356 k κ κ T1 [some (.ref a)] 1 (fun _ v => v = .ref a) := fun A' s₀ R S I g L κ' ao b hS hSI hle isg hs =>
  sw_yield (m := 0) b rfl rfl rfl hSI hS (WE.name 0 rfl rfl ⟨hle, rfl, rfl, Nat.zero_lt_one, rfl, fun o => sw_nil (sw_end fun _ _ => trivial)⟩)
theorem gen349 {W : Wd} {k : Nat} {κ : PM} {a : Addr} : GenBody W rec349 k κ κ T1 [some (.ref a)] 1 (fun _ v => v = .ref a) := fun A' s₀ R S I g L κ' ao b hS hSI hle isg hs =>
  sw_yield (m := 0) b rfl rfl rfl hSI hS (WE.name 0 rfl rfl ⟨hle, rfl, rfl, Nat.zero_lt_one, rfl, fun o => sw_nil (sw_end fun _ _ => trivial)⟩)
theorem gen342 {W : Wd} {k : Nat} {κ : PM} {a : Addr} : GenBody W rec342 k κ κ T1 [some (.ref a)] 1 (fun _ v => v = .ref a) := fun A' s₀ R S I g L κ' ao b hS hSI hle isg hs =>
  sw_yield (m := 0) b rfl rfl rfl hSI hS (WE.name 0 rfl rfl ⟨hle, rfl, rfl, Nat.zero_lt_one, rfl, fun o => sw_nil (sw_end fun _ _ => trivial)⟩)
end Mine
end
section
open PySem PySem.W PySem.Calls PyProof.Rows PySem.SeqAt
set_option maxRecDepth 100000
set_option maxHeartbeats 1000000
set_option linter.unusedVariables false
namespace Mine
def RevAt (κ : PM) (rv l : Addr) (i : Int) : Prop := ∃ o, κ rv = some o ∧ o.cls = .type "list_reverseiterator" ∧ o.data = .fields #[.ref l, rawInt i]
def GR (κ₀ : PM) (rv l : Addr) (xs : Array PySem.Value) (n : Nat) (i : Nat) (κ : PM) (_ : Array GenState) : Prop :=
  κ₀.le κ ∧ (i = xs.size + 1 ∨ (i ≤ xs.size ∧ RevAt κ rv l ((xs.size : Int) - 1 - (i : Int)) ∧ κ l = some (listOf xs n)))
theorem it_rev {W : Wd} {A : Around} {s₀ : Shared} {R κ₀ : PM} {S rv l n : Nat} {xs : Array PySem.Value} (hh : A.handled = none) (hSI : S ≠ rv) (hSl : S ≠ l) (hlr : l ≠ rv) (h0S : κ₀ S = none) (h0r : κ₀ rv = none) :
    It W A s₀ R S rv xs.size (fun i v => xs[xs.size - 1 - i]? = some v) (GR κ₀ rv l xs n) := by
  have Wk := Walks.listRev (prog := PW) (w := W.w) (A := A) hh rv l hlr xs
  have st : ∀ {i : Nat} {κ : PM} {h : Heap}, i ≤ xs.size → RevAt κ rv l ((xs.size : Int) - 1 - (i : Int)) → κ l = some (listOf xs n) → Sat κ R h → i ≤ xs.size ∧ h.IsRevIter rv l ((xs.size : Int) - 1 - (i : Int)) ∧ h.IsList l xs :=
    fun hi ⟨o, h1, h2⟩ hl St => ⟨hi, ⟨o, St.k _ _ h1, h2⟩, ⟨_, St.k _ _ hl, rfl, n, rfl⟩⟩
  refine ⟨fun i κ s hi hSo St hG F => ?_, fun κ s hSo St hG F => ?_, fun i κ gens o hG => ?_⟩
  · obtain ⟨hκ, hG⟩ := hG
    rcases hG with e | ⟨hle, hR, hl⟩
    · omega
    refine Wk.item i s _ _ hi (st hle hR hl St) fun v h' tk hP hst hk => ?_
    obtain ⟨o, h1, h2⟩ := hst.2.1
    have hrv : κ rv ≠ none := by obtain ⟨o', h1', _⟩ := hR; rw [h1']; simp
    refine ⟨v, κ.put rv o, rfl, hP, ⟨fun u ou e => ?_, fun u ou e => ?_, fun u ou e => ?_⟩, F.trans .of, ⟨fun u ou e => by rw [PM.put_ne _ _ (PM.ne_of h0r e)]; exact hκ _ _ e, .inr ⟨hi, ⟨o, PM.put_self .., h2⟩, by rw [PM.put_ne _ _ hlr]; exact hl⟩⟩, by rw [PM.put_ne _ _ hSI]⟩
    · by_cases q : u = rv
      · subst q; rw [PM.put_self] at e; cases e; exact h1
      · rw [PM.put_ne _ _ q] at e; exact hk u ou (by simpa using q) (St.k _ _ e)
    · have : u ≠ rv := fun q => by
        subst q
        obtain ⟨o', h1', _⟩ := hR
        rw [St.d _ _ h1'] at e; cases e
      exact hk u ou (by simpa using this) (St.r _ _ e)
    · by_cases q : u = rv
      · subst q; obtain ⟨o', h1', _⟩ := hR; exact St.d _ _ h1'
      · rw [PM.put_ne _ _ q] at e; exact St.d _ _ e
  · obtain ⟨hκ, hG⟩ := hG
    rcases hG with e | ⟨hle, hR, hl⟩
    · omega
    refine Wk.done s _ _ (st hle hR hl St) fun h' tk hk => ?_
    refine ⟨rfl, fun u => if u = rv then none else κ u, ⟨fun u ou e => ?_, fun u ou e => ?_, fun u ou e => ?_⟩, F.trans .of, ⟨fun u ou e => (if_neg (PM.ne_of h0r e)).trans (hκ _ _ e), .inl rfl⟩, if_neg hSI⟩
    · have e : (if u = rv then none else κ u) = some ou := e
      by_cases q : u = rv
      · simp [q] at e
      · rw [if_neg q] at e; exact hk u ou (by simpa using q) (St.k _ _ e)
    · have : u ≠ rv := fun q => by
        subst q
        obtain ⟨o', h1', _⟩ := hR
        rw [St.d _ _ h1'] at e; cases e
      exact hk u ou (by simpa using this) (St.r _ _ e)
    · have e : (if u = rv then none else κ u) = some ou := e
      by_cases q : u = rv
      · simp [q] at e
      · rw [if_neg q] at e; exact St.d _ _ e
  · obtain ⟨hκ, hG⟩ := hG
    refine ⟨fun u ou e => by rw [PM.put_ne _ _ (PM.ne_of h0S e)]; exact hκ _ _ e, ?_⟩
    rcases hG with e | ⟨hle, ⟨o', h1, h2⟩, hl⟩
    · exact .inl e
    · exact .inr ⟨hle, ⟨o', by rw [PM.put_ne _ _ (Ne.symm hSI)]; exact h1, h2⟩, by rw [PM.put_ne _ _ (Ne.symm hSl)]; exact hl⟩
section
variable {W : Wd} {A : Around} {κ : PM} {Q : PySem.Value → PM → Prop} {l : Addr} {xs : Array PySem.Value} {n : Nat}
/-- reversed(list) -/
theorem t_reversed (hl : κ l = some (listOf xs n)) (h : ∀ rv, κ rv = none → Q (.ref rv) (κ.put rv (revObj l ((xs.size : Int) - 1)))) : Wp W A T1 (PySem.call (.type "reversed") [.ref l]) κ Q := fun R s b _ S =>
  call_reversed_list ⟨_, S.k _ _ hl, rfl, n, rfl⟩ ⟨_, S.push _ rfl, .of, h _ S.hole⟩
end
end Mine
end
section
open PySem PySem.W PySem.Calls PyProof.Rows PySem.SeqAt
set_option maxRecDepth 100000
set_option maxHeartbeats 1000000
set_option linter.unusedVariables false
namespace Mine
theorem lri_no_len : typeLookup (.type "list_reverseiterator") "__len__" = Pure.pure none := by rw [typeLookup_type, builtinLookup_eq_fast]; kernel_rfl
theorem lri_hint : typeLookup (.type "list_reverseiterator") "__length_hint__" = Pure.pure (some (.builtin "list_reverseiterator.__length_hint__")) := by rw [typeLookup_type, builtinLookup_eq_fast]; kernel_rfl
theorem lri_sub : isSubtype (.type "list_reverseiterator") (.type "list_reverseiterator") = Pure.pure true := by rw [isSubtype_type]; kernel_rfl
section
variable {W : Wd} {A : Around} {s₀ : Shared} {n l rv : Nat} {xs : Array PySem.Value} {κ₀ R κ : PM} {S : Addr}
theorem extend_rev (hh : A.handled = none) (pre : List PySem.Value) (hz : pre.length + xs.size ≤ 1000000) (res : PySem.Value) {RR : Result → Shared → Prop} {s : Shared} {c : Nat} (hSI : S ≠ rv) (hSl : S ≠ l) (hlr : l ≠ rv) (h0S : κ₀ S = none) (h0r : κ₀ rv = none)
    (fin : ∀ κ s c, Sat κ R s.heap → κ S = some (listOf (pre ++ xs.toList.reverse).toArray c) → Fwd s₀ s → κ₀.le κ → RR (.ok (.ret res)) s)
    (hle : κ₀.le κ) (hrv : RevAt κ rv l ((xs.size : Int) - 1)) (hl : κ l = some (listOf xs n)) (St : Sat κ R s.heap) (hS0 : κ S = some (listOf pre.toArray c)) (F : Fwd s₀ s) :
    wpAny W.M A.in1 (Builtin.List.listExtendWith (.ref S) (.ref rv) res) (fun fin s' => match fin with | .done f => RR (.ok f) s' | .again c' => c'.quiet = true ∧ codeAny W.M A c' RR s') (fun e s' => RR (.error e) s') s := by
  have hS := St.k _ _ hS0
  have hit : s.heap.IsRevIter rv l ((xs.size : Int) - 1) := let ⟨o, h1, h2⟩ := hrv; ⟨o, St.k _ _ h1, h2⟩
  unfold Builtin.List.listExtendWith
  refine wpAny_bind (wpAny_typeOf hit.typeIs ?_)
  have h1 : Builtin.List.listSameRef (.ref S) (.ref rv) = false := by simp [Builtin.List.listSameRef, hSI]
  have h2 : (PySem.Value.type "list_reverseiterator" == PySem.Value.type "list") = false := by decide
  have h3 : (PySem.Value.type "list_reverseiterator" == PySem.Value.type "tuple") = false := by decide
  simp only [h1, h2, h3, Bool.or_false, Bool.false_eq_true, if_false]
  refine wpAny_bind (wpAny_pyIter_revIter hit ?_)
  refine wpAny_bind (wpAny_holding ?_)
  unfold Builtin.List.listLengthHint
  refine wpAny_bind (wpAny_specialOf hit.typeIs lri_no_len ?_)
  show wpAny _ A.in1 (specialOf (PySem.Value.ref rv) (Str.ofString "__length_hint__") >>= _) _ _ _
  refine wpAny_bind (wpAny_specialOf hit.typeIs lri_hint ?_)
  have hh' : splitId "list_reverseiterator.__length_hint__" = some ("list_reverseiterator", "__length_hint__") := by decide +kernel
  simp only [hh', Option.isSome_none, Bool.false_eq_true, if_false]
  refine wpAny_bind (wpAny_isInstance (T := "list_reverseiterator") (b := true) hit.typeIs lri_sub ?_)
  simp only [Bool.not_true, Bool.false_eq_true, if_false]
  refine wpAny_ite_split (fun _ => ?_) (fun hab => absurd (by decide +kernel) hab)
  refine wpAny_ite_split (fun hab => absurd hab (by decide)) (fun _ => wpAny_pure ?_)
  simp only [Bool.false_or]
  refine wpAny_ite_split (fun hab => absurd hab (by decide +kernel)) (fun _ => ?_)
  refine wpAny_pure ⟨plainId_quiet PySem.F.plain_extend_loop _, ?_⟩
  refine extend_loop (it_rev (κ₀ := κ₀) (n := n) (xs := xs) hh hSI hSl hlr h0S h0r) pre hz res (fun κ' s' acc c' h1 h2 h3 h4 h5 h6 => ?_) xs.size 0 κ s [] c rfl (Nat.zero_le _) St (by simpa using hS0) rfl (fun j v h => by simp at h) F ⟨hle, .inr ⟨Nat.zero_le _, by simpa using hrv, hl⟩⟩
  have e : acc = xs.toList.reverse := by
    apply List.ext_getElem?
    intro j
    by_cases hj : j < xs.size
    · obtain ⟨v, hv⟩ : ∃ v, acc[j]? = some v := ⟨acc[j]'(by omega), by simp [h3, hj]⟩
      have := h4 j v hv
      rw [hv, List.getElem?_reverse (by simpa using hj)]
      simp only [Array.length_toList]
      rw [Array.getElem?_toList, ← this]
    · rw [List.getElem?_eq_none (by omega), List.getElem?_eq_none (by simp; omega)]
  subst e
  exact fin κ' s' c' h1 h2 h5 h6.1
end
section
variable {W : Wd} {A : Around} {κ : PM} {Q : PySem.Value → PM → Prop} {l rv S n c : Nat} {xs : Array PySem.Value}
/-- all but two -/
def PM.but2 (κ : PM) (a b : Addr) : PM := fun u => if u = a ∨ u = b then none else κ u
theorem PM.but2_some {κ : PM} {a b u : Addr} {o : Obj} (h : κ u = some o) (h1 : u ≠ a) (h2 : u ≠ b) : κ.but2 a b u = some o := by
  show (if u = a ∨ u = b then none else κ u) = some o
  rw [if_neg (by rintro (q | q); exact h1 q; exact h2 q)]; exact h
/-- stack.extend(reversed(..)) -/
theorem t_extendRev (hh : A.handled = none) (pre : List PySem.Value) (hz : pre.length + xs.size ≤ 1000000) (hS : κ S = some (listOf pre.toArray c)) (hrv : κ rv = some (revObj l ((xs.size : Int) - 1))) (hl : κ l = some (listOf xs n)) (hSl : S ≠ l)
    (h : ∀ κ' c', (κ.but2 S rv).le κ' → κ' S = some (listOf (pre ++ xs.toList.reverse).toArray c') → Q .none κ') : Wp W A T1 (PySem.call (.builtin "list.extend") [.ref S, .ref rv]) κ Q := fun R s b _ St => by
  have hSI : S ≠ rv := fun q => by subst q; rw [hS] at hrv; simp [revObj] at hrv
  have hlr : l ≠ rv := fun q => by subst q; rw [hl] at hrv; simp [revObj] at hrv
  refine wpAny_call (codeAny_call_builtin F.slot_list_extend.plain F.entry_list_extend (F.slot_list_extend.check _ _ _ _ _ _ _ _ ⟨_, St.k _ _ hS, rfl⟩ (F.args_list_extend_2 _ _) ?_))
  show wpAny W.M A.in1 (Builtin.List.listExtendWith (.ref S) (.ref rv) .none) _ _ s
  refine extend_rev (A := A) (W := W) (R := R) (κ := κ) (n := n) (κ₀ := κ.but2 S rv) (s₀ := s) (RR := fun r s' => match r with | .ok (.ret v) => ∃ κ', Sat κ' R s'.heap ∧ Fwd s s' ∧ Q v κ' | .ok _ => False | .error e => False) hh pre hz .none hSI hSl hlr (if_pos (.inl rfl)) (if_pos (.inr rfl)) (fun κ' s' c' h1 h2 h3 h4 => ⟨κ', h1, h3, h κ' c' h4 h2⟩) (fun u o e => ?_) ⟨_, hrv, rfl, rfl⟩ hl St hS .of
  have e : (if u = S ∨ u = rv then none else κ u) = some o := e
  split at e
  · cases e
  · exact e
/-- stack.pop() -/
theorem t_pop {pos : Pos} {env : Env} {ρ : Loc} {v : PySem.Value} (pre : List PySem.Value) (hz : pre.length ≤ 100000) (hS : κ S = some (listOf (pre ++ [v]).toArray c)) (h : ∀ c', Q v (κ.put S (listOf pre.toArray c'))) :
    Wp W A (FrameIs env ρ) (callWith pos (.builtin "list.pop") [.ref S] (backTo pos (starEach [] env)) []) κ Q := fun R s b _ St => by
  have h1 : IsL s.heap S (pre ++ [v]).toArray c := St.k _ _ hS
  have hsz : (pre ++ [v]).toArray.size - 1 = pre.length := by simp
  refine P.pop_list h1 (y := v) (by rw [hsz]; simp) ?_ (by rw [show sizeLine = 16777216 by decide]; simp; omega)
  rw [hsz]
  have e : ((pre ++ [v]).toArray.eraseIdxIfInBounds pre.length) = pre.toArray := by
    apply Array.toList_inj.mp
    simp [Array.toList_eraseIdxIfInBounds, List.eraseIdx_append_of_length_le]
  have h2 := h1.update fun xs => xs.eraseIdxIfInBounds pre.length
  rw [e] at h2
  exact ⟨_, St.upd hS (Heap.SameBut.update ..) h2, .of, h _⟩
end
end Mine
end
section
open PySem PySem.W PySem.Calls PyProof.Rows PySem.SeqAt
set_option maxRecDepth 100000
set_option maxHeartbeats 1000000
set_option linter.unusedVariables false
namespace Mine
section
variable {W : Wd} {A : Around} {env : Env} {ρ : Loc} {κ : PM} {pos : Pos}
/-- e.pop() -/
theorem we_pop {apos : Pos} {pl : Sem Bool} {o : Expr} {Q : PySem.Value → PM → Prop} (h : WE W A env ρ o κ fun v κ₁ => ∃ S pre x c, v = .ref S ∧ κ₁ S = some (listOf (pre ++ [x]).toArray c) ∧ pre.length ≤ 100000 ∧ ∀ c', Q x (κ₁.put S (listOf pre.toArray c')))
    (he : eval (.Call (.Attribute o "pop" apos) [] [] pos) env = (do let ov ← eval o env; standAt apos.atName; let (f, first) ← holding [ov] (getMethod ov "pop" pl); callWith pos f first (backTo pos (starEach [] env)) []) := by rfl) : WE W A env ρ (.Call (.Attribute o "pop" apos) [] [] pos) κ Q :=
  WE.meth (pl := pl) (Wp.mono h fun v κ₁ q => by
    obtain ⟨S, pre, x, c, rfl, hl, hz, hq⟩ := q
    exact t_meth F.slot_list_pop (by rfl) hl (t_pop pre hz hl hq)) he
theorem over_aok {A : Around} {k : Nat} (ao : AOk A (k + 1)) (body : List Stmt) (env : Env) : AOk (A.over (.func body env) []) k := by
  refine ⟨?_, ?_, ?_⟩
  · have := ao.hh; exact this
  · have := ao.hd; show A.depth + 1 + k < 690; omega
  · have := ao.hu; show A.units + 3 + 50 * k < cLine; omega
end
end Mine
end
section
open PySem PySem.W PySem.Calls PyProof.Rows PySem.SeqAt
set_option maxRecDepth 100000
set_option maxHeartbeats 1000000
set_option linter.unusedVariables false
namespace Mine
theorem gRev (P : Params) : nsIn (KF P) mainGlobals "reversed" = some none := by kernel_rfl
theorem over_aok2 {A : Around} {k : Nat} (ao : AOk A (k + 1)) {K : Result → Sem Fin} {body b2 : List Stmt} {test : Expr} {env : Env} {p : Pos} {lv : List PySem.Value} : AOk (A.over (.whileLoop test body [] env) [.ret K none false lv (.func b2 env) p []]) k := by
  refine ⟨?_, ?_, ?_⟩
  · have := ao.hh; exact this
  · have := ao.hd; show A.depth + 1 + k < 690; omega
  · have := ao.hu; show A.units + 3 + 50 * k < cLine; omega
def whOf : List Stmt → Expr × List Stmt
  | _ :: .While t b _ _ :: _ => (t, b)
  | _ => (.Name "x" default, [])
abbrev T213 : Expr := (whOf rec213.body).1
abbrev B213 : List Stmt := (whOf rec213.body).2
theorem preL_app : ∀ a b : List Tr, Tr.preL (a ++ b) = Tr.preL a ++ Tr.preL b
  | [], b => by simp [Tr.preL]
  | t :: r, b => by simp [Tr.preL, preL_app r b]
abbrev isRef (l : List Addr) (j : Nat) (v : PySem.Value) : Prop := ∃ a, v = .ref a ∧ l[j]? = some a
theorem loop213 {W : Wd} {A' : Around} {s₀ : Shared} {R κ₀ : PM} {S I : Addr} {g N : Nat} {L : Addr} {P : Nat → PySem.Value → Prop} {J : PM → Prop} {frs : List Frame} {k : Nat} (self : PySem.Value) (b : W.kB.le R) (hS : κ₀ S = none) (hSI : S ≠ I) (h1 : splitAtGen frs = none) (h2 : frs.any Frame.guarded = false)
    (ao : AOk (A'.in1.over (.whileLoop T213 B213 [] (callEnv rec213.fd L 213)) frs) (k + 2))
    (out : ∀ ρ κ', SW W A' s₀ R κ₀ S I g N P J 0 (.whileLoop T213 B213 [] (callEnv rec213.fd L 213)) (.pure (.done .next)) frs (callEnv rec213.fd L 213) ρ κ') : ∀ (m : Nat) (ts : List Tr) (x : Option PySem.Value) (κ' : PM) (st : Addr) (c : Nat),
      (Tr.preL ts).length = m → m ≤ 1000 → (∀ j a, (Tr.preL ts)[j]? = some a → P (N - m + j) (.ref a)) → m ≤ N → (∀ t ∈ ts, ∃ q, At W.w.params κ₀ t q) → κ₀.le κ' → κ₀ st = none → st ≠ I → st ≠ S → κ' st = some (listOf ((ts.map Tr.addr).reverse.map PySem.Value.ref).toArray c) → (∃ o, κ' I = some o) → (∃ o, κ' S = some o) →
      SW W A' s₀ R κ₀ S I g N P J m (.whileLoop T213 B213 [] (callEnv rec213.fd L 213)) (W.M.den (.whileLoop T213 B213 [] (callEnv rec213.fd L 213))) frs (callEnv rec213.fd L 213) [some self, some (.ref st), x] κ' := by
  intro m
  induction m with
  | zero =>
    intro ts x κ' st c e0 hm hP hN hts hle hst hsI hsS hl hI hSS
    have : ts = [] := by
      cases ts with
      | nil => rfl
      | cons t r => cases t <;> simp [Tr.preL, Tr.pre] at e0
    subst this
    refine sw_loop b <| WT.value <| WE.name 1 rfl rfl <| t_truthyList hl (by simp) ⟨hle, rfl, rfl, ?_⟩
    exact out _ _
  | succ m ih =>
    intro ts x κ' st c e0 hm hP hN hts hle hst hsI hsS hl hI hSS
    cases ts with
    | nil => simp [Tr.preL] at e0
    | cons t r =>
      obtain ⟨q, hat⟩ := hts t (.head _)
      obtain ⟨f, l, n, i, hch, hll, _, hks⟩ := hat.kids
      have ep : Tr.preL (t :: r) = t.addr :: Tr.preL (t.kids ++ r) := by cases t <;> simp [Tr.pre, Tr.preL, Tr.addr, Tr.kids, preL_app]
      have el : ((t :: r).map Tr.addr).reverse.map PySem.Value.ref = ((r.map Tr.addr).reverse.map PySem.Value.ref) ++ [.ref t.addr] := by simp
      have em : (Tr.preL (t.kids ++ r)).length = m := by rw [ep] at e0; simpa using e0
      have hlen0 := lenL_le (t.kids ++ r)
      rw [em, List.length_append] at hlen0
      have hr : r.length ≤ m := by omega
      have hkl : t.kids.length ≤ m := by omega
      rw [el] at hl
      obtain ⟨oI, hI⟩ := hI
      obtain ⟨oS, hSS⟩ := hSS
      refine sw_loop b <| WT.value <| WE.name 1 rfl rfl <| t_truthyList hl (by simp; omega) ⟨hle, rfl, rfl, ?_⟩
      rw [if_pos (by simp)]
      refine sw_stmt b <| WS.assign 2 rfl (.inl rfl) <| we_pop <| WE.name 1 rfl rfl ⟨st, _, _, c, rfl, hl, by simp; omega, fun c' => ⟨rfl, fun u o e => by rw [PM.put_ne _ _ (fun q => by subst q; rw [hst] at e; cases e)]; exact hle _ _ e, PM.put_ne _ _ (Ne.symm hsI), PM.put_ne _ _ (Ne.symm hsS), ?_⟩⟩
      have le1 : κ₀.le (κ'.put st (listOf ((r.map Tr.addr).reverse.map PySem.Value.ref).toArray c')) := fun u o e => by rw [PM.put_ne _ _ (fun q => by subst q; rw [hst] at e; cases e)]; exact hle _ _ e
      have hl1 : (κ'.put st (listOf ((r.map Tr.addr).reverse.map PySem.Value.ref).toArray c')) st = some (listOf ((r.map Tr.addr).reverse.map PySem.Value.ref).toArray c') := PM.put_self ..
      have hI1 : (κ'.put st (listOf ((r.map Tr.addr).reverse.map PySem.Value.ref).toArray c')) I = some oI := (PM.put_ne _ _ (Ne.symm hsI)).trans hI
      have hS1 : (κ'.put st (listOf ((r.map Tr.addr).reverse.map PySem.Value.ref).toArray c')) S = some oS := (PM.put_ne _ _ (Ne.symm hsS)).trans hSS
      generalize κ'.put st (listOf ((r.map Tr.addr).reverse.map PySem.Value.ref).toArray c') = κ₁ at le1 hl1 hI1 hS1
      refine sw_yield (m := m) b h1 rfl h2 hSI hS <| WE.name 2 rfl rfl ⟨le1, rfl, rfl, by omega, by have := hP 0 t.addr (by rw [ep]; rfl); rw [show N - 1 - m = N - (m + 1) + 0 by omega]; exact this, fun o => ?_⟩
      have le2 : κ₀.le (κ₁.put S o) := fun u ou e => by rw [PM.put_ne _ _ (fun q => by subst q; rw [hS] at e; cases e)]; exact le1 _ _ e
      have hl2 := (PM.put_ne κ₁ o hsS).trans hl1
      have hI2 := (PM.put_ne κ₁ o (Ne.symm hSI)).trans hI1
      have hS2 : (κ₁.put S o) S = some o := PM.put_self ..
      generalize κ₁.put S o = κ₂ at le2 hl2 hI2 hS2
      have hlst : l ≠ st := fun q => by subst q; rw [hst] at hll; cases hll
      refine sw_stmt b <| WS.exprS <| WE.meth <| WE.name 1 rfl rfl <| t_meth F.slot_list_extend (by rfl) hl2 <| call_with .builtin <| WArgs.cons <| WE.call <| WE.blt rfl (gRev _) rfl (by decide) <| call_with .type <| WArgs.cons <| WE.attr <| WE.name 2 rfl rfl <| (i.le le2).own (own_children _ _) hch rfl <| WArgs.nil <| t_reversed (le2 _ _ hll) fun rv hrv => WArgs.nil ?_
      have nrv : ∀ {u : Addr} {o : Obj}, κ₂ u = some o → u ≠ rv := fun e q => by subst q; rw [hrv] at e; cases e
      refine t_extendRev ao.hh ((r.map Tr.addr).reverse.map PySem.Value.ref) (by simp; omega) ((PM.put_ne _ _ (nrv hl2)).trans hl2) (PM.put_self ..) ((PM.put_ne _ _ (nrv (le2 _ _ hll))).trans (le2 _ _ hll)) (Ne.symm hlst) fun κ₃ c3 le3 hl3 => ?_
      have keep : ∀ u o, κ₂ u = some o → u ≠ st → κ₃ u = some o := fun u o e q => le3 _ _ (PM.but2_some ((PM.put_ne _ _ (nrv e)).trans e) q (nrv e))
      have le4 : κ₀.le κ₃ := fun u o e => keep _ _ (le2 _ _ e) (fun q => by subst q; rw [hst] at e; cases e)
      refine ⟨rfl, le4, (keep _ _ hI2 (Ne.symm hsI)).trans hI2.symm, (keep _ _ hS2 (Ne.symm hsS)).trans hS2.symm, sw_nil (sw_again rfl ?_)⟩
      refine ih (t.kids ++ r) _ κ₃ st c3 em (by omega) (fun j a h => ?_) (by omega) (fun u hu => ?_) le4 hst hsI hsS (by rw [hl3]; simp) ⟨_, keep _ _ hI2 (Ne.symm hsI)⟩ ⟨_, keep _ _ hS2 (Ne.symm hsS)⟩
      · have := hP (j + 1) a (by rw [ep]; exact h)
        rw [show N - m + j = N - (m + 1) + (j + 1) by omega]; exact this
      · rcases List.mem_append.mp hu with h | h
        · exact ⟨_, hks _ h⟩
        · exact hts _ (.tail _ h)
theorem gen213 {W : Wd} {k : Nat} {κ : PM} {t : Tr} {par : Option Addr} (hat : At W.w.params κ t par) (hlen : t.pre.length ≤ 1000) : GenBody W rec213 (k + 4) κ κ T1 [some (.ref t.addr), Option.none, Option.none] t.pre.length (isRef t.pre) := fun A' s₀ R S I g L κ' ao b hS hSI hle isg hs => by
  obtain ⟨oI, nm, qn, hI, hI2⟩ := isg
  obtain ⟨oS, hS'⟩ := hs
  refine sw_stmt b <| WS.assign 1 rfl (.inl rfl) <| WE.list <| WArgs.cons <| WE.name 0 rfl rfl <| WArgs.nil ⟨by show 1 ≤ sizeLine; decide, fun st hst => ?_⟩
  have n1 : κ st = Option.none := by
    cases q : κ st with
    | none => exact Eq.refl _
    | some o => rw [hle _ _ q] at hst; cases hst
  have nI : st ≠ I := fun q => by subst q; rw [hst] at hI; cases hI
  have nS : st ≠ S := fun q => by subst q; rw [hst] at hS'; cases hS'
  refine ⟨rfl, hle.trans (PM.put_fresh hst _), PM.put_ne _ _ (Ne.symm nI), PM.put_ne _ _ (Ne.symm nS), sw_while fun p => ?_⟩
  refine loop213 (k := k) (N := t.pre.length) _ b hS hSI rfl rfl (over_aok2 (k := k + 2) (AOk.in1 (n := k + 3) ao)) (fun ρ κ' => sw_out (sw_nil (sw_end fun _ _ => trivial))) t.pre.length [t] _ _ st 0 (by simp [Tr.preL]) hlen (fun j a h => ⟨a, rfl, ?_⟩) (Nat.le_refl _) (fun u hu => by rw [List.mem_singleton.mp hu]; exact ⟨_, hat⟩) (hle.trans (PM.put_fresh hst _)) n1 nI nS (PM.put_self ..) ⟨_, (PM.put_ne _ _ (Ne.symm nI)).trans hI⟩ ⟨_, (PM.put_ne _ _ (Ne.symm nS)).trans hS'⟩
  simpa [Tr.preL] using h
end Mine
end
section
open PySem PySem.W PySem.Calls PyProof.Rows PySem.SeqAt
set_option maxRecDepth 100000
set_option maxHeartbeats 1000000
set_option linter.unusedVariables false
namespace Mine
/-- all but one -/
def PM.but1 (κ : PM) (a : Addr) : PM := fun u => if u = a then none else κ u
section
variable {W : Wd} {A : Around} {κ : PM} {Q : PySem.Value → PM → Prop} {l rv n c : Nat} {xs : Array PySem.Value}
/-- list(reversed(..)) -/
theorem t_listRev (hh : A.handled = none) (hz : xs.size ≤ 1000000) (hrv : κ rv = some (revObj l ((xs.size : Int) - 1))) (hl : κ l = some (listOf xs n))
    (h : ∀ D κ' c', κ D = none → (κ.but1 rv).le κ' → κ' D = some (listOf xs.toList.reverse.toArray c') → Q (.ref D) κ') : Wp W A T1 (PySem.call (.type "list") [.ref rv]) κ Q := fun R s b _ St => by
  have fr := St.fresh (get_size_none s.heap)
  have hSI : s.heap.objs.size ≠ rv := fun q => by rw [q, hrv] at fr; cases fr.1
  have hSl : s.heap.objs.size ≠ l := fun q => by rw [q, hl] at fr; cases fr.1
  have hlr : l ≠ rv := fun q => by subst q; rw [hl] at hrv; simp [revObj] at hrv
  refine callType_codes (Q₁ := fun obj s₁ => obj = .ref s.heap.objs.size ∧ s₁ = { s with heap := s.heap.push { cls := .type "list", data := .seq #[] } }) PySem.F.called_list (PySem.F.typeCall_list_1 _) PySem.F.entry_list_init
    (code_list_new _ ⟨rfl, rfl⟩) fun obj s₁ h₁ => ?_
  obtain ⟨rfl, rfl⟩ := h₁
  have hS : (s.heap.push { cls := .type "list", data := .seq #[] }).get? s.heap.objs.size = some { cls := .type "list", data := .seq #[] } := Heap.get?_push_size _ rfl
  refine ⟨⟨_, hS, rfl⟩, PySem.F.args_list_init_2 _ _, ?_⟩
  generalize hD : s.heap.objs.size = D at *
  show wpAny _ _ (do let old ← Builtin.List.listItems (.ref D); Builtin.List.listUpdate (.ref D) (fun _ => #[]); letGo old.toList.reverse; Builtin.List.listExtendWith (.ref D) (.ref rv) .none) _ _ _
  refine wpAny_bind ?_
  unfold Builtin.List.listItems
  refine wpAny_bind (wpAny_seqItems hS rfl (wpAny_pure ?_))
  show wpAny _ _ (updateSeq D (fun _ => #[]) >>= fun _ => letGo (#[] : Array PySem.Value).toList.reverse >>= fun _ => Builtin.List.listExtendWith (.ref D) (.ref rv) .none) _ _ _
  refine wpAny_bind (wpAny_updateSeq hS rfl ?_)
  have hS₂ := Heap.get?_update_self (Obj.mapSeq (fun _ => (#[] : Array PySem.Value))) hS rfl
  have oth : ∀ u o, u ≠ D → s.heap.get? u = some o → ((s.heap.push { cls := .type "list", data := .seq #[] }).update D (Obj.mapSeq (fun _ => (#[] : Array PySem.Value)))).get? u = some o :=
    fun u o hb e => (Heap.get?_update_other _ _ (Ne.symm hb)).trans (Heap.get?_push_of_some _ e)
  have S₂ : Sat (κ.put D (listOf #[] 0)) R ((s.heap.push { cls := .type "list", data := .seq #[] }).update D (Obj.mapSeq (fun _ => (#[] : Array PySem.Value)))) := by
    refine ⟨fun u o e => ?_, fun u o e => oth u o (PM.ne_of fr.2 e) (St.r _ _ e), fun u o e => ?_⟩
    · by_cases q : u = D
      · subst q; rw [PM.put_self] at e; cases e; exact hS₂
      · rw [PM.put_ne _ _ q] at e; exact oth u o q (St.k _ _ e)
    · by_cases q : u = D
      · subst q; exact fr.2
      · rw [PM.put_ne _ _ q] at e; exact St.d _ _ e
  refine wpAny_bind (wpAny_letGo ?_)
  refine extend_rev (A := A.in1) (W := W) (R := R) (κ := κ.put D (listOf #[] 0)) (n := n) (κ₀ := κ.but1 rv) (s₀ := s) (RR := fun r s' => match r with | .ok (.ret v) => v = .none ∧ ∃ κ', Sat κ' R s'.heap ∧ Fwd s s' ∧ Q (.ref D) κ' | .ok _ => False | .error e => False) hh [] (by simpa using hz) .none hSI hSl hlr ?_ (if_pos rfl) (fun κ' s' c' h1 h2 h3 h4 => ⟨rfl, κ', h1, h3, h D κ' c' fr.1 h4 (by simpa using h2)⟩) (fun u o e => ?_) ⟨_, (PM.put_ne _ _ (Ne.symm hSI)).trans hrv, rfl, rfl⟩ ((PM.put_ne _ _ (Ne.symm hSl)).trans hl) S₂ (PM.put_self ..) .of
  · show (if D = rv then none else κ D) = none
    rw [if_neg hSI]; exact fr.1
  · have e : (if u = rv then none else κ u) = some o := e
    split at e
    · cases e
    · exact (PM.put_ne _ _ (fun q => by rw [q] at e; rw [fr.1] at e; cases e)).trans e
end
end Mine
end
section
open PySem PySem.W PySem.Calls PyProof.Rows PySem.SeqAt
set_option maxRecDepth 100000
set_option maxHeartbeats 1000000
set_option linter.unusedVariables false
namespace Mine
theorem seg_bindw {M : Model} {A : Around} {R : GenEnd} {Y : Protocol} {n : Nat} {s₀ s : Shared} {c : Code} {fs : List Frame} {α : Type} {m : Sem α} {k : α → Sem Flow} {K : Flow → Sem Fin} {H : PySem.Value → Sem Fin} {gd : Bool → Bool} {lv : List PySem.Value → List PySem.Value}
    (h : wpAny M (A.over c fs) m (fun a s' => Seg M A R Y n s₀ c ((k a).wrap K H gd lv) fs s') (fun x s' => Seg M A R Y n s₀ c (H x) fs s') s) : Seg M A R Y n s₀ c ((m >>= k).wrap K H gd lv) fs s := by
  rw [Sem.bind_eq_wrap', Sem.wrap_wrap]; exact seg_wrap h
section
variable {W : Wd} {A : Around} {s₀ : Shared} {R κ₀ : PM} {S I g n m : Nat} {P : Nat → PySem.Value → Prop} {J : PM → Prop} {c : Code} {fs : List Frame} {env : Env} {ρ : Loc} {κ : PM} {K : Flow → Sem Fin} {H : PySem.Value → Sem Fin} {gd : Bool → Bool} {lv : List PySem.Value → List PySem.Value}
/-- if e: .. else: .. ; the branches run on to what follows -/
theorem sw_if {test : Expr} {body els r : List Stmt} {pos : Pos} (b : W.kB.le R) (h : WT W (A.in1.over c fs) env ρ test κ fun bb κ' => κ₀.le κ' ∧ κ' I = κ I ∧ κ' S = κ S ∧
      SW W A s₀ R κ₀ S I g n P J m c ((execs (if bb = true then body else els) env).wrap (fun (f : Flow) => match f with | Flow.next => (execs r env).wrap K H gd lv | f => K f) H gd lv) fs env ρ κ') :
    SW W A s₀ R κ₀ S I g n P J m c ((execs (.If test body els pos :: r) env).wrap K H gd lv) fs env ρ κ := fun φ sr s d f St F hr hle hI hS => by
  refine seg_execs_cons ?_
  rw [exec_If]
  refine seg_bindw (wpAny_standAt (seg_bindw (h.seqS b d f St fun bb κ' s' S' F' q => ?_)))
  obtain ⟨hle', e1, e2, q⟩ := q
  obtain ⟨o, h1, h2⟩ := hS
  have := q φ sr s' d f S' (F.trans F') (run_keep hr F') hle' (hI.eq e1) ⟨o, e2.trans h1, h2⟩
  cases bb <;> exact this
end
end Mine
end
section
open PySem PySem.W PySem.Calls PyProof.Rows PySem.SeqAt
set_option maxRecDepth 100000
set_option maxHeartbeats 1000000
set_option linter.unusedVariables false
namespace Mine
mutual
/-- the leaves, in order -/
def Tr.lvs : Tr → List Addr
  | .leaf a .. => [a]
  | .node _ _ _ _ ch => Tr.lvsL ch
def Tr.lvsL : List Tr → List Addr
  | [] => []
  | t :: r => t.lvs ++ Tr.lvsL r
end
theorem lvsL_app : ∀ a b : List Tr, Tr.lvsL (a ++ b) = Tr.lvsL a ++ Tr.lvsL b
  | [], b => by simp [Tr.lvsL]
  | t :: r, b => by simp [Tr.lvsL, lvsL_app r b]
mutual
theorem lvs_le : ∀ t : Tr, t.lvs.length ≤ t.pre.length
  | .leaf .. => by simp [Tr.lvs, Tr.pre]
  | .node a d l ty ch => by
    have := lvsL_le ch
    simp only [Tr.lvs, Tr.pre, List.length_cons]; omega
theorem lvsL_le : ∀ ts : List Tr, (Tr.lvsL ts).length ≤ (Tr.preL ts).length
  | [] => by simp [Tr.lvsL]
  | t :: r => by
    have h1 := lvs_le t
    have h2 := lvsL_le r
    simp only [Tr.lvsL, Tr.preL, List.length_append]; omega
end
abbrev T144 : Expr := (whOf rec144.body).1
abbrev B144 : List Stmt := (whOf rec144.body).2
end Mine
end
section
open PySem PySem.W PySem.Calls PyProof.Rows PySem.SeqAt
set_option maxRecDepth 100000
set_option maxHeartbeats 1000000
set_option linter.unusedVariables false
namespace Mine
theorem loop144 {W : Wd} {A' : Around} {s₀ : Shared} {R κ₀ : PM} {S I : Addr} {g N : Nat} {L : Addr} {P : Nat → PySem.Value → Prop} {J : PM → Prop} {frs : List Frame} {k : Nat} (self : PySem.Value) (b : W.kB.le R) (hS : κ₀ S = none) (hSI : S ≠ I) (h1 : splitAtGen frs = none) (h2 : frs.any Frame.guarded = false)
    (ao : AOk (A'.in1.over (.whileLoop T144 B144 [] (callEnv rec144.fd L 144)) frs) (k + 2))
    (out : ∀ ρ κ', SW W A' s₀ R κ₀ S I g N P J 0 (.whileLoop T144 B144 [] (callEnv rec144.fd L 144)) (.pure (.done .next)) frs (callEnv rec144.fd L 144) ρ κ') : ∀ (w m : Nat) (ts : List Tr) (x : Option PySem.Value) (κ' : PM) (st : Addr) (c : Nat),
      (Tr.preL ts).length = w → w ≤ 1000 → (Tr.lvsL ts).length = m → (∀ j a, (Tr.lvsL ts)[j]? = some a → P (N - m + j) (.ref a)) → m ≤ N → (∀ t ∈ ts, ∃ q, At W.w.params κ₀ t q) → κ₀.le κ' → κ₀ st = none → st ≠ I → st ≠ S → κ' st = some (listOf ((ts.map Tr.addr).reverse.map PySem.Value.ref).toArray c) → (∃ o, κ' I = some o) → (∃ o, κ' S = some o) →
      SW W A' s₀ R κ₀ S I g N P J m (.whileLoop T144 B144 [] (callEnv rec144.fd L 144)) (W.M.den (.whileLoop T144 B144 [] (callEnv rec144.fd L 144))) frs (callEnv rec144.fd L 144) [some self, some (.ref st), x] κ' := by
  intro w
  induction w with
  | zero =>
    intro m ts x κ' st c e0 hw em hP hN hts hle hst hsI hsS hl hI hSS
    have : ts = [] := by
      cases ts with
      | nil => rfl
      | cons t r => cases t <;> simp [Tr.preL, Tr.pre] at e0
    subst this
    simp [Tr.lvsL] at em
    subst em
    refine sw_loop b <| WT.value <| WE.name 1 rfl rfl <| t_truthyList hl (by simp) ⟨hle, rfl, rfl, ?_⟩
    exact out _ _
  | succ w ih =>
    intro m ts x κ' st c e0 hw em hP hN hts hle hst hsI hsS hl hI hSS
    cases ts with
    | nil => simp [Tr.preL] at e0
    | cons t r =>
      obtain ⟨q, hat⟩ := hts t (.head _)
      obtain ⟨f, l, n, i, hch, hll, _, hks⟩ := hat.kids
      have ep : Tr.preL (t :: r) = t.addr :: Tr.preL (t.kids ++ r) := by cases t <;> simp [Tr.pre, Tr.preL, Tr.addr, Tr.kids, preL_app]
      have el : ((t :: r).map Tr.addr).reverse.map PySem.Value.ref = ((r.map Tr.addr).reverse.map PySem.Value.ref) ++ [.ref t.addr] := by simp
      have ew : (Tr.preL (t.kids ++ r)).length = w := by rw [ep] at e0; simpa using e0
      have hlen0 := lenL_le (t.kids ++ r)
      rw [ew, List.length_append] at hlen0
      have hr : r.length ≤ w := by omega
      have hkl : t.kids.length ≤ w := by omega
      rw [el] at hl
      obtain ⟨oI, hI⟩ := hI
      obtain ⟨oS, hSS⟩ := hSS
      refine sw_loop b <| WT.value <| WE.name 1 rfl rfl <| t_truthyList hl (by simp; omega) ⟨hle, rfl, rfl, ?_⟩
      rw [if_pos (by simp)]
      refine sw_stmt b <| WS.assign 2 rfl (.inl rfl) <| we_pop <| WE.name 1 rfl rfl ⟨st, _, _, c, rfl, hl, by simp; omega, fun c' => ⟨rfl, fun u o e => by rw [PM.put_ne _ _ (fun q => by subst q; rw [hst] at e; cases e)]; exact hle _ _ e, PM.put_ne _ _ (Ne.symm hsI), PM.put_ne _ _ (Ne.symm hsS), ?_⟩⟩
      have le1 : κ₀.le (κ'.put st (listOf ((r.map Tr.addr).reverse.map PySem.Value.ref).toArray c')) := fun u o e => by rw [PM.put_ne _ _ (fun q => by subst q; rw [hst] at e; cases e)]; exact hle _ _ e
      have hl1 : (κ'.put st (listOf ((r.map Tr.addr).reverse.map PySem.Value.ref).toArray c')) st = some (listOf ((r.map Tr.addr).reverse.map PySem.Value.ref).toArray c') := PM.put_self ..
      have hI1 : (κ'.put st (listOf ((r.map Tr.addr).reverse.map PySem.Value.ref).toArray c')) I = some oI := (PM.put_ne _ _ (Ne.symm hsI)).trans hI
      have hS1 : (κ'.put st (listOf ((r.map Tr.addr).reverse.map PySem.Value.ref).toArray c')) S = some oS := (PM.put_ne _ _ (Ne.symm hsS)).trans hSS
      generalize κ'.put st (listOf ((r.map Tr.addr).reverse.map PySem.Value.ref).toArray c') = κ₁ at le1 hl1 hI1 hS1
      refine sw_if b <| WT.value <| WE.call <| WE.blt rfl rfl rfl (by decide) <| call_with .builtin <| WArgs.cons <| WE.name 2 rfl rfl <| WArgs.cons <| WE.glob rfl (gLeaf _) <| WArgs.nil ?_
      cases t with
      | leaf ad d ty v p =>
        refine (i.le le1).isi (isLL _) <| Wp.truthyBool ⟨le1, rfl, rfl, ?_⟩
        rw [if_pos rfl]
        have em' : m = (Tr.lvsL r).length + 1 := by rw [← em]; simp [Tr.lvsL, Tr.lvs, Nat.add_comm]
        subst em'
        refine sw_yield (m := (Tr.lvsL r).length) b h1 rfl h2 hSI hS <| WE.name 2 rfl rfl ⟨le1, rfl, rfl, by omega, by have := hP 0 ad (by simp [Tr.lvsL, Tr.lvs]); rw [show N - 1 - (Tr.lvsL r).length = N - ((Tr.lvsL r).length + 1) + 0 by omega]; exact this, fun o => sw_nil (sw_nil (sw_again rfl ?_))⟩
        refine ih _ r _ _ st c' (by simpa [Tr.kids] using ew) (by omega) (Eq.refl _) (fun j a h => ?_) (by omega) (fun u hu => hts _ (.tail _ hu)) (fun u ou e => by rw [PM.put_ne _ _ (fun q => by subst q; rw [hS] at e; cases e)]; exact le1 _ _ e) hst hsI hsS ((PM.put_ne κ₁ o hsS).trans hl1) ⟨_, (PM.put_ne κ₁ o (Ne.symm hSI)).trans hI1⟩ ⟨_, PM.put_self ..⟩
        have := hP (j + 1) a (by simp [Tr.lvsL, Tr.lvs]; exact h)
        rw [show N - (Tr.lvsL r).length + j = N - ((Tr.lvsL r).length + 1) + (j + 1) by omega]; exact this
      | node ad d l' ty ch =>
        refine (i.le le1).notIsi (isNL _) <| Wp.truthyBool ⟨le1, rfl, rfl, ?_⟩
        rw [if_neg (by simp)]
        have hlst : l ≠ st := fun q => by subst q; rw [hst] at hll; cases hll
        refine sw_stmt b <| WS.exprS <| WE.meth <| WE.name 1 rfl rfl <| t_meth F.slot_list_extend (by rfl) hl1 <| call_with .builtin <| WArgs.cons <| WE.call <| WE.blt rfl (gRev _) rfl (by decide) <| call_with .type <| WArgs.cons <| WE.attr <| WE.name 2 rfl rfl <| (i.le le1).own (own_children _ (.node ad d l' ty ch)) hch rfl <| WArgs.nil <| t_reversed (le1 _ _ hll) fun rv hrv => WArgs.nil ?_
        have nrv : ∀ {u : Addr} {o : Obj}, κ₁ u = some o → u ≠ rv := fun e q => by subst q; rw [hrv] at e; cases e
        refine t_extendRev ao.hh ((r.map Tr.addr).reverse.map PySem.Value.ref) (by simp; omega) ((PM.put_ne _ _ (nrv hl1)).trans hl1) (PM.put_self ..) ((PM.put_ne _ _ (nrv (le1 _ _ hll))).trans (le1 _ _ hll)) (Ne.symm hlst) fun κ₃ c3 le3 hl3 => ?_
        have keep : ∀ u o, κ₁ u = some o → u ≠ st → κ₃ u = some o := fun u o e q => le3 _ _ (PM.but2_some ((PM.put_ne _ _ (nrv e)).trans e) q (nrv e))
        have le4 : κ₀.le κ₃ := fun u o e => keep _ _ (le1 _ _ e) (fun q => by subst q; rw [hst] at e; cases e)
        refine ⟨rfl, le4, (keep _ _ hI1 (Ne.symm hsI)).trans hI1.symm, (keep _ _ hS1 (Ne.symm hsS)).trans hS1.symm, sw_nil (sw_nil (sw_again rfl ?_))⟩
        have ev : Tr.lvsL (Tr.kids (.node ad d l' ty ch) ++ r) = Tr.lvsL (.node ad d l' ty ch :: r) := by rw [lvsL_app]; simp [Tr.lvsL, Tr.lvs, Tr.kids]
        refine ih m (Tr.kids (.node ad d l' ty ch) ++ r) _ κ₃ st c3 ew (by omega) (by rw [ev]; exact em) (fun j a h => hP j a (by rw [← ev]; exact h)) hN (fun u hu => ?_) le4 hst hsI hsS (by rw [hl3]; simp) ⟨_, keep _ _ hI1 (Ne.symm hsI)⟩ ⟨_, keep _ _ hS1 (Ne.symm hsS)⟩
        rcases List.mem_append.mp hu with h | h
        · exact ⟨_, hks _ h⟩
        · exact hts _ (.tail _ h)
end Mine
end
section
open PySem PySem.W PySem.Calls PyProof.Rows PySem.SeqAt
set_option maxRecDepth 100000
set_option maxHeartbeats 1000000
set_option linter.unusedVariables false
namespace Mine
theorem gen144 {W : Wd} {k : Nat} {κ : PM} {a d l : Addr} {ty : Int} {ch : List Tr} {par : Option Addr} (hat : At W.w.params κ (.node a d l ty ch) par) (hlen : (Tr.preL ch).length ≤ 1000) : GenBody W rec144 (k + 4) κ κ T1 [some (.ref a), Option.none, Option.none] (Tr.lvsL ch).length (isRef (Tr.lvsL ch)) := fun A' s₀ R S I g L κ' ao b hS hSI hle isg hs => by
  obtain ⟨oI, nm, qn, hI, hI2⟩ := isg
  obtain ⟨oS, hS'⟩ := hs
  obtain ⟨f, l', n, i, hch, hll, _, hks⟩ := hat.kids
  have hl0 := lenL_le ch
  have aw : AOk (A'.in1.over (.func rec144.body (callEnv rec144.fd L 144)) []) (k + 2) := over_aok (k := k + 2) (AOk.in1 (n := k + 3) ao) _ _
  refine sw_stmt b <| WS.assign 1 rfl (.inl rfl) <| WE.call <| WE.blt rfl (gList _) rfl (by decide) <| call_with .type <| WArgs.cons <| WE.call <| WE.blt rfl (gRev _) rfl (by decide) <| call_with .type <| WArgs.cons <| WE.attr <| WE.name 0 rfl rfl <| (i.le hle).own (own_children _ (.node a d l ty ch)) hch rfl <| WArgs.nil <| t_reversed (hle _ _ hll) fun rv hrv => WArgs.nil ?_
  have nrv : ∀ {u : Addr} {o : Obj}, κ' u = some o → u ≠ rv := fun e q => by subst q; rw [hrv] at e; cases e
  refine t_listRev aw.hh (by simp [Tr.kids]; omega) (PM.put_self ..) ((PM.put_ne _ _ (nrv (hle _ _ hll))).trans (hle _ _ hll)) fun st κ₁ c hst le1 hl1 => ?_
  have hst' : κ' st = Option.none := by
    cases q : κ' st with
    | none => exact Eq.refl _
    | some o => rw [PM.put_ne _ _ (nrv q), q] at hst; cases hst
  have n1 : κ st = Option.none := by
    cases q : κ st with
    | none => exact Eq.refl _
    | some o => rw [hle _ _ q] at hst'; cases hst'
  have nI : st ≠ I := fun q => by subst q; rw [hst'] at hI; cases hI
  have nS : st ≠ S := fun q => by subst q; rw [hst'] at hS'; cases hS'
  have keep : ∀ u o, κ' u = some o → κ₁ u = some o := fun u o e => le1 _ _ (by show (if u = rv then Option.none else _) = _; rw [if_neg (nrv e), PM.put_ne _ _ (nrv e)]; exact e)
  refine ⟨rfl, fun u o e => keep _ _ (hle _ _ e), (keep _ _ hI).trans hI.symm, (keep _ _ hS').trans hS'.symm, sw_while fun p => ?_⟩
  refine loop144 (k := k) (N := (Tr.lvsL ch).length) _ b hS hSI rfl rfl (over_aok2 (k := k + 2) (AOk.in1 (n := k + 3) ao)) (fun ρ κ' => sw_out (sw_nil (sw_end fun _ _ => trivial))) (Tr.preL ch).length (Tr.lvsL ch).length ch _ _ st c (Eq.refl _) hlen (Eq.refl _) (fun j a h => ⟨a, rfl, ?_⟩) (Nat.le_refl _) (fun u hu => ⟨_, hks u hu⟩) (fun u o e => keep _ _ (hle _ _ e)) n1 nI nS (by rw [hl1]; simp [Tr.kids]) ⟨_, keep _ _ hI⟩ ⟨_, keep _ _ hS'⟩
  simpa using h
end Mine
end
section
open PySem PySem.W PySem.Calls PyProof.Rows PySem.SeqAt
set_option maxRecDepth 100000
set_option maxHeartbeats 1000000
set_option linter.unusedVariables false
namespace Mine
/-- an iterator at I beside a list at S: what it has given so far, and the memory -/
structure ItA (W : Wd) (A : Around) (s₀ : Shared) (R : PM) (S I n : Nat) (pre : List PySem.Value) (G : List PySem.Value → PM → Array GenState → Prop) (Fi : List PySem.Value → PM → Prop) : Prop where
  nxt : ∀ (acc : List PySem.Value) (κ : PM) (s : Shared) (c : Nat), acc.length < n → κ S = some (listOf (pre ++ acc).toArray c) → Sat κ R s.heap → G acc κ s.gens → Fwd s₀ s →
    wpAny W.M A (pyNext (.ref I)) (fun r s' => ∃ v κ', r = some v ∧ Sat κ' R s'.heap ∧ Fwd s₀ s' ∧ κ' S = κ S ∧ ∀ c', G (acc ++ [v]) (κ'.put S (listOf (pre ++ (acc ++ [v])).toArray c')) s'.gens) (fun _ _ => False) s
  fin : ∀ (acc : List PySem.Value) (κ : PM) (s : Shared) (c : Nat), acc.length = n → κ S = some (listOf (pre ++ acc).toArray c) → Sat κ R s.heap → G acc κ s.gens → Fwd s₀ s →
    wpAny W.M A (pyNext (.ref I)) (fun r s' => r = none ∧ ∃ κ', Sat κ' R s'.heap ∧ Fwd s₀ s' ∧ κ' S = κ S ∧ Fi acc κ') (fun _ _ => False) s

theorem extend_loopA {W : Wd} {A : Around} {s₀ : Shared} {I n : Nat} {pre : List PySem.Value} {G : List PySem.Value → PM → Array GenState → Prop} {Fi : List PySem.Value → PM → Prop} {S : Addr} {R : PM} (T : ItA W A.in1 s₀ R S I n pre G Fi) (hn : pre.length + n ≤ 1000000) (res : PySem.Value) {RR : Result → Shared → Prop}
    (fin : ∀ κ s (acc : List PySem.Value) c, Sat κ R s.heap → κ S = some (listOf (pre ++ acc).toArray c) → acc.length = n → Fi acc κ → Fwd s₀ s → RR (.ok (.ret res)) s) :
    ∀ (k : Nat) (κ : PM) (s : Shared) (acc : List PySem.Value) (c : Nat), n - acc.length = k → acc.length ≤ n → Sat κ R s.heap → κ S = some (listOf (pre ++ acc).toArray c) → Fwd s₀ s → G acc κ s.gens →
      codeAny W.M A (.builtin "list.extend.loop" ⟨[.ref S, .ref I, res], []⟩) RR s := by
  intro k
  induction k with
  | zero =>
    intro κ s acc c hk hi St hS F hG
    have hin : acc.length = n := by omega
    refine codeAny_builtin PySem.F.entry_extend_loop ?_
    rw [Around.under_plainId PySem.F.plain_extend_loop _]
    show wpAny _ A.in1 (pyNext (.ref I) >>= _) _ _ s
    refine wpAny_bind (wpAny_mono (T.fin acc κ s c hin hS St hG F) (fun r s' hq => ?_) fun _ _ x => x.elim)
    obtain ⟨rfl, κ', S', F', e', g'⟩ := hq
    exact wpAny_pure (fin κ' s' acc c S' (e'.trans hS) hin g' F')
  | succ k ih =>
    intro κ s acc c hk hi St hS F hG
    have hlt : acc.length < n := by omega
    refine codeAny_builtin PySem.F.entry_extend_loop ?_
    rw [Around.under_plainId PySem.F.plain_extend_loop _]
    show wpAny _ A.in1 (pyNext (.ref I) >>= _) _ _ s
    refine wpAny_bind (wpAny_mono (T.nxt acc κ s c hlt hS St hG F) (fun r s' hq => ?_) fun _ _ x => x.elim)
    obtain ⟨v, κ', rfl, S', F', e', g'⟩ := hq
    have hS' : κ' S = some (listOf (pre ++ acc).toArray c) := e'.trans hS
    have h2 := S'.k _ _ hS'
    show wpAny _ A.in1 (updateSeq S (·.push v) >>= _) _ _ _
    refine wpAny_bind ?_
    have hz : sizeLine = 16777216 := by decide
    refine wpAny_updateSeq h2 rfl (wpAny_pure ⟨plainId_quiet PySem.F.plain_extend_loop _, ?_⟩) (by simp; omega) (by simp; omega)
    have h3 : (s'.heap.update S (Obj.mapSeq (·.push v))).get? S = some (listOf (pre ++ (acc ++ [v])).toArray (c + 1)) := by
      rw [Heap.get?_update_self _ h2 rfl]
      show some (Obj.mapSeq (·.push v) (listOf (pre ++ acc).toArray c)) = _
      have e : (listOf (pre ++ acc).toArray c).mapSeq (·.push v) = listOf (pre ++ (acc ++ [v])).toArray (c + 1) := by
        unfold Obj.mapSeq
        simp
      rw [e]
    exact ih _ _ (acc ++ [v]) (c + 1) (by simp; omega) (by simp; omega) (S'.upd hS' (Heap.SameBut.update ..) h3) (PM.put_self ..) (F'.trans .of) (g' _)

theorem extend_genA {W : Wd} {A : Around} {s₀ : Shared} {I n g : Nat} {pre : List PySem.Value} {G : List PySem.Value → PM → Array GenState → Prop} {Fi : List PySem.Value → PM → Prop} {S : Addr} {R : PM} (T : ItA W A.in1 s₀ R S I n pre G Fi) (hn : pre.length + n ≤ 1000000) (res : PySem.Value) {RR : Result → Shared → Prop} {κ : PM} {s : Shared} {c : Nat}
    (fin : ∀ κ s (acc : List PySem.Value) c, Sat κ R s.heap → κ S = some (listOf (pre ++ acc).toArray c) → acc.length = n → Fi acc κ → Fwd s₀ s → RR (.ok (.ret res)) s)
    (hg : s.heap.IsGen I g) (St : Sat κ R s.heap) (hS0 : κ S = some (listOf pre.toArray c)) (hSI : S ≠ I) (F : Fwd s₀ s) (g0 : ∀ c', G [] (κ.put S (listOf pre.toArray c')) s.gens) :
    wpAny W.M A.in1 (Builtin.List.listExtendWith (.ref S) (.ref I) res) (fun fin s' => match fin with | .done f => RR (.ok f) s' | .again c' => c'.quiet = true ∧ codeAny W.M A c' RR s') (fun e s' => RR (.error e) s') s := by
  have hS := St.k _ _ hS0
  unfold Builtin.List.listExtendWith
  refine wpAny_bind (wpAny_typeOf hg.typeIs ?_)
  have h1 : Builtin.List.listSameRef (.ref S) (.ref I) = false := by simp [Builtin.List.listSameRef, hSI]
  have h2 : (PySem.Value.type "generator" == PySem.Value.type "list") = false := by decide
  have h3 : (PySem.Value.type "generator" == PySem.Value.type "tuple") = false := by decide
  simp only [h1, h2, h3, Bool.or_false, Bool.false_eq_true, if_false]
  refine wpAny_bind (wpAny_pyIter_gen hg ?_)
  refine wpAny_bind (wpAny_holding ?_)
  unfold Builtin.List.listLengthHint
  refine wpAny_bind (wpAny_specialOf hg.typeIs PySem.F.gen_no_len ?_)
  show wpAny _ A.in1 (specialOf (PySem.Value.ref I) (Str.ofString "__length_hint__") >>= _) _ _ _
  refine wpAny_bind (wpAny_specialOf hg.typeIs PySem.F.gen_no_hint ?_)
  refine wpAny_pure ?_
  show wpAny _ A.in1 (rule "list.extend.makes-room" >>= fun _ => Builtin.List.listTouch (.ref S) >>= fun _ => again (.builtin "list.extend.loop" ⟨[.ref S, .ref I, res], []⟩)) _ _ _
  refine wpAny_bind (wpAny_rule ?_)
  refine wpAny_bind ?_
  show wpAny _ A.in1 (updateSeq S (·.push .none) >>= fun _ => updateSeq S (·.pop)) _ _ _
  have hz : sizeLine = 16777216 := by decide
  refine wpAny_bind (wpAny_updateSeq (hz := by simp; omega) hS rfl ?_)
  have hS₂ := Heap.get?_update_self (Obj.mapSeq (·.push PySem.Value.none)) hS rfl
  refine wpAny_updateSeq (hz := by simp; omega) hS₂ rfl ?_
  have hS₃ := Heap.get?_update_self (Obj.mapSeq (·.pop)) hS₂ rfl
  have e1 : ∃ c', (listOf pre.toArray c |>.mapSeq (·.push PySem.Value.none)).mapSeq (·.pop) = listOf pre.toArray c' := ⟨_, by unfold Obj.mapSeq; simp; rfl⟩
  obtain ⟨c', e1⟩ := e1
  rw [show ((some ((listOf pre.toArray c |>.mapSeq (·.push PySem.Value.none)).mapSeq (·.pop)) : Option Obj)) = some (listOf pre.toArray c') by rw [e1]] at hS₃
  have S₂ : Sat (κ.put S (listOf pre.toArray c')) R _ := St.upd hS0 ((Heap.SameBut.update ..).trans (Heap.SameBut.update ..)) hS₃
  refine wpAny_pure ⟨plainId_quiet PySem.F.plain_extend_loop _, ?_⟩
  exact extend_loopA T hn res fin n _ _ [] c' rfl (Nat.zero_le _) S₂ (by rw [List.append_nil]; exact PM.put_self ..) (F.trans .of) (g0 c')
end Mine
end
section
open PySem PySem.W PySem.Calls PyProof.Rows PySem.SeqAt
set_option maxRecDepth 100000
set_option maxHeartbeats 1000000
set_option linter.unusedVariables false
namespace Mine
/-- all but those of a list -/
def PM.butL (κ : PM) (L : List Addr) : PM := fun u => if u ∈ L then none else κ u
theorem PM.butL_some {κ : PM} {L : List Addr} {u : Addr} {o : Obj} (h : κ u = some o) (hn : u ∉ L) : κ.butL L u = some o := by
  show (if u ∈ L then none else κ u) = some o
  rw [if_neg hn]; exact h
theorem PM.butL_none {κ : PM} {L : List Addr} {u : Addr} (h : u ∈ L) : κ.butL L u = none := if_pos h
theorem PM.butL_get {κ : PM} {L : List Addr} {u : Addr} {o : Obj} (h : κ.butL L u = some o) : u ∉ L ∧ κ u = some o := by
  have h : (if u ∈ L then none else κ u) = some o := h
  split at h
  · cases h
  · rename_i q; exact ⟨q, h⟩
section
variable (W : Wd) (A : Around) (s₀ : Shared) (R κ₀ : PM) (S I g n : Nat) (pre : List PySem.Value) (Pm : List PySem.Value → PM → Prop)
def YA : Protocol := fun m s₁ v s₂ kap => m < n ∧ ∃ κ', Bt s₀ R κ₀ g κ' s₂ ∧ κ' S = s₁.heap.get? S ∧ IsG I g κ' ∧ (∃ (acc : List PySem.Value) (c : Nat), κ' S = some (listOf (pre ++ acc).toArray c) ∧ acc.length = n - 1 - m ∧ Pm (acc ++ [v]) κ') ∧
  ∀ (acc : List PySem.Value) c s₃, acc.length = n - m → Pm acc (κ'.put S (listOf (pre ++ acc).toArray c)) → Bt s₀ R κ₀ g (κ'.put S (listOf (pre ++ acc).toArray c)) s₃ → kap (.send .none) s₃
def PEA : Nat → Shared → Shared → Prop := fun m s₁ s₂ => m = 0 ∧ ∃ κ', Bt s₀ R κ₀ g κ' s₂ ∧ κ' S = s₁.heap.get? S ∧ ∃ (acc : List PySem.Value) (c : Nat), κ' S = some (listOf (pre ++ acc).toArray c) ∧ acc.length = n ∧ Pm acc κ'
abbrev EA : GenEnd := fun m s₁ r s₂ => r = .ok .next ∧ PEA s₀ R κ₀ S g n pre Pm m s₁ s₂
def GA (acc : List PySem.Value) (κ : PM) (gens : Array GenState) : Prop := κ₀.le κ ∧ Pm acc κ ∧ IsG I g κ ∧ ∃ gs, gens[g]? = some gs ∧
  ∀ s c, κ S = some (listOf (pre ++ acc).toArray c) → Bt s₀ R κ₀ g κ s → gs.Goes W.M A.in1 (EA s₀ R κ₀ S g n pre Pm) (YA s₀ R κ₀ S I g n pre Pm) (n - acc.length) (.send .none) s
end
theorem listOf_inj {xs ys : List PySem.Value} {c d : Nat} (h : (some (listOf xs.toArray c) : Option Obj) = some (listOf ys.toArray d)) : xs = ys := by
  simp at h; exact h.1
theorem genA_it {W : Wd} {A : Around} {s₀ : Shared} {R κ₀ : PM} {S I g n k : Nat} {pre : List PySem.Value} {Pm : List PySem.Value → PM → Prop} (a : AOk A (k + 1)) (b : W.kB.le R) (hgs : s₀.gens.size ≤ g) (hSI : S ≠ I) (hS0 : κ₀ S = none)
    (stab : ∀ acc κ xs c xs' c', κ S = some (listOf xs c) → Pm acc κ → Pm acc (κ.put S (listOf xs' c'))) : ItA W A s₀ R S I n pre (GA W A s₀ R κ₀ S I g n pre Pm) (fun acc κ => κ₀.le κ ∧ Pm acc κ) := by
  have keepI : ∀ {κ : PM} {h : Heap}, IsG I g κ → Sat κ R h → h.IsGen I g := fun ⟨o, nm, qn, h1, h2⟩ St => ⟨o, nm, qn, St.k _ _ h1, h2⟩
  have setrun : ∀ {s : Shared} {gs : GenState}, s.gens[g]? = some gs → (s.setGen g .running).gens[g]? = some .running := fun {s gs} e => by
    show (s.gens.setIfInBounds g .running)[g]? = _
    rw [Array.getElem?_setIfInBounds_self_of_lt (Array.getElem?_eq_some_iff.mp e).1]
  refine ⟨fun acc κ s c hi hS St hG F => ?_, fun acc κ s c hi hS St hG F => ?_⟩
  · obtain ⟨hκ, hP, hI, gs, hgs', hgo⟩ := hG
    have bt : Bt s₀ R κ₀ g κ (s.setGen g .running) := ⟨St, hκ, F.setGen hgs rfl, setrun hgs'⟩
    refine wpAny_pyNext_genexpQ a.hh (W.lim b St) a.room (keepI hI St) hgs' (hgo _ c hS bt) (fun v s₁ gs' hb hy => ?_) fun s₁ hp h' hk => ?_
    · obtain ⟨hm, κ', B', e1, hI', ⟨acc', c2, hv1, hv2, hv⟩, hkap⟩ := hy
      have hlt : g < s₁.gens.size := (Array.getElem?_eq_some_iff.mp B'.run).1
      have eS : κ' S = κ S := by rw [e1, hS]; exact St.k _ _ hS
      have ea : acc' = acc := List.append_cancel_left (listOf_inj (hv1.symm.trans (eS.trans hS)))
      have hP' := ea ▸ hv
      refine ⟨v, κ', rfl, B'.sat, B'.fwd.setGen hgs hb, eS, fun c' => ⟨fun u ou e => by rw [PM.put_ne _ _ (fun q => by subst q; rw [hS0] at e; cases e)]; exact B'.le _ _ e, stab _ _ _ _ _ _ (eS.trans hS) hP', hI'.eq (PM.put_ne _ _ (Ne.symm hSI)), gs', ?_, fun s₃ c3 hS3 B₃ => ?_⟩⟩
      · show (s₁.gens.setIfInBounds g gs')[g]? = _
        rw [Array.getElem?_setIfInBounds_self_of_lt hlt]
      · have := hkap (acc ++ [v]) c' s₃ (by simp; omega) (stab _ _ _ _ _ _ (eS.trans hS) hP') B₃
        have e2 : n - acc.length = (n - (acc ++ [v]).length) + 1 := by simp; omega
        rw [e2] at this
        exact this
    · have := hp.1; omega
  · obtain ⟨hκ, hP, hI, gs, hgs', hgo⟩ := hG
    have bt : Bt s₀ R κ₀ g κ (s.setGen g .running) := ⟨St, hκ, F.setGen hgs rfl, setrun hgs'⟩
    refine wpAny_pyNext_genexpQ a.hh (W.lim b St) a.room (keepI hI St) hgs' (hgo _ c hS bt) (fun v s₁ gs' hb hy => ?_) fun s₁ hp h' hk => ?_
    · exfalso
      obtain ⟨hm, κ', B', e1, hI', ⟨acc', c2, hv1, hv2, hv⟩, hkap⟩ := hy
      have eS : κ' S = κ S := by rw [e1, hS]; exact St.k _ _ hS
      have ea : acc' = acc := List.append_cancel_left (listOf_inj (hv1.symm.trans (eS.trans hS)))
      rw [ea] at hv2
      omega
    · obtain ⟨_, κ', B', e1, acc', c2, hv1, hv2, hP'⟩ := hp
      have eS : κ' S = κ S := by rw [e1, hS]; exact St.k _ _ hS
      have ea : acc' = acc := List.append_cancel_left (listOf_inj (hv1.symm.trans (eS.trans hS)))
      have hP' := ea ▸ hP'
      exact ⟨rfl, κ', B'.sat.more hk, (B'.fwd.setGen (x := .finished) hgs rfl).trans .of, eS, B'.le, hP'⟩

/-- the tuples (child, False) that were given -/
def PmT (κ₀ : PM) (xs : Array PySem.Value) (acc : List PySem.Value) (κ : PM) : Prop := ∃ as : List Addr, acc = as.map PySem.Value.ref ∧ ∀ (j : Nat) (a : Addr), as[j]? = some a → κ₀ a = none ∧ ∃ y, xs[xs.size - 1 - j]? = some y ∧ κ a = some (tupOf #[y, .bool false])
theorem PmT.keep {κ₀ : PM} {xs : Array PySem.Value} {acc : List PySem.Value} {κ κ' : PM} (h : PmT κ₀ xs acc κ) (k : ∀ a v, κ a = some (tupOf v) → κ' a = some (tupOf v)) : PmT κ₀ xs acc κ' := by
  obtain ⟨as, e, h⟩ := h
  exact ⟨as, e, fun j a hj => let ⟨h0, y, h1, h2⟩ := h j a hj; ⟨h0, y, h1, k _ _ h2⟩⟩
theorem PmT.snoc {κ₀ : PM} {xs : Array PySem.Value} {acc : List PySem.Value} {κ : PM} {T : Addr} {y : PySem.Value} (h : PmT κ₀ xs acc κ) (hy : xs[xs.size - 1 - acc.length]? = some y) (hT : κ T = some (tupOf #[y, .bool false])) (hT0 : κ₀ T = none) : PmT κ₀ xs (acc ++ [.ref T]) κ := by
  obtain ⟨as, rfl, h⟩ := h
  refine ⟨as ++ [T], by simp, fun j a hj => ?_⟩
  rw [List.getElem?_append] at hj
  split at hj
  · exact h j a hj
  · rename_i hge
    have hjl : j = as.length := by
      have := (List.getElem?_eq_some_iff.mp hj).1
      simp at this; omega
    subst hjl
    simp at hj; subst hj
    exact ⟨hT0, y, by simpa using hy, hT⟩

section
variable {W : Wd} {A : Around} {s₀ : Shared} {R κ₀ : PM} {S I g nl : Nat} {pre : List PySem.Value} {xs : Array PySem.Value} {x : Str} {px q1 q2 q4 pos : Pos} {iter : Expr} {k3 k4 : Nat} {scope : Scope} {rv l C : Addr} {code : PySem.Value} {bi : Addr} {env : Env}
theorem gx_loop (b : W.kB.le R) (hh : A.handled = none) (hx : scope.names.lookup x = some .local) (hkind : scope.kind = .function) (hco : scope.isCoroutine = false) (hd : (x == ("__debug__" : Str)) = false) 
    (hS0 : κ₀ S = none) (hr0 : κ₀ rv = none) (hC0 : κ₀ C = none) (hSr : S ≠ rv) (hSl : S ≠ l) (hlr : l ≠ rv) (hSC : S ≠ C) (hCr : C ≠ rv) (hCl : C ≠ l) (hIr : I ≠ rv) (hIC : I ≠ C) (hIS : I ≠ S) : ∀ (k : Nat) (acc : List PySem.Value) (κ : PM) (s sr : Shared) (c : Nat), xs.size - acc.length = k → acc.length ≤ xs.size → Bt s₀ R κ₀ g κ s → IsG I g κ → κ S = some (listOf (pre ++ acc).toArray c) → sr.heap.get? S = κ S → PmT κ₀ xs acc κ →
      RevAt κ rv l ((xs.size : Int) - 1 - (acc.length : Int)) → κ l = some (listOf xs nl) → (∃ o es ep, κ C = some o ∧ o.data = .dict es ep ∧ StrKeys es) →
      Seg W.M A (EA s₀ R κ₀ S g xs.size pre (PmT κ₀ xs)) (YA s₀ R κ₀ S I g xs.size pre (PmT κ₀ xs)) (xs.size - acc.length) sr (.compLoop (.GeneratorExp (.Tuple [.Name x q1, .Constant (.bool false) k3 q2] k4 q4) [⟨.Name x px, iter, [], 0⟩] scope pos) 0 (.ref rv) .none (genEnv scope [] C code bi env))
        (W.M.den (.compLoop (.GeneratorExp (.Tuple [.Name x q1, .Constant (.bool false) k3 q2] k4 q4) [⟨.Name x px, iter, [], 0⟩] scope pos) 0 (.ref rv) .none (genEnv scope [] C code bi env))) [] s := by
  intro k
  induction k with
  | zero =>
    intro acc κ s sr c hk hle B hI hS hsr hP hrv hl hC
    have hin : acc.length = xs.size := by omega
    show Seg _ A _ _ _ sr _ ((compTurn (.GeneratorExp (.Tuple [.Name x q1, .Constant (.bool false) k3 q2] k4 q4) [⟨.Name x px, iter, [], 0⟩] scope pos) 0 (.ref rv) .none (genEnv scope [] C code bi env)).onRaise (leaving (genEnv scope [] C code bi env))) [] s
    rw [compTurn_gen, Sem.onRaise_eq_wrap]
    refine seg_bind_wrap (wpAny_standAt ?_)
    have T := it_rev (W := W) (A := A.over (.compLoop (.GeneratorExp (.Tuple [.Name x q1, .Constant (.bool false) k3 q2] k4 q4) [⟨.Name x px, iter, [], 0⟩] scope pos) 0 (.ref rv) .none (genEnv scope [] C code bi env)) []) (s₀ := s) (R := R) (κ₀ := κ.butL [S, rv]) (S := S) (rv := rv) (l := l) (n := nl) (xs := xs) hh hSr hSl hlr (PM.butL_none (by simp)) (PM.butL_none (by simp))
    refine seg_bind_wrap (wpAny_mono (T.fin κ s ⟨_, hS⟩ B.sat ⟨fun u o e => (PM.butL_get e).2, .inr ⟨Nat.le_refl _, by rw [← hin]; simpa [hin] using hrv, hl⟩⟩ .of) (fun r s' hq => ?_) fun _ _ x => x.elim)
    obtain ⟨rfl, κ', S', F', g', e'⟩ := hq
    have kp : ∀ u o, κ u = some o → u ≠ S → u ≠ rv → κ' u = some o := fun u o e h1 h2 => g'.1 _ _ (PM.butL_some e (by simp [h1, h2]))
    refine seg_end (.ok .next) ⟨rfl, by omega, κ', ⟨S', fun u o e => kp _ _ (B.le _ _ e) (PM.ne_of hS0 e) (PM.ne_of hr0 e), B.fwd.trans F', run_keep B.run F'⟩, by rw [e']; exact hsr.symm, acc, c, e'.trans hS, hin, hP.keep fun a v e => kp _ _ e (fun q => ?_) fun q => ?_⟩
    · subst q; rw [hS] at e; simp at e
    · subst q; obtain ⟨o, h1, h2, h3⟩ := hrv; rw [h1] at e; cases e; simp at h2
  | succ k ih =>
    intro acc κ s sr c hk hle B hI hS hsr hP hrv hl hC
    have hlt : acc.length < xs.size := by omega
    have hm : xs.size - acc.length = (xs.size - (acc.length + 1)) + 1 := by omega
    rw [hm]
    show Seg _ A _ _ _ sr _ ((compTurn (.GeneratorExp (.Tuple [.Name x q1, .Constant (.bool false) k3 q2] k4 q4) [⟨.Name x px, iter, [], 0⟩] scope pos) 0 (.ref rv) .none (genEnv scope [] C code bi env)).onRaise (leaving (genEnv scope [] C code bi env))) [] s
    rw [compTurn_gen, Sem.onRaise_eq_wrap]
    refine seg_bind_wrap (wpAny_standAt ?_)
    have T := it_rev (W := W) (A := A.over (.compLoop (.GeneratorExp (.Tuple [.Name x q1, .Constant (.bool false) k3 q2] k4 q4) [⟨.Name x px, iter, [], 0⟩] scope pos) 0 (.ref rv) .none (genEnv scope [] C code bi env)) []) (s₀ := s) (R := R) (κ₀ := κ.butL [S, rv]) (S := S) (rv := rv) (l := l) (n := nl) (xs := xs) hh hSr hSl hlr (PM.butL_none (by simp)) (PM.butL_none (by simp))
    refine seg_bind_wrap (wpAny_mono (T.nxt acc.length κ s hlt ⟨_, hS⟩ B.sat ⟨fun u o e => (PM.butL_get e).2, .inr ⟨by omega, hrv, hl⟩⟩ .of) (fun r s₁ hq => ?_) fun _ _ x => x.elim)
    obtain ⟨v, κ₁, rfl, hv, S₁, F₁, ⟨gle, g'⟩, e₁⟩ := hq
    have kp : ∀ u o, κ u = some o → u ≠ S → u ≠ rv → κ₁ u = some o := fun u o e h1 h2 => gle _ _ (PM.butL_some e (by simp [h1, h2]))
    have g' : RevAt κ₁ rv l ((xs.size : Int) - 1 - ((acc.length + 1 : Nat) : Int)) ∧ κ₁ l = some (listOf xs nl) := by
      rcases g' with e | ⟨_, h1, h2⟩
      · omega
      · exact ⟨h1, h2⟩
    obtain ⟨hrv₁, hl₁⟩ := g'
    obtain ⟨oC, es, ep, hC, hCd, hCk⟩ := hC
    have hC₁ := kp _ _ hC (Ne.symm hSC) hCr
    refine seg_bind_wrap (wpAny_of_eq (rfl : letOwnedTupleGo (.Name x px) (.ref rv) v = Pure.pure ()) ?_)
    have hn : s₁.heap.Ns C (fun y => nsFind es y) := ⟨oC, es, ep, S₁.k _ _ hC₁, hCd, hCk, fun _ => rfl⟩
    refine seg_bind_wrap (wpAny_assign_Name (wpAny_storeName_local (env := genEnv scope [] C code bi env) hx hn (fun h₂ hn₂ hs₂ => ?_) (by show (scope.kind == .class || (scope.kind == .module && _)) = false; rw [hkind]; rfl)))
    obtain ⟨oC₂, es₂, ep₂, hC₂, hCd₂, hCk₂, hCf₂⟩ := hn₂
    have hnf : nsFind es₂ x = some v := by rw [hCf₂]; simp
    have S₂ : Sat (κ₁.put C oC₂) R h₂ := S₁.upd hC₁ hs₂ hC₂
    refine seg_bind_wrap (wpAny_of_eq (a := true) (by rfl) ?_)
    simp only [if_true]
    have hy : ∀ v, yieldOut (genEnv scope [] C code bi env) v = yieldValue v := fun v => by
      have : (genEnv scope [] C code bi env).scope.isCoroutine = false := hco
      simp only [yieldOut, this, Bool.false_eq_true, if_false]
    simp only [hy]
    rw [Sem.bind_eq_wrap', Sem.bind_eq_wrap', Sem.wrap_wrap, Sem.wrap_wrap]
    refine seg_wrap (wpAny_Tuple (wpAny_items_cons (wpAny_Name (wpAny_loadName_local hkind hx ⟨oC₂, es₂, ep₂, S₂.k _ _ (PM.put_self ..), hCd₂, hCk₂, fun _ => rfl⟩ hnf (wpAny_items_cons (wpAny_Constant_bool (wpAny_items_nil ⟨by show 2 ≤ sizeLine; decide, ?_⟩)) (by rfl))) hd) (by rfl)))
    have S₃ := S₂.push (tupOf #[v, .bool false])
    have hT := S₂.hole
    have hT0 : κ₀ h₂.objs.size = none := by
      cases q : κ₀ h₂.objs.size with
      | none => rfl
      | some o =>
        have e1 := kp _ _ (B.le _ _ q) (PM.ne_of hS0 q) (PM.ne_of hr0 q)
        have e2 : (κ₁.put C oC₂) h₂.objs.size = some o := by rw [PM.put_ne _ _ (PM.ne_of hC0 q)]; exact e1
        rw [hT] at e2; cases e2
    dsimp only
    generalize h₂.objs.size = T at S₃ hT hT0 ⊢
    have kT : ∀ {u : Addr} {o : Obj}, κ₁ u = some o → u ≠ C → ((κ₁.put C oC₂).put T (tupOf #[v, .bool false])) u = some o := fun {u o} e h => by
      have h2 : (κ₁.put C oC₂) u = some o := by rw [PM.put_ne _ _ h]; exact e
      rw [PM.put_ne _ _ (PM.ne_of hT h2)]; exact h2
    have hSS : ((κ₁.put C oC₂).put T (tupOf #[v, .bool false])) S = κ S := by rw [hS]; exact kT (e₁.trans hS) hSC
    have hCC : ((κ₁.put C oC₂).put T (tupOf #[v, .bool false])) C = some oC₂ := by
      have h2 : (κ₁.put C oC₂) C = some oC₂ := PM.put_self ..
      rw [PM.put_ne _ _ (PM.ne_of hT h2)]; exact h2
    have hTT : ((κ₁.put C oC₂).put T (tupOf #[v, .bool false])) T = some (tupOf #[v, .bool false]) := PM.put_self ..
    have hle₄ : κ₀.le ((κ₁.put C oC₂).put T (tupOf #[v, .bool false])) := fun u o e => kT (kp _ _ (B.le _ _ e) (PM.ne_of hS0 e) (PM.ne_of hr0 e)) (PM.ne_of hC0 e)
    obtain ⟨oI, nm, qn, hI1, hI2⟩ := hI
    have hIG : IsG I g ((κ₁.put C oC₂).put T (tupOf #[v, .bool false])) := ⟨oI, nm, qn, kT (kp _ _ hI1 hIS hIr) hIC, hI2⟩
    obtain ⟨oR, hR1, hR2⟩ := hrv₁
    have hRV := kT hR1 (Ne.symm hCr)
    have hLL := kT hl₁ (Ne.symm hCl)
    have hPP : PmT κ₀ xs acc ((κ₁.put C oC₂).put T (tupOf #[v, .bool false])) := hP.keep fun a w e => by
      have n1 : a ≠ S := fun q => by subst q; rw [hS] at e; simp at e
      have n2 : a ≠ rv := fun q => by subst q; obtain ⟨o, h1, h2, h3⟩ := hrv; rw [h1] at e; cases e; simp at h2
      have n3 : a ≠ C := fun q => by subst q; rw [hC] at e; cases e; simp at hCd
      exact kT (kp _ _ e n1 n2) n3
    generalize ((κ₁.put C oC₂).put T (tupOf #[v, .bool false])) = κ₄ at S₃ hSS hCC hTT hle₄ hIG hRV hLL hPP
    refine seg_at (seg_yield rfl rfl rfl ⟨by omega, κ₄, ⟨S₃, hle₄, (B.fwd.trans F₁).trans .of, run_keep B.run (F₁.trans .of)⟩, hSS.trans hsr.symm, hIG, ⟨acc, c, hSS.trans hS, by omega, hPP.snoc (by rw [hv]) hTT hT0⟩, fun acc' c' s₃ hl' hP' B' => ?_⟩)
    have hl'' : acc'.length = acc.length + 1 := by omega
    refine seg_again rfl ?_
    rw [show xs.size - (acc.length + 1) = xs.size - acc'.length by omega]
    exact ih acc' _ s₃ s₃ c' (by omega) (by omega) B' (hIG.eq (PM.put_ne _ _ hIS)) (PM.put_self ..) (by rw [PM.put_self]; exact B'.sat.k _ _ (PM.put_self ..)) hP' ⟨oR, (PM.put_ne _ _ (Ne.symm hSr)).trans hRV, by rw [hl'']; exact hR2⟩ ((PM.put_ne _ _ (Ne.symm hSl)).trans hLL) ⟨oC₂, es₂, ep₂, (PM.put_ne _ _ (Ne.symm hSC)).trans hCC, hCd₂, hCk₂⟩
end
end Mine
end
section
open PySem PySem.W PySem.Calls PyProof.Rows PySem.SeqAt
set_option maxRecDepth 100000
set_option maxHeartbeats 1000000
set_option linter.unusedVariables false
namespace Mine
section
variable {W : Wd} {A : Around} {s₀ : Shared} {R κ₀ : PM} {S I g nl : Nat} {pre : List PySem.Value} {xs : Array PySem.Value} {x : Str} {px q1 q2 q4 pos : Pos} {iter : Expr} {k3 k4 : Nat} {scope : Scope} {rv l C : Addr} {code : PySem.Value} {bi : Addr} {env : Env}
theorem gx_start (b : W.kB.le R) (hh : A.handled = none) (hx : scope.names.lookup x = some .local) (hkind : scope.kind = .function) (hco : scope.isCoroutine = false) (hd : (x == ("__debug__" : Str)) = false) 
    (hS0 : κ₀ S = none) (hr0 : κ₀ rv = none) (hC0 : κ₀ C = none) (hSr : S ≠ rv) (hSl : S ≠ l) (hlr : l ≠ rv) (hSC : S ≠ C) (hCr : C ≠ rv) (hCl : C ≠ l) (hIr : I ≠ rv) (hIC : I ≠ C) (hIS : I ≠ S) {κ : PM} {s sr : Shared} {c : Nat} (B : Bt s₀ R κ₀ g κ s) (hI : IsG I g κ) (hS : κ S = some (listOf pre.toArray c)) (hsr : sr.heap.get? S = κ S)
    (hrv : RevAt κ rv l ((xs.size : Int) - 1)) (hl : κ l = some (listOf xs nl)) (hC : ∃ o es ep, κ C = some o ∧ o.data = .dict es ep ∧ StrKeys es) :
      Seg W.M A (EA s₀ R κ₀ S g xs.size pre (PmT κ₀ xs)) (YA s₀ R κ₀ S I g xs.size pre (PmT κ₀ xs)) xs.size sr (.compStart (.GeneratorExp (.Tuple [.Name x q1, .Constant (.bool false) k3 q2] k4 q4) [⟨.Name x px, iter, [], 0⟩] scope pos) 0 (.ref rv) .none (genEnv scope [] C code bi env))
        (W.M.den (.compStart (.GeneratorExp (.Tuple [.Name x q1, .Constant (.bool false) k3 q2] k4 q4) [⟨.Name x px, iter, [], 0⟩] scope pos) 0 (.ref rv) .none (genEnv scope [] C code bi env))) [] s := by
  have loop := gx_loop (W := W) (A := A) (iter := iter) (px := px) (q1 := q1) (q2 := q2) (q4 := q4) (k3 := k3) (k4 := k4) (pos := pos) (code := code) (bi := bi) (env := env) (pre := pre) (nl := nl) b hh hx hkind hco hd hS0 hr0 hC0 hSr hSl hlr hSC hCr hCl hIr hIC hIS xs.size [] κ s sr c rfl (Nat.zero_le _) B hI (by simpa using hS) hsr ⟨[], rfl, fun j a h => by simp at h⟩ (by simpa using hrv) hl hC
  have hit : s.heap.IsRevIter rv l ((xs.size : Int) - 1) := let ⟨o, h1, h2⟩ := hrv; ⟨o, B.sat.k _ _ h1, h2⟩
  show Seg _ A _ _ _ sr _ ((compStart (.GeneratorExp (.Tuple [.Name x q1, .Constant (.bool false) k3 q2] k4 q4) [⟨.Name x px, iter, [], 0⟩] scope pos) 0 (.ref rv) .none (genEnv scope [] C code bi env)).onRaise (leaving (genEnv scope [] C code bi env))) [] s
  unfold compStart
  rw [Sem.onRaise_eq_wrap]
  show Seg _ A _ _ _ sr _ ((ask >>= _).wrap _ _ _ _) [] s
  refine seg_bind_wrap (wpAny_askSetting ?_)
  split
  · exact seg_again rfl loop
  · first
      | exact seg_bind_wrap (wpAny_rule (seg_bind_wrap (wpAny_standAt (seg_bind_wrap (wpAny_pyIter_revIter hit (seg_again rfl loop))))))
      | (refine seg_bind_wrap (wpAny_rule ?_); show Seg _ A _ _ _ sr _ ((standAt iter.pos >>= _).wrap _ _ _ _) [] s; exact seg_bind_wrap (wpAny_standAt (seg_bind_wrap (wpAny_pyIter_revIter hit (seg_again rfl loop)))))
end

/-- what follows the source of a (child, False) generator handed to extend -/
structure GxRest (W : Wd) (κ κ₁ : PM) (S P c : Nat) (pre : List PySem.Value) (pos : Pos) (Q : PySem.Value → PM → Prop) (rv l nl : Nat) (xs : Array PySem.Value) (ps : Array PySem.Value) : Prop where
  hrv : κ₁ rv = some (revObj l ((xs.size : Int) - 1))
  hl : κ₁ l = some (listOf xs nl)
  hSl : S ≠ l
  hS : κ₁ S = some (listOf pre.toArray c)
  hP : κ₁ P = some (tabObj ps)
  tr : TriplesOk ps.toList
  sz : pre.length + xs.size ≤ 1000000
  fin : ∀ (κ' : PM) (as : List Addr) (c' : Nat) (ps' : Array PySem.Value), (κ₁.butL [S, rv, P]).le κ' → κ' S = some (listOf (pre ++ as.map PySem.Value.ref).toArray c') → as.length = xs.size →
    (∀ (j : Nat) (a : Addr), as[j]? = some a → (κ₁.butL [S, rv, P]) a = none ∧ ∃ y, xs[xs.size - 1 - j]? = some y ∧ κ' a = some (tupOf #[y, .bool false])) → κ' P = some (tabObj ps') → TriplesOk ps'.toList → (codeAmong pos ps'.toList).isSome = true → ((codeAmong pos ps.toList).isSome = true → ps' = ps) → Q .none κ'
theorem we_extendGx {W : Wd} {A : Around} {env : Env} {ρ : Loc} {κ : PM} {Q : PySem.Value → PM → Prop} (ist : Nat) {st x : Str} {kst : NameKind} {S c k cc P : Nat} {pre : List PySem.Value} {p1 p2 p3 px q1 q2 q4 pos : Pos} {k3 k4 : Nat} {iter : Expr} {scope : Scope} {pl : Sem Bool}
    (a : AOk A (k + 5)) (hst : env.scope.names[ist]? = some (st, kst)) (hρ : ρ[ist]? = some (some (.ref S))) (hS : κ S = some (listOf pre.toArray c))
    (hclos : closureFor scope env = Pure.pure []) (hcell : ∀ y ∈ scope.names, y.2 ≠ .cell) (h0 : scope.names.lookup (".0" : Str) = some .local) (hx : scope.names.lookup x = some .local) (hkind : scope.kind = .function) (hco : scope.isCoroutine = false)
    (hcode : env.code = .ref cc) (hhd : codeHdIn (KF W.w.params) cc P = true) (hg : env.globals = mainGlobals)
    (hit : WE W A env ρ iter κ fun v κ₁ => ∃ rv l nl xs ps, v = .ref rv ∧ GxRest W κ κ₁ S P c pre pos Q rv l nl xs ps)
    (hf : ∀ x, genFold iter env x = Pure.pure x := by intro _; rfl) (hd1 : (st == ("__debug__" : Str)) = false := by decide) (hc1 : (st == ("__classdict__" : Str)) = false := by decide) (hd2 : (x == ("__debug__" : Str)) = false := by decide)
    (he : eval (.Call (.Attribute (.Name st p1) "extend" p2) [.GeneratorExp (.Tuple [.Name x q1, .Constant (.bool false) k3 q2] k4 q4) [⟨.Name x px, iter, [], 0⟩] scope pos] [] p3) env = (do let ov ← eval (.Name st p1) env; standAt p2.atName; let (f, first) ← holding [ov] (getMethod ov "extend" pl); callWith p3 f first (backTo p3 (starEach [.GeneratorExp (.Tuple [.Name x q1, .Constant (.bool false) k3 q2] k4 q4) [⟨.Name x px, iter, [], 0⟩] scope pos] env)) []) := by rfl)
    (he2 : starEach [.GeneratorExp (.Tuple [.Name x q1, .Constant (.bool false) k3 q2] k4 q4) [⟨.Name x px, iter, [], 0⟩] scope pos] env = (false, eval (.GeneratorExp (.Tuple [.Name x q1, .Constant (.bool false) k3 q2] k4 q4) [⟨.Name x px, iter, [], 0⟩] scope pos) env) :: starEach [] env := by rfl) :
    WE W A env ρ (.Call (.Attribute (.Name st p1) "extend" p2) [.GeneratorExp (.Tuple [.Name x q1, .Constant (.bool false) k3 q2] k4 q4) [⟨.Name x px, iter, [], 0⟩] scope pos] [] p3) κ Q := by
  intro R s b p S₀
  have nx : WE W A env ρ (.Name st p1) κ fun v κ' => v = .ref S ∧ κ' = κ := WE.name ist hst hρ ⟨rfl, rfl⟩ hd1 hc1
  refine MethodCall_ (nx.seq b p S₀ fun v κ₁ s₁ S₁ F₁ q => ?_) he
  obtain ⟨rfl, rfl⟩ := q
  refine Wp.seq (t_meth (pl := pl) F.slot_list_extend (by rfl) hS (Q := fun fx κ' => fx = (.builtin "list.extend", [.ref S]) ∧ κ' = κ₁) ⟨rfl, rfl⟩) b trivial S₁ fun fx κ₂ s₂ S₂ F₂ q => ?_
  obtain ⟨rfl, rfl⟩ := q
  rw [he2]
  refine callWith_of (P := fun _ => True) rfl (fun _ _ => ⟨.machine, .inr (.inl rfl), Looks.of_pure rfl⟩) (evalArgs_plain ?_)
  show wpAny W.M A (spliced (backTo p3 ((false, eval (.GeneratorExp (.Tuple [.Name x q1, .Constant (.bool false) k3 q2] k4 q4) [⟨.Name x px, iter, [], 0⟩] scope pos) env) :: starEach [] env))) _ _ s₂
  rw [← he2]
  refine wpAny_items_cons ?_ he2
  refine wpAny_GeneratorExp_make hco hclos hcell h0 hkind a.room ?_ hf
  refine hit.seq b p S₂ fun v κ₃ s₃ S₃ F₃ q => ?_
  obtain ⟨rv, l, nl, xs, ps, rfl, G⟩ := q
  have hitr : s₃.heap.IsRevIter rv l ((xs.size : Int) - 1) := ⟨_, S₃.k _ _ G.hrv, rfl, rfl⟩
  refine wpAny_pyIter_revIter hitr ⟨W.lim b S₃, ?_⟩
  have HD := codeHd_of_K (W.inK b S₃) hhd
  have hP := S₃.k _ _ G.hP
  have hPS : P ≠ S := fun q => by have h1 := G.hP; rw [q, G.hS] at h1; simp at h1
  have hPr : P ≠ rv := fun q => by have h1 := G.hP; rw [q, G.hrv] at h1; simp [revObj] at h1
  have hSr : S ≠ rv := fun q => by have h1 := G.hS; rw [q, G.hrv] at h1; simp [revObj] at h1
  have hlr : l ≠ rv := fun q => by have h1 := G.hl; rw [q, G.hrv] at h1; simp [revObj] at h1
  have hlP : l ≠ P := fun q => by have h1 := G.hl; rw [q, G.hP] at h1; simp at h1
  have main : ∀ (code : PySem.Value) (s₄ : Shared) (κ₄ : PM) (ps' : Array PySem.Value), Sat κ₄ R s₄.heap → Fwd s₃ s₄ → (κ₃.butL [P]).le κ₄ → κ₄ P = some (tabObj ps') → TriplesOk ps'.toList → (codeAmong pos ps'.toList).isSome = true → ((codeAmong pos ps.toList).isSome = true → ps' = ps) →
      wpAny W.M A (builtinsFor env.globals env.builtins) (fun bi s₄ => ∀ h', h'.Ns s₄.heap.objs.size (fun y => if y = ".0" then some (.ref rv) else none) → Heap.SameBut s₄.heap.objs.size (s₄.heap.push { cls := .type "frame", data := .dict #[] }) h' →
        wpAny W.M A (spliced (backTo p3 (starEach [] env))) (fun vs s' => True ∧ wpAny W.M A (PySem.call (.builtin "list.extend") ([.ref S] ++ (.ref h'.objs.size :: vs)) []) (fun v s' => ∃ κ', Sat κ' R s'.heap ∧ Fwd s s' ∧ Q v κ') (fun _ _ => False) s') (fun _ _ => False)
          { s₄ with gens := s₄.gens.push (.fresh (.compStart (.GeneratorExp (.Tuple [.Name x q1, .Constant (.bool false) k3 q2] k4 q4) [⟨.Name x px, iter, [], 0⟩] scope pos) 0 (.ref rv) .none (genEnv scope [] s₄.heap.objs.size code bi env))),
                    toks := s₄.toks + 1 + 1 + 1, heap := h'.push { cls := .type "generator", data := .fields #[.int s₄.gens.size 0, .str "<genexpr>" (s₄.toks + 1), .str (env.qual ++ "<genexpr>") (s₄.toks + 1 + 1)] } }) (fun _ _ => False) s₄ := by
    intro code s₄ κ₄ ps' S₄ F₄ le₄ hP₄ htr hsome hsame
    obtain ⟨bm, ob, e1, hbne, hob, hc1, hc2, hc3⟩ := W.bmod
    obtain ⟨o, es, n, hl, hk⟩ := main_ns W.w.params
    have X := W.inK b S₄
    have MG : s₄.heap.Ns mainGlobals (fun y => nsFind es y) := ⟨_, es, n, X _ _ hl, rfl, hk, fun _ => rfl⟩
    refine wpAny_builtinsFor (by rw [hg]; exact MG) (mg_of X MG e1) hbne (S₄.r _ _ (b _ _ hob)) hc1 hc2 hc3 ?_
    intro h' hn' hs'
    have kp4 : ∀ {u : Addr} {o : Obj}, κ₃ u = some o → u ≠ P → κ₄ u = some o := fun e h => le₄ _ _ (PM.butL_some e (by simpa using h))
    have hCn := S₄.hole
    have hRC : R s₄.heap.objs.size = none := (S₄.fresh (get_size_none _)).2
    have hsz : h'.objs.size = s₄.heap.objs.size + 1 := by rw [hs'.1, Heap.size_push]
    have keep' : ∀ u ou, s₄.heap.get? u = some ou → h'.get? u = some ou := fun u ou e => hs'.extBut u ou (Nat.ne_of_lt (Heap.lt_size e)) (Heap.get?_push_of_some _ e)
    obtain ⟨oC, esC, epC, hoC, hdC, hkC, _⟩ := hn'
    generalize hCe : s₄.heap.objs.size = C at *
    have S5 : Sat (κ₄.put C oC) R h' := by
      refine ⟨fun u ou e => ?_, fun u ou e => keep' _ _ (S₄.r _ _ e), fun u ou e => ?_⟩
      · by_cases q : u = C
        · subst q; rw [PM.put_self] at e; cases e; exact hoC
        · rw [PM.put_ne _ _ q] at e; exact keep' _ _ (S₄.k _ _ e)
      · by_cases q : u = C
        · subst q; exact hRC
        · rw [PM.put_ne _ _ q] at e; exact S₄.d _ _ e
    have S6 := S5.push ({ cls := .type "generator", data := .fields #[.int s₄.gens.size 0, .str "<genexpr>" (s₄.toks + 1), .str (env.qual ++ "<genexpr>") (s₄.toks + 1 + 1)] } : Obj)
    have hI0 := S5.hole
    rw [hsz] at S6 hI0 ⊢
    have hgo : ∀ go : Obj, go = ({ cls := .type "generator", data := .fields #[.int s₄.gens.size 0, .str "<genexpr>" (s₄.toks + 1), .str (env.qual ++ "<genexpr>") (s₄.toks + 1 + 1)] } : Obj) → ∃ nm qn, go.cls = .type "generator" ∧ go.data = .fields #[.int s₄.gens.size 0, nm, qn] ∧ go.slots = #[] := fun go e => by subst e; exact ⟨_, _, rfl, rfl, rfl⟩
    generalize ({ cls := .type "generator", data := .fields #[.int s₄.gens.size 0, .str "<genexpr>" (s₄.toks + 1), .str (env.qual ++ "<genexpr>") (s₄.toks + 1 + 1)] } : Obj) = go at S6 hgo ⊢
    obtain ⟨nm, qn, go1, go2, go3⟩ := hgo go rfl
    clear hgo
    have nC : ∀ {u : Addr} {o : Obj}, κ₄ u = some o → u ≠ C := fun e => PM.ne_of hCn e
    have nI : ∀ {u : Addr} {o : Obj}, κ₄ u = some o → u ≠ C + 1 := fun e => PM.ne_of hI0 (by rw [PM.put_ne _ _ (nC e)]; exact e)
    have hIC : C + 1 ≠ C := Nat.succ_ne_self _
    have k6 : ∀ {u : Addr} {o : Obj}, κ₄ u = some o → ((κ₄.put C oC).put (C + 1) go) u = some o := fun e => by rw [PM.put_ne _ _ (nI e), PM.put_ne _ _ (nC e)]; exact e
    have h6C : ((κ₄.put C oC).put (C + 1) go) C = some oC := by rw [PM.put_ne _ _ (Ne.symm hIC), PM.put_self]
    have h6I : ((κ₄.put C oC).put (C + 1) go) (C + 1) = some go := PM.put_self ..
    have h4S := kp4 G.hS (Ne.symm hPS)
    have h4l := kp4 G.hl hlP
    have h4r := kp4 G.hrv (Ne.symm hPr)
    have h6S := k6 h4S
    have h6l := k6 h4l
    have h6r := k6 h4r
    have h6P := k6 hP₄
    have hSC := nC h4S
    have hSI := nI h4S
    have hrC := nC h4r
    have hrI := nI h4r
    have hlC := nC h4l
    have hPC := nC hP₄
    have back : ∀ {u : Addr} {o : Obj}, κ₃ u = some o → u ≠ P → ((κ₄.put C oC).put (C + 1) go) u = some o ∧ u ≠ C := fun e h => ⟨k6 (kp4 e h), nC (kp4 e h)⟩
    generalize (κ₄.put C oC).put (C + 1) go = κ₆ at S6 h6C h6I h6S h6l h6r h6P back
    refine wpAny_items_nil ⟨trivial, ?_⟩
    refine wpAny_call (codeAny_call_builtin F.slot_list_extend.plain F.entry_list_extend (F.slot_list_extend.check _ _ _ _ _ _ _ _ ⟨_, S6.k _ _ h6S, rfl⟩ (F.args_list_extend_2 _ _) ?_))
    show wpAny W.M A.in1 (Builtin.List.listExtendWith (.ref S) (.ref (C + 1)) .none) _ _ _
    have F5 : Fwd s₄ ({ s₄ with gens := s₄.gens.push (.fresh (.compStart (.GeneratorExp (.Tuple [.Name x q1, .Constant (.bool false) k3 q2] k4 q4) [⟨.Name x px, iter, [], 0⟩] scope pos) 0 (.ref rv) .none (genEnv scope [] C code builtinsNs env))), toks := s₄.toks + 1 + 1 + 1, heap := h'.push go } : Shared) := by
      refine ⟨rfl, by simp, fun j hj => ?_, fun z => AllBare.push z rfl⟩
      show (s₄.gens.push _)[j]? = _
      rw [Array.getElem?_push, if_neg (Nat.ne_of_lt hj)]
    have T := genA_it (W := W) (A := A.in1) (s₀ := s₄) (R := R) (κ₀ := κ₆.butL [S, rv, C]) (S := S) (I := C + 1) (g := s₄.gens.size) (n := xs.size) (k := k) (pre := pre) (Pm := PmT (κ₆.butL [S, rv, C]) xs) ((AOk.in1 (n := k + 4) a).less (by omega)) b (Nat.le_refl _) hSI (PM.butL_none (by simp))
      (fun acc κ ys c ys' c' e h => h.keep fun a v e2 => by rw [PM.put_ne _ _ (fun q => by subst q; rw [e] at e2; simp at e2)]; exact e2)
    refine extend_genA (A := A) (W := W) (R := R) (RR := fun r s' => match r with | .ok (.ret v) => ∃ κ', Sat κ' R s'.heap ∧ Fwd s s' ∧ Q v κ' | .ok _ => False | .error e => False) (g := s₄.gens.size) T G.sz .none ?_ ⟨go, nm, qn, S6.k _ _ h6I, go1, go2, go3⟩ S6 h6S hSI F5 ?_
    · intro κ' s' acc c' Sf hf hlen hFi Ff
      obtain ⟨le0, as, rfl, hts⟩ := hFi
      refine ⟨κ', Sf, ((((F₁.trans F₂).trans F₃).trans F₄).trans Ff), G.fin κ' as c' ps' (fun u o e => ?_) hf (by simpa using hlen) (fun j a hj => ⟨?_, (hts j a hj).2⟩) ?_ htr hsome hsame⟩
      · obtain ⟨hu, e⟩ := PM.butL_get e
        simp only [List.mem_cons, List.not_mem_nil, or_false, not_or] at hu
        obtain ⟨e6, eC⟩ := back e hu.2.2
        exact le0 _ _ (PM.butL_some e6 (by simp [hu.1, hu.2.1, eC]))
      · have h0 := (hts j a hj).1
        cases q : (κ₃.butL [S, rv, P]) a with
        | none => rfl
        | some o =>
          obtain ⟨hu, e⟩ := PM.butL_get q
          simp only [List.mem_cons, List.not_mem_nil, or_false, not_or] at hu
          obtain ⟨e6, eC⟩ := back e hu.2.2
          rw [PM.butL_some e6 (by simp [hu.1, hu.2.1, eC])] at h0; cases h0
      · exact le0 _ _ (PM.butL_some h6P (by simp [hPS, hPr, hPC]))
    · intro c'
      have ne6 : ∀ {u : Addr} {o : Obj}, κ₆ u = some o → u ≠ S → (κ₆.put S (listOf pre.toArray c')) u = some o := fun e h => by rw [PM.put_ne _ _ h]; exact e
      have isg : IsG (C + 1) s₄.gens.size (κ₆.put S (listOf pre.toArray c')) := ⟨go, nm, qn, ne6 h6I (Ne.symm hSI), go1, go2, go3⟩
      refine ⟨fun u o e => ?_, ⟨[], rfl, fun j a h => by simp at h⟩, isg, .fresh (.compStart (.GeneratorExp (.Tuple [.Name x q1, .Constant (.bool false) k3 q2] k4 q4) [⟨.Name x px, iter, [], 0⟩] scope pos) 0 (.ref rv) .none (genEnv scope [] C code builtinsNs env)), by show (s₄.gens.push _)[s₄.gens.size]? = _; simp, fun s₅ c5 hS5 B5 => ⟨rfl, ?_⟩⟩
      · obtain ⟨hu, e⟩ := PM.butL_get e
        exact ne6 e (fun q => hu (by simp [q]))
      · exact gx_start (W := W) (A := A.in1.in1) (pre := pre) (xs := xs) (nl := nl) b a.hh hx hkind hco hd2 (PM.butL_none (by simp)) (PM.butL_none (by simp)) (PM.butL_none (by simp)) hSr G.hSl hlr hSC (Ne.symm hrC) (Ne.symm hlC) (Ne.symm hrI) hIC (Ne.symm hSI) B5 isg (PM.put_self ..) (B5.sat.k _ _ (PM.put_self ..) |>.trans (PM.put_self ..).symm) ⟨_, ne6 h6r (Ne.symm hSr), rfl, rfl⟩ (ne6 h6l (Ne.symm G.hSl)) ⟨oC, esC, epC, ne6 h6C (Ne.symm hSC), hdC, hkC⟩
  cases hnf : codeAmong pos ps.toList with
  | some cv => exact wpAny_genexprCode_hit hcode (HD.code hP G.tr) hnf (main cv s₃ κ₃ ps S₃ .of (fun u o e => (PM.butL_get e).2) G.hP G.tr (by rw [hnf]; rfl) fun _ => rfl)
  | none =>
    refine wpAny_genexprCodeX hcode (HD.code hP G.tr) (HD.tab hP) hnf fun c' h' tk hx' _ _ hcode' _ htab' _ => ?_
    have RP : R P = none := S₃.d _ _ G.hP
    have htr' : TriplesOk (ps ++ #[rawInt pos.line, rawInt pos.col, .ref c']).toList := by
      have e : (ps ++ #[rawInt pos.line, rawInt pos.col, PySem.Value.ref c']).toList = ps.toList ++ [rawInt pos.line, rawInt pos.col, .ref c'] := by simp
      rw [e]; exact TriplesOk_snoc _ _ _ _ G.tr
    have hsm : (codeAmong pos (ps ++ #[rawInt pos.line, rawInt pos.col, .ref c']).toList).isSome = true := by
      have e : (ps ++ #[rawInt pos.line, rawInt pos.col, PySem.Value.ref c']).toList = ps.toList ++ [rawInt pos.line, rawInt pos.col, .ref c'] := by simp
      rw [e, codeAmong_snoc _ G.tr hnf]; rfl
    have nP : ∀ {u : Addr} {o : Obj}, R u = some o → u ≠ P := fun e q => by rw [q, RP] at e; cases e
    refine main (.ref c') { s₃ with heap := h', toks := tk } (κ₃.put P (tabObj (ps ++ #[rawInt pos.line, rawInt pos.col, .ref c']))) _ ⟨fun u o e => ?_, fun u o e => hx' _ _ (nP e) (S₃.r _ _ e), fun u o e => ?_⟩ .of (fun u o e => ?_) (PM.put_self ..) htr' hsm fun h => by rw [hnf] at h; cases h
    · by_cases q : u = P
      · subst q; rw [PM.put_self] at e; cases e; exact htab'.2
      · rw [PM.put_ne _ _ q] at e; exact hx' _ _ q (S₃.k _ _ e)
    · by_cases q : u = P
      · subst q; exact RP
      · rw [PM.put_ne _ _ q] at e; exact S₃.d _ _ e
    · obtain ⟨hu, e⟩ := PM.butL_get e
      rw [PM.put_ne _ _ (by simpa using hu)]; exact e
end Mine
end
section
open PySem PySem.W PySem.Calls PyProof.Rows PySem.SeqAt
set_option maxRecDepth 100000
set_option maxHeartbeats 1000000
set_option linter.unusedVariables false
namespace Mine
section
variable {W : Wd} {A : Around} {κ : PM} {Q : PySem.Value → PM → Prop} {l n : Nat} {xs : Array PySem.Value} {v : PySem.Value}
/-- list.append -/
theorem t_append (hl : κ l = some (listOf xs n)) (hz : xs.size ≤ 1000000) (h : ∀ c', Q .none (κ.put l (listOf (xs.push v) c'))) : Wp W A T1 (PySem.call (.builtin "list.append") [.ref l, v]) κ Q := fun R s b _ St => by
  have hpl : s.heap.PlainList l xs := ⟨n, St.k _ _ hl⟩
  refine wpAny_list_append_plain (hsz := by rw [show sizeLine = 16777216 by decide]; omega) hpl fun h' hl' hs' => ?_
  obtain ⟨c', hc'⟩ := hl'
  exact ⟨_, St.upd hl hs' hc', .of, h c'⟩
end
/-- the stack of post_order: (node, told) -/
def Stk (κ : PM) : List Addr → List (Tr × Bool) → Prop
  | [], [] => True
  | a :: r, p :: q => κ a = some (tupOf #[.ref p.1.addr, .bool p.2]) ∧ Stk κ r q
  | [], _ :: _ => False
  | _ :: _, [] => False
theorem Stk.keep {κ κ' : PM} : ∀ {as : List Addr} {ts : List (Tr × Bool)}, Stk κ as ts → (∀ a ∈ as, ∀ v, κ a = some (tupOf v) → κ' a = some (tupOf v)) → Stk κ' as ts
  | [], [], _, _ => trivial
  | a :: r, p :: q, h, k => ⟨k a (.head _) _ h.1, Stk.keep h.2 fun b hb => k b (.tail _ hb)⟩
theorem Stk.app {κ : PM} : ∀ {as bs : List Addr} {ts us : List (Tr × Bool)}, Stk κ as ts → Stk κ bs us → Stk κ (as ++ bs) (ts ++ us)
  | [], _, [], _, _, k => k
  | a :: r, _, p :: q, _, h, k => ⟨h.1, Stk.app h.2 k⟩
theorem Stk.len {κ : PM} : ∀ {as : List Addr} {ts : List (Tr × Bool)}, Stk κ as ts → as.length = ts.length
  | [], [], _ => rfl
  | a :: r, p :: q, h => by simp [Stk.len h.2]
theorem Stk.of {κ : PM} : ∀ {as : List Addr} {ts : List (Tr × Bool)}, as.length = ts.length → (∀ (i : Nat) a p, as[i]? = some a → ts[i]? = some p → κ a = some (tupOf #[.ref p.1.addr, .bool p.2])) → Stk κ as ts
  | [], [], _, _ => trivial
  | a :: r, p :: q, h, k => ⟨k 0 a p rfl rfl, Stk.of (by simpa using h) fun i b c hb hc => k (i + 1) b c hb hc⟩
/-- what is still to be told -/
def rem : List (Tr × Bool) → List Addr
  | [] => []
  | (t, true) :: r => t.addr :: rem r
  | (t, false) :: r => t.post ++ rem r
/-- the turns still to come -/
def wt : List (Tr × Bool) → Nat
  | [] => 0
  | (t, true) :: r => 1 + wt r
  | (t, false) :: r => 2 * t.pre.length + wt r
theorem rem_kids (ts : List Tr) (r : List (Tr × Bool)) : rem (ts.map (fun t => (t, false)) ++ r) = Tr.postL ts ++ rem r := by
  induction ts with
  | nil => simp [Tr.postL]
  | cons t q ih => simp [rem, Tr.postL, ih]
theorem wt_kids (ts : List Tr) (r : List (Tr × Bool)) : wt (ts.map (fun t => (t, false)) ++ r) = 2 * (Tr.preL ts).length + wt r := by
  induction ts with
  | nil => simp [Tr.preL]
  | cons t q ih => simp only [List.map_cons, List.cons_append, wt, Tr.preL, List.length_append, ih]; omega
theorem len_wt : ∀ ts : List (Tr × Bool), ts.length ≤ wt ts
  | [] => Nat.le_refl 0
  | (t, true) :: r => by have := len_wt r; simp only [List.length_cons, wt]; omega
  | (t, false) :: r => by have := len_wt r; have := t.preL_len_lt; simp only [List.length_cons, wt]; omega
theorem wt_zero {ts : List (Tr × Bool)} (h : wt ts = 0) : ts = [] := by
  have := len_wt ts
  exact List.length_eq_zero_iff.mp (by omega)
/-- the table of codes of post_order -/
def gPos : Pos := match rec206.body with
  | _ :: .While _ (_ :: .If _ _ (_ :: .Expr (.Call _ [.GeneratorExp _ _ _ p] _ _) _ :: _) _ :: _) _ _ :: _ => p
  | _ => default
def TabOk (ps₀ : Array PySem.Value) (κ : PM) : Prop := ∃ ps, κ 201 = some (tabObj ps) ∧ TriplesOk ps.toList ∧ ((codeAmong gPos ps₀.toList).isSome = true → ps = ps₀)
def TabEnd (ps₀ : Array PySem.Value) (κ : PM) : Prop := ∃ ps, κ 201 = some (tabObj ps) ∧ TriplesOk ps.toList ∧ (codeAmong gPos ps.toList).isSome = true ∧ ((codeAmong gPos ps₀.toList).isSome = true → ps = ps₀)
theorem TabEnd.ok {ps₀ : Array PySem.Value} {κ : PM} (h : TabEnd ps₀ κ) : TabOk ps₀ κ := let ⟨ps, a, b, _, d⟩ := h; ⟨ps, a, b, d⟩
abbrev T206 : Expr := (whOf rec206.body).1
abbrev B206 : List Stmt := (whOf rec206.body).2
theorem hd206 (P : Params) : codeHdIn (KF P) 205 201 = true := by kernel_rfl
end Mine
end
section
open PySem PySem.W PySem.Calls PyProof.Rows PySem.SeqAt
set_option maxRecDepth 100000
set_option maxHeartbeats 1000000
set_option linter.unusedVariables false
namespace Mine
theorem TabOk.put {ps₀ : Array PySem.Value} {κ : PM} {a : Addr} {o : Obj} (h : TabOk ps₀ κ) (ha : a ≠ 201) : TabOk ps₀ (κ.put a o) := let ⟨ps, x, r⟩ := h; ⟨ps, by rw [PM.put_ne _ _ (Ne.symm ha)]; exact x, r⟩
theorem TabEnd.put {ps₀ : Array PySem.Value} {κ : PM} {a : Addr} {o : Obj} (h : TabEnd ps₀ κ) (ha : a ≠ 201) : TabEnd ps₀ (κ.put a o) := let ⟨ps, x, r⟩ := h; ⟨ps, by rw [PM.put_ne _ _ (Ne.symm ha)]; exact x, r⟩
theorem loop206 {W : Wd} {A' : Around} {s₀ : Shared} {R κ₀ : PM} {S I : Addr} {g N : Nat} {L : Addr} {P : Nat → PySem.Value → Prop} {J : PM → Prop} {frs : List Frame} {k : Nat} {ps₀ : Array PySem.Value} (self : PySem.Value) (b : W.kB.le R) (hS : κ₀ S = none) (hSI : S ≠ I) (h1 : splitAtGen frs = none) (h2 : frs.any Frame.guarded = false) (hST : S ≠ 201) (hIT : I ≠ 201)
    (h201 : κ₀ 201 = none) (ao : AOk (A'.in1.over (.whileLoop T206 B206 [] (callEnv rec206.fd L 206)) frs) (k + 5))
    (out : ∀ ρ κ', TabEnd ps₀ κ' → SW W A' s₀ R κ₀ S I g N P J 0 (.whileLoop T206 B206 [] (callEnv rec206.fd L 206)) (.pure (.done .next)) frs (callEnv rec206.fd L 206) ρ κ') : ∀ (w m : Nat) (ts : List (Tr × Bool)) (tas : List Addr) (x y : Option PySem.Value) (κ' : PM) (st : Addr) (c : Nat),
      wt ts = w → w ≤ 2000 → (rem ts).length = m → (∀ j a, (rem ts)[j]? = some a → P (N - m + j) (.ref a)) → m ≤ N → (∀ p ∈ ts, ∃ q, At W.w.params κ₀ p.1 q) → κ₀.le κ' → κ₀ st = none → st ≠ I → st ≠ S → κ' st = some (listOf (tas.reverse.map PySem.Value.ref).toArray c) → Stk κ' tas ts → (∀ a ∈ tas, a ≠ S) →
      (∃ o, κ' I = some o) → (∃ o, κ' S = some o) → TabOk ps₀ κ' → ((∀ p ∈ ts, p.2 = true) → TabEnd ps₀ κ') →
      SW W A' s₀ R κ₀ S I g N P J m (.whileLoop T206 B206 [] (callEnv rec206.fd L 206)) (W.M.den (.whileLoop T206 B206 [] (callEnv rec206.fd L 206))) frs (callEnv rec206.fd L 206) [some self, some (.ref st), x, y, none] κ' := by
  intro w
  induction w with
  | zero =>
    intro m ts tas x y κ' st c e0 hw em hP hN hts hle hst hsI hsS hl hk hne hI hSS hT hE
    have := wt_zero e0
    subst this
    simp [rem] at em
    subst em
    have : tas = [] := by have := hk.len; simpa using this
    subst this
    refine sw_loop b <| WT.value <| WE.name 1 rfl rfl <| t_truthyList hl (by simp) ⟨hle, rfl, rfl, ?_⟩
    exact out _ _ (hE fun _ h => nomatch h)
  | succ w ih =>
    intro m ts tas x y κ' st c e0 hw em hP hN hts hle hst hsI hsS hl hk hne hI hSS hT hE
    cases ts with
    | nil => simp [wt] at e0
    | cons p r =>
    cases tas with
    | nil => exact hk.elim
    | cons a ar =>
      obtain ⟨t, bb⟩ := p
      obtain ⟨ha, hkr⟩ := hk
      obtain ⟨q, hat⟩ := hts (t, bb) (.head _)
      obtain ⟨f, l, n, i, hch, hll, _, hks⟩ := hat.kids
      have el : (a :: ar).reverse.map PySem.Value.ref = (ar.reverse.map PySem.Value.ref) ++ [.ref a] := by simp
      rw [el] at hl
      have hlen := hkr.len
      have hlw := len_wt r
      have hwr : wt r ≤ w := by
        cases bb with
        | true => simp only [wt] at e0; omega
        | false => have := t.preL_len_lt; simp only [wt] at e0; omega
      obtain ⟨oI, hI⟩ := hI
      obtain ⟨oS, hSS⟩ := hSS
      have hst201 : st ≠ 201 := fun q => by obtain ⟨ps, h, _⟩ := hT; subst q; rw [hl] at h; simp at h
      refine sw_loop b <| WT.value <| WE.name 1 rfl rfl <| t_truthyList hl (by simp; omega) ⟨hle, rfl, rfl, ?_⟩
      rw [if_pos (by simp)]
      have hast : a ≠ st := fun q => by subst q; rw [hl] at ha; simp at ha
      refine sw_stmt b <| ws_unpack ao.hh <| we_pop <| WE.name 1 rfl rfl ⟨st, _, _, c, rfl, hl, by simp; omega, fun c' => ⟨a, _, rfl, by rw [PM.put_ne _ _ hast]; exact ha, rfl, ws_order <| WS.bindN 2 rfl (.inl rfl) <| ws_order <| WS.bindN 3 rfl (.inl rfl) <| ws_order_nil ⟨rfl, fun u o e => by rw [PM.put_ne _ _ (fun q => by subst q; rw [hst] at e; cases e)]; exact hle _ _ e, PM.put_ne _ _ (Ne.symm hsI), PM.put_ne _ _ (Ne.symm hsS), ?_⟩⟩⟩
      have le1 : κ₀.le (κ'.put st (listOf (ar.reverse.map PySem.Value.ref).toArray c')) := fun u o e => by rw [PM.put_ne _ _ (fun q => by subst q; rw [hst] at e; cases e)]; exact hle _ _ e
      have hl1 : (κ'.put st (listOf (ar.reverse.map PySem.Value.ref).toArray c')) st = some (listOf (ar.reverse.map PySem.Value.ref).toArray c') := PM.put_self ..
      have hI1 : (κ'.put st (listOf (ar.reverse.map PySem.Value.ref).toArray c')) I = some oI := (PM.put_ne _ _ (Ne.symm hsI)).trans hI
      have hS1 : (κ'.put st (listOf (ar.reverse.map PySem.Value.ref).toArray c')) S = some oS := (PM.put_ne _ _ (Ne.symm hsS)).trans hSS
      have hT1 := hT.put (o := listOf (ar.reverse.map PySem.Value.ref).toArray c') hst201
      have hE1 : (∀ p ∈ ((t, bb) :: r), p.2 = true) → TabEnd ps₀ (κ'.put st (listOf (ar.reverse.map PySem.Value.ref).toArray c')) := fun h => (hE h).put hst201
      have hk1 : Stk (κ'.put st (listOf (ar.reverse.map PySem.Value.ref).toArray c')) ar r := hkr.keep fun u hu v e => by rw [PM.put_ne _ _ (fun q => by subst q; rw [hl] at e; simp at e)]; exact e
      have hner : ∀ u ∈ ar, u ≠ S := fun u hu => hne u (.tail _ hu)
      generalize κ'.put st (listOf (ar.reverse.map PySem.Value.ref).toArray c') = κ₁ at le1 hl1 hI1 hS1 hT1 hE1 hk1
      refine sw_if b <| WT.value <| WE.name 3 rfl rfl <| Wp.truthyBool ⟨le1, rfl, rfl, ?_⟩
      cases bb with
      | true =>
        rw [if_pos rfl]
        have em' : m = (rem r).length + 1 := by rw [← em]; simp [rem]
        subst em'
        refine sw_yield (m := (rem r).length) b h1 rfl h2 hSI hS <| WE.name 2 rfl rfl ⟨le1, rfl, rfl, by omega, by have := hP 0 t.addr (by simp [rem]); rw [show N - 1 - (rem r).length = N - ((rem r).length + 1) + 0 by omega]; exact this, fun o => sw_nil (sw_nil (sw_again rfl ?_))⟩
        refine ih _ r ar _ _ _ st c' (by simp only [wt] at e0; omega) (by omega) rfl (fun j z h => ?_) (by omega) (fun u hu => hts _ (.tail _ hu)) (fun u ou e => by rw [PM.put_ne _ _ (fun q => by subst q; rw [hS] at e; cases e)]; exact le1 _ _ e) hst hsI hsS ((PM.put_ne κ₁ o hsS).trans hl1) (hk1.keep fun u hu v e => by rw [PM.put_ne _ _ (hner u hu)]; exact e) hner ⟨_, (PM.put_ne κ₁ o (Ne.symm hSI)).trans hI1⟩ ⟨_, PM.put_self ..⟩ (hT1.put hST) fun h => (hE1 fun p hp => ?_).put hST
        · have := hP (j + 1) z (by simp [rem]; exact h)
          rw [show N - (rem r).length + j = N - ((rem r).length + 1) + (j + 1) by omega]; exact this
        · rcases List.mem_cons.mp hp with rfl | hp
          · rfl
          · exact h p hp
      | false =>
        rw [if_neg (by simp)]
        have ek : wt (t.kids.map (fun u => (u, false)) ++ (t, true) :: r) = w := by
          have := t.preL_len_lt
          rw [wt_kids]; simp only [wt] at e0 ⊢; omega
        have hlst : l ≠ st := fun q => by subst q; rw [hst] at hll; cases hll
        have hl201 : l ≠ 201 := fun q => by subst q; rw [h201] at hll; cases hll
        have hkl := lenL_le t.kids
        have hkw : (Tr.preL t.kids).length ≤ w := by rw [wt_kids] at ek; omega
        refine sw_stmt b <| WS.exprS <| WE.meth <| WE.name 1 rfl rfl <| t_meth F.slot_list_append (by rfl) hl1 <| call_with .builtin <| WArgs.cons <| WE.tuple <| WArgs.cons <| WE.name 2 rfl rfl <| WArgs.cons <| WE.bool <| WArgs.nil ⟨by show 2 ≤ sizeLine; decide, fun z hz => WArgs.nil ?_⟩
        have nz : ∀ {u : Addr} {o : Obj}, κ₁ u = some o → u ≠ z := fun e q => by subst q; rw [hz] at e; cases e
        refine t_append ((PM.put_ne _ _ (nz hl1)).trans hl1) (by simp; omega) fun c2 => ?_
        have hzs : z ≠ st := Ne.symm (nz hl1)
        have k2 : ∀ {u : Addr} {o : Obj}, κ₁ u = some o → u ≠ st → ((κ₁.put z (tupOf [PySem.Value.ref t.addr, .bool true].toArray)).put st (listOf ((ar.reverse.map PySem.Value.ref).toArray.push (.ref z)) c2)) u = some o := fun e h => by rw [PM.put_ne _ _ h, PM.put_ne _ _ (nz e)]; exact e
        have hz2 : ((κ₁.put z (tupOf [PySem.Value.ref t.addr, .bool true].toArray)).put st (listOf ((ar.reverse.map PySem.Value.ref).toArray.push (.ref z)) c2)) z = some (tupOf #[.ref t.addr, .bool true]) := by rw [PM.put_ne _ _ hzs, PM.put_self]
        have hl2 : ((κ₁.put z (tupOf [PySem.Value.ref t.addr, .bool true].toArray)).put st (listOf ((ar.reverse.map PySem.Value.ref).toArray.push (.ref z)) c2)) st = some (listOf ((z :: ar).reverse.map PySem.Value.ref).toArray c2) := by rw [PM.put_self]; simp
        have le2 : κ₀.le ((κ₁.put z (tupOf [PySem.Value.ref t.addr, .bool true].toArray)).put st (listOf ((ar.reverse.map PySem.Value.ref).toArray.push (.ref z)) c2)) := fun u o e => k2 (le1 _ _ e) (fun q => by subst q; rw [hst] at e; cases e)
        have hzS : z ≠ S := Ne.symm (nz hS1)
        obtain ⟨ps1, ht1, ht2, ht3⟩ := hT1
        have ht201 := k2 ht1 (Ne.symm hst201)
        have hI2 := k2 hI1 (Ne.symm hsI)
        have hS2 := k2 hS1 (Ne.symm hsS)
        have hk2 : Stk ((κ₁.put z (tupOf [PySem.Value.ref t.addr, .bool true].toArray)).put st (listOf ((ar.reverse.map PySem.Value.ref).toArray.push (.ref z)) c2)) (z :: ar) ((t, true) :: r) := ⟨hz2, hk1.keep fun u hu v e => k2 e fun q => by subst q; rw [hl1] at e; simp at e⟩
        refine ⟨rfl, le2, hI2.trans hI1.symm, hS2.trans hS1.symm, ?_⟩
        generalize (κ₁.put z (tupOf [PySem.Value.ref t.addr, .bool true].toArray)).put st (listOf ((ar.reverse.map PySem.Value.ref).toArray.push (.ref z)) c2) = κ₂ at le2 hl2 hI2 hS2 hk2 ht201
        refine sw_stmt b <| WS.exprS <| we_extendGx (k := k) 1 ao rfl rfl hl2 rfl (by decide) rfl rfl rfl rfl rfl (hd206 _) rfl ?_
        refine WE.call <| WE.blt rfl (gRev _) rfl (by decide) <| call_with .type <| WArgs.cons <| WE.attr <| WE.name 2 rfl rfl <| (i.le le2).own (own_children _ _) hch rfl <| WArgs.nil <| t_reversed (le2 _ _ hll) fun rv hrv => ?_
        have nrv : ∀ {u : Addr} {o : Obj}, κ₂ u = some o → u ≠ rv := fun e q => by subst q; rw [hrv] at e; cases e
        have k3 : ∀ {u : Addr} {o : Obj}, κ₂ u = some o → (κ₂.put rv (revObj l ((((t.kids.map Tr.addr).map PySem.Value.ref).toArray.size : Int) - 1))) u = some o := fun e => (PM.put_ne _ _ (nrv e)).trans e
        refine ⟨rv, l, n, _, ps1, rfl, PM.put_self .., k3 (le2 _ _ hll), Ne.symm hlst, k3 hl2, k3 ht201, ht2, by simp; omega, fun κ₃ as c3 ps' le3 hl3 hlas has hp1 hp2 hp3 hp4 => ?_⟩
        have keep : ∀ u o, κ₂ u = some o → u ≠ st → u ≠ 201 → κ₃ u = some o := fun u o e q1 q2 => le3 _ _ (PM.butL_some (k3 e) (by simp [q1, q2, nrv e]))
        have le4 : κ₀.le κ₃ := fun u o e => keep _ _ (le2 _ _ e) (fun q => by subst q; rw [hst] at e; cases e) (fun q => by subst q; rw [h201] at e; cases e)
        have hend : TabEnd ps₀ κ₃ := ⟨ps', hp1, hp2, hp3, fun h => by have e1 := ht3 h; subst e1; exact hp4 h⟩
        refine ⟨rfl, le4, (keep _ _ hI2 (Ne.symm hsI) hIT).trans hI2.symm, (keep _ _ hS2 (Ne.symm hsS) hST).trans hS2.symm, sw_nil (sw_nil (sw_again rfl ?_))⟩
        have er : rem (t.kids.map (fun u => (u, false)) ++ (t, true) :: r) = rem ((t, false) :: r) := by rw [rem_kids]; simp [rem, Tr.post_eq]
        have hsz : (((t.kids.map Tr.addr).map PySem.Value.ref).toArray).size = t.kids.length := by simp
        rw [hsz] at hlas has
        refine ih m (t.kids.map (fun u => (u, false)) ++ (t, true) :: r) (as.reverse ++ z :: ar) _ _ κ₃ st c3 ek (by omega) (by rw [er]; exact em) (fun j a h => hP j a (by rw [← er]; exact h)) hN (fun p hp => ?_) le4 hst hsI hsS (by rw [hl3]; simp) (Stk.app ?_ (hk2.keep fun u hu v e => keep _ _ e (fun q => ?_) fun q => ?_)) (fun u hu => ?_) ⟨_, keep _ _ hI2 (Ne.symm hsI) hIT⟩ ⟨_, keep _ _ hS2 (Ne.symm hsS) hST⟩ hend.ok fun _ => hend
        · rcases List.mem_append.mp hp with h | h
          · obtain ⟨u, hu, rfl⟩ := List.mem_map.mp h
            exact ⟨_, hks _ hu⟩
          · rcases List.mem_cons.mp h with rfl | h
            · exact ⟨q, hat⟩
            · exact hts _ (.tail _ h)
        · refine Stk.of (by simp [hlas]) fun i a p ha hp => ?_
          have hi : i < as.length := by have := (List.getElem?_eq_some_iff.mp ha).1; simpa using this
          rw [List.getElem?_reverse hi] at ha
          obtain ⟨_, y, hy1, hy2⟩ := has _ _ ha
          rw [List.getElem?_map] at hp
          obtain ⟨u, hu, rfl⟩ := Option.map_eq_some_iff.mp hp
          have : t.kids.length - 1 - (as.length - 1 - i) = i := by omega
          rw [this] at hy1
          simp [hu] at hy1
          subst hy1; exact hy2
        · subst q; rw [hl2] at e; simp at e
        · subst q; rw [ht201] at e; simp at e
        · rcases List.mem_append.mp hu with h | h
          · obtain ⟨j, hj⟩ := List.getElem?_of_mem (List.mem_reverse.mp h)
            have h0 := (has j u hj).1
            intro q
            rw [q, PM.butL_some ((PM.put_ne _ _ (nrv hS2)).trans hS2) (by simp [Ne.symm hsS, hST, nrv hS2])] at h0; cases h0
          · rcases List.mem_cons.mp h with rfl | h
            · exact hzS
            · exact hner u h
end Mine
end
section
open PySem PySem.W PySem.Calls PyProof.Rows PySem.SeqAt
set_option maxRecDepth 100000
set_option maxHeartbeats 1000000
set_option linter.unusedVariables false
namespace Mine
/-- all of a class is kept -/
def Kp (κ κ' : PM) : Prop := ∀ b o, κ b = some o → o.cls ≠ .none → κ' b = some o
theorem Inst.kp {P : Params} {κ κ' : PM} {C : Addr} {names : List Str} {a d : Addr} {f : Str → Option PySem.Value} (h : Inst P κ C names a d f) (l : Kp κ κ') : Inst P κ' C names a d f :=
  let ⟨h1, es, n, h2, h3⟩ := h; ⟨l _ _ h1 (by simp), es, n, l _ _ h2 (by simp), h3⟩
theorem LeafF.kp {κ κ' : PM} {f : Str → Option PySem.Value} {ty : Int} {val pre : Str} {par : Option Addr} (h : LeafF κ f ty val pre par) (l : Kp κ κ') : LeafF κ' f ty val pre par :=
  ⟨h.ty, h.val, h.pre, let ⟨a, n, x, y⟩ := h.ch; ⟨a, n, x, l _ _ y (by simp)⟩, let ⟨a, n, x, y⟩ := h.fx; ⟨a, n, x, l _ _ y (by simp)⟩, h.line, h.col, h.bd, h.par, h.wc⟩
theorem NodeF.kp {κ κ' : PM} {f : Str → Option PySem.Value} {ty : Int} {lc : Addr} {cs : List Addr} {par : Option Addr} (h : NodeF κ f ty lc cs par) (l : Kp κ κ') : NodeF κ' f ty lc cs par :=
  ⟨h.ty, h.ch, let ⟨n, x⟩ := h.li; ⟨n, l _ _ x (by simp)⟩, h.fx, h.pm, h.nm, h.par, h.wc⟩
mutual
theorem At.kp {P : Params} {κ κ' : PM} (l : Kp κ κ') : ∀ {t : Tr} {par : Option Addr}, At P κ t par → At P κ' t par
  | .leaf a d ty val pre, par, h => by
    unfold At at h ⊢
    obtain ⟨f, i, F⟩ := h
    exact ⟨f, i.kp l, F.kp l⟩
  | .node a d lc ty ch, par, h => by
    unfold At at h ⊢
    obtain ⟨⟨f, i, F⟩, c⟩ := h
    exact ⟨⟨f, i.kp l, F.kp l⟩, AtL.kp l c⟩
theorem AtL.kp {P : Params} {κ κ' : PM} (l : Kp κ κ') : ∀ {ts : List Tr} {q : Addr}, AtL P κ ts q → AtL P κ' ts q
  | [], _, _ => by unfold AtL; trivial
  | t :: r, q, h => by
    unfold AtL at h ⊢
    exact ⟨At.kp l h.1, AtL.kp l h.2⟩
end
theorem kp_tab {κ : PM} {ps : Array PySem.Value} (h : κ 201 = some (tabObj ps)) : Kp κ (κ.butL [201]) := fun b o e hc => PM.butL_some e (by
  simp only [List.mem_singleton]
  intro q; subst q; rw [h] at e; cases e; exact hc rfl)
theorem gen206 {W : Wd} {k : Nat} {κ : PM} {t : Tr} {par : Option Addr} {ps₀ : Array PySem.Value} (hat : At W.w.params κ t par) (hlen : t.pre.length ≤ 1000) (h201 : κ 201 = some (tabObj ps₀)) (htr : TriplesOk ps₀.toList) :
    GenBody W rec206 (k + 7) (κ.butL [201]) κ (TabEnd ps₀) [some (.ref t.addr), Option.none, Option.none, Option.none, Option.none] t.post.length (isRef t.post) := fun A' s₀ R S I g L κ' ao b hS hSI hle isg hs => by
  obtain ⟨oI, nm, qn, hI, hI1, hI2, hI3⟩ := isg
  obtain ⟨oS, hS'⟩ := hs
  have h201' := hle _ _ h201
  have hST : S ≠ 201 := fun q => by subst q; rw [h201] at hS; cases hS
  have hIT : I ≠ 201 := fun q => by subst q; rw [h201'] at hI; cases hI; simp at hI1
  have le0 : (κ.butL [201]).le κ' := fun u o e => hle _ _ (PM.butL_get e).2
  have hS0 : (κ.butL [201]) S = Option.none := by
    show (if S ∈ [201] then Option.none else κ S) = _
    rw [hS]; split <;> rfl
  refine sw_stmt b <| WS.assign 1 rfl (.inl rfl) <| WE.list <| WArgs.cons <| WE.tuple <| WArgs.cons <| WE.name 0 rfl rfl <| WArgs.cons <| WE.bool <| WArgs.nil ⟨by show 2 ≤ sizeLine; decide, fun z hz => WArgs.nil ⟨by show 1 ≤ sizeLine; decide, fun st hst => ?_⟩⟩
  have l1 := PM.put_fresh hz (tupOf [PySem.Value.ref t.addr, .bool false].toArray)
  have l2 : κ'.le ((κ'.put z (tupOf [PySem.Value.ref t.addr, .bool false].toArray)).put st (listOf [PySem.Value.ref z].toArray 0)) := l1.trans (PM.put_fresh hst _)
  have hst' := PM.le.none l1 hst
  have fresh : ∀ {u : Addr}, κ' u = Option.none → (κ.butL [201]) u = Option.none := fun e => PM.le.none le0 e
  have nI : st ≠ I := fun q => by subst q; rw [hst'] at hI; cases hI
  have nS : st ≠ S := fun q => by subst q; rw [hst'] at hS'; cases hS'
  have zS : z ≠ S := fun q => by subst q; rw [hz] at hS'; cases hS'
  have zst : z ≠ st := fun q => by subst q; rw [PM.put_self] at hst; cases hst
  refine ⟨rfl, le0.trans l2, (l2 _ _ hI).trans hI.symm, (l2 _ _ hS').trans hS'.symm, sw_while fun p => ?_⟩
  have hwt : wt [(t, false)] = 2 * t.pre.length := by simp [wt]
  have hrem : rem [(t, false)] = t.post := by simp [rem]
  refine loop206 (k := k) (N := t.post.length) (ps₀ := ps₀) _ b hS0 hSI rfl rfl hST hIT (PM.butL_none (by simp)) (over_aok2 (k := k + 5) (AOk.in1 (n := k + 6) ao)) (fun ρ κ₁ hE => sw_out (sw_nil (sw_end fun φ hφ => ?_))) (2 * t.pre.length) t.post.length [(t, false)] [z] _ _ _ st 0 hwt (by omega) (by rw [hrem]) (fun j a h => ⟨a, rfl, ?_⟩) (Nat.le_refl _) (fun u hu => ?_) (le0.trans l2) (fresh hst') nI nS (PM.put_self ..) ⟨?_, trivial⟩ (fun a ha => by rw [List.mem_singleton.mp ha]; exact zS) ⟨_, l2 _ _ hI⟩ ⟨_, l2 _ _ hS'⟩ ⟨ps₀, l2 _ _ h201', htr, fun _ => rfl⟩ fun h => ?_
  · obtain ⟨ps, e1, r⟩ := hE
    exact ⟨ps, by rw [un_right (hφ _ _ e1)]; exact e1, r⟩
  · rw [hrem] at h; simpa using h
  · rw [List.mem_singleton.mp hu]; exact ⟨_, hat.kp (kp_tab h201)⟩
  · rw [PM.put_ne _ _ zst, PM.put_self]
  · have := h (t, false) (.head _); cases this
end Mine
end
section
open PySem PySem.W PySem.Calls PyProof.Rows PySem.SeqAt
set_option maxRecDepth 100000
set_option maxHeartbeats 1000000
set_option linter.unusedVariables false
namespace Mine
open PySem.F in
theorem ownerMap : Manifest.owners.lookup (String.ofList ['p', 'a', 'm'].reverse) = some Manifest.sig_map := by kernel_rfl
theorem slotMapNext : Slot "map" "__next__" "map.__next__" :=
  .of (owner := "map") (n := "__next__") (by rw [typeLookup_type, builtinLookup_eq_fast]; kernel_rfl) (by decide +kernel) (by decide +kernel) (by decide +kernel)
    (by first | exact .inl (by decide +kernel) | exact .inr (by decide +kernel)) (by rw [isSubtype_type]; kernel_rfl)
theorem slotMapIter : Slot "map" "__iter__" "map.__iter__" :=
  .of (owner := "map") (n := "__iter__") (by rw [typeLookup_type, builtinLookup_eq_fast]; kernel_rfl) (by decide +kernel) (by decide +kernel) (by decide +kernel)
    (by first | exact .inl (by decide +kernel) | exact .inr (by decide +kernel)) (by rw [isSubtype_type]; kernel_rfl)
theorem slotMapInit : Slot "map" "__init__" "object.__init__" :=
  .of (owner := "object") (n := "__init__") (by rw [typeLookup_type, builtinLookup_eq_fast]; kernel_rfl) (by decide +kernel) (by decide +kernel) (by decide +kernel)
    (by first | exact .inl (by decide +kernel) | exact .inr (by decide +kernel)) (by rw [isSubtype_type]; kernel_rfl)
theorem entryMapNext : entryFor table "map.__next__" = some Builtin.«map.__next__» := entryFor_of_tree (by kernel_rfl)
theorem argsMapNext (a : PySem.Value) : argsOk "map.__next__" ⟨[a], []⟩ := by
  unfold argsOk; rw [signature?_of (id := "map.__next__") (n := ['_', '_', 't', 'x', 'e', 'n', '_', '_']) (o := ['p', 'a', 'm']) (by kernel_rfl) ownerMap]; kernel_rfl
theorem argsMapIter (a : PySem.Value) : argsOk "map.__iter__" ⟨[a], []⟩ := by
  unfold argsOk; rw [signature?_of (id := "map.__iter__") (n := ['_', '_', 'r', 'e', 't', 'i', '_', '_']) (o := ['p', 'a', 'm']) (by kernel_rfl) ownerMap]; kernel_rfl
theorem entryMapIter : entryFor table "map.__iter__" = some Builtin.«dict_keyiterator.__iter__» :=
  entryFor_alias (id' := "dict_keyiterator.__iter__") (by kernel_rfl) (by first | rfl | decide +kernel | (unfold String.splitOn; simp +decide [String.splitOnAux])) (by decide +kernel) (by kernel_rfl)
theorem mroMap : mroOf (.type "map") = Pure.pure [.type "map", .type "object"] := by rw [mroOf_type]; kernel_rfl
theorem lookupMapNew : typeLookup (.type "map") "__new__" = Pure.pure (some (.builtin "map.__new__")) := by rw [typeLookup_type, builtinLookup_eq_fast]; kernel_rfl
theorem calledMap : TypeCalled "map" "map.__new__" "object.__init__" :=
  ⟨by decide +kernel, by decide +kernel, ⟨_, _, mroMap⟩, madeBy_type mroMap lookupMapNew (by decide +kernel), by decide +kernel, by rw [isSubtype_type]; kernel_rfl, slotMapInit⟩
theorem typeCallMap (a b : PySem.Value) : checkTypeCall "map" ⟨[a, b], []⟩ = Pure.pure () := by kernel_rfl
theorem newCallMap (a b : PySem.Value) : checkBuiltinCall "map.__new__" ⟨[.type "map", a, b], []⟩ = Pure.pure () := by kernel_rfl
theorem entryMapNew : entryFor table "map.__new__" = some Builtin.«map.__new__» := entryFor_of_tree (by kernel_rfl)
theorem subMap : isSubtype (.type "map") (.type "map") = Pure.pure true := by rw [isSubtype_type]; kernel_rfl
theorem noLenMap : typeLookup (.type "map") "__len__" = Pure.pure none := by rw [typeLookup_type, builtinLookup_eq_fast]; kernel_rfl
theorem noHintMap : typeLookup (.type "map") "__length_hint__" = Pure.pure none := by rw [typeLookup_type, builtinLookup_eq_fast]; kernel_rfl
abbrev liObj (l : Addr) : Obj := { cls := .type "list_iterator", data := .fields #[.ref l, .int 0 0] }
abbrev mapObj (TI : Addr) (f : PySem.Value) : Obj := { cls := .type "map", data := .fields #[.ref TI, f] }
theorem meetsMapNew (f : PySem.Value) (l : Addr) (xs : Array PySem.Value) : Meets (Builtin.«map.__new__» ⟨[.type "map", f, .ref l], []⟩) (fun _ R s => s.heap.IsList l xs ∧
      R (.ok (.ret (.ref ((s.heap.push (liObj l)).push (tupOf #[.ref s.heap.objs.size])).objs.size))) { s with heap := ((s.heap.push (liObj l)).push (tupOf #[.ref s.heap.objs.size])).push (mapObj (s.heap.push (liObj l)).objs.size f) }) :=
  .of_wp fun prog w A R s h => by
    obtain ⟨hp, g, d, tk, os⟩ := s; obtain ⟨hl, h⟩ := h
    have hsub := subMap
    have hL1 : Heap.IsList (Shared.heap ⟨hp, g, d, tk, os⟩) l xs := hl
    wp_walk using wpAny_pyIter_list hL1
    exact ⟨_, rfl, h⟩
end Mine
end
section
open PySem PySem.W PySem.Calls PyProof.Rows PySem.SeqAt
set_option maxRecDepth 100000
set_option maxHeartbeats 1000000
set_option linter.unusedVariables false
namespace Mine
section
variable {W : Wd} {A : Around} {κ : PM} {Q : PySem.Value → PM → Prop} {l n : Nat} {xs : Array PySem.Value} {f : PySem.Value}
/-- map(f, list) -/
theorem t_map (hl : κ l = some (listOf xs n)) (h : ∀ it TI mp, κ it = none → κ TI = none → κ mp = none → it ≠ TI → it ≠ mp → TI ≠ mp → Q (.ref mp) (((κ.put it (liObj l)).put TI (tupOf #[.ref it])).put mp (mapObj TI f))) :
    Wp W A T1 (PySem.call (.type "map") [f, .ref l]) κ Q := fun R s b _ S => by
  have hL : s.heap.IsList l xs := ⟨_, S.k _ _ hl, rfl, n, rfl⟩
  have S1 := S.push (liObj l)
  have S2 := S1.push (tupOf #[.ref s.heap.objs.size])
  have S3 := S2.push (mapObj (s.heap.push (liObj l)).objs.size f)
  have e1 : (s.heap.push (liObj l)).objs.size = s.heap.objs.size + 1 := Heap.size_push ..
  have e2 : ((s.heap.push (liObj l)).push (tupOf #[.ref s.heap.objs.size])).objs.size = s.heap.objs.size + 2 := by rw [Heap.size_push, e1]
  refine callType_new calledMap (by decide) (typeCallMap _ _) (newCallMap _ _) (fun obj => PySem.F.args_object_init_3 obj _ _) entryMapNew (meetsMapNew f l xs) ⟨hL, ?_⟩
  show _ ∧ _
  refine ⟨⟨_, Heap.get?_push_size _ rfl, rfl⟩, ?_⟩
  have n0 := S.hole
  have n1 := S1.hole
  have n2 := S2.hole
  rw [e2, e1] at n2
  rw [e1] at n1 S2 S3
  rw [e2] at S3
  rw [e2]
  have a1 : κ (s.heap.objs.size + 1) = none := by rw [PM.put_ne _ _ (Nat.succ_ne_self _)] at n1; exact n1
  have a2 : κ (s.heap.objs.size + 2) = none := by
    rw [PM.put_ne _ _ (by show (s.heap.objs.size + 2 : Nat) ≠ s.heap.objs.size + 1; omega), PM.put_ne _ _ (by show (s.heap.objs.size + 2 : Nat) ≠ s.heap.objs.size; omega)] at n2; exact n2
  rw [e1]
  exact ⟨_, S3, .of, h _ _ _ n0 a1 a2 (by show (s.heap.objs.size : Nat) ≠ s.heap.objs.size + 1; omega) (by show (s.heap.objs.size : Nat) ≠ s.heap.objs.size + 2; omega) (by show (s.heap.objs.size + 1 : Nat) ≠ s.heap.objs.size + 2; omega)⟩
end
def LiAt (κ : PM) (it l : Addr) (i : Nat) : Prop := ∃ o, κ it = some o ∧ o.cls = .type "list_iterator" ∧ o.data = .fields #[.ref l, rawInt i]
def MapSt (κ₀ : PM) (mp TI it l : Addr) (xs : Array PySem.Value) (n : Nat) (f : PySem.Value) (i : Nat) (κ : PM) (_ : Array GenState) : Prop :=
  κ₀.le κ ∧ (i = xs.size + 1 ∨ (i ≤ xs.size ∧ κ mp = some (mapObj TI f) ∧ κ TI = some (tupOf #[.ref it]) ∧ LiAt κ it l i ∧ κ l = some (listOf xs n)))
theorem it_map {W : Wd} {A : Around} {s₀ : Shared} {R κ₀ : PM} {S mp TI it l n : Nat} {xs : Array PySem.Value} {f : PySem.Value} {P : Nat → PySem.Value → Prop} (hh : A.handled = none) (b : W.kB.le R) (hS0 : κ₀ S = none) (hi0 : κ₀ it = none) (hSm : S ≠ mp) (hST : S ≠ TI) (hSi : S ≠ it) (hSl : S ≠ l) (hmi : mp ≠ it) (hTi : TI ≠ it) (hli : l ≠ it)
    (hel : ∀ (i : Nat) v (κ : PM), xs[i]? = some v → κ₀.le κ → Wp W A.in1 T1 (PySem.call f [v]) κ fun r κ' => κ.le κ' ∧ P i r) : It W A s₀ R S mp xs.size P (MapSt κ₀ mp TI it l xs n f) := by
  refine ⟨fun i κ s hi hSo St hG F => ?_, fun κ s hSo St hG F => ?_, fun i κ gens o hG => ?_⟩
  · obtain ⟨hκ, hG⟩ := hG
    rcases hG with e | ⟨hle, hmp, hTI, hit, hl⟩
    · omega
    have hT : s.TypeIs (.ref mp) "map" := ⟨_, St.k _ _ hmp, rfl⟩
    unfold pyNext
    refine wpAny_bind (wpAny_attempt (wpAny_callSpecial?_slot (name := Str.ofString "__next__") hT slotMapNext (wpAny_call_entry slotMapNext hT entryMapNext ?_ (argsMapNext _))))
    unfold Builtin.«map.__next__»
    refine wpAny_bind (wpAny_of_eq (a := (PySem.Value.ref mp, [])) rfl ?_)
    try dsimp only
    refine wpAny_bind (wpAny_field (St.k _ _ hmp) rfl (x := .ref TI) rfl ?_)
    refine wpAny_bind (wpAny_seqItems (St.k _ _ hTI) rfl ?_)
    dsimp only
    simp only [List.forIn_toArray, List.forIn_cons, List.forIn_nil]
    refine wpAny_bind (wpAny_bind (wpAny_bind (wpAny_holding ?_)))
    obtain ⟨oi, hi1, hi2, hi3⟩ := hit
    have hLI : s.heap.IsListIter it l i := ⟨oi, St.k _ _ hi1, hi2, hi3⟩
    have hL : s.heap.IsList l xs := ⟨_, St.k _ _ hl, rfl, n, rfl⟩
    have hx : xs[i]? = some (xs[i]'hi) := Array.getElem?_eq_getElem hi
    refine wpAny_nextOf_list_item hLI hL hx fun h₁ hLI₁ hs₁ => wpAny_pure (wpAny_pure ?_)
    obtain ⟨o', ho1, ho2, ho3⟩ := hLI₁
    have S₁ : Sat (κ.put it o') R h₁ := St.upd hi1 hs₁ ho1
    have k1 : ∀ {u : Addr} {o : Obj}, κ u = some o → u ≠ it → (κ.put it o') u = some o := fun e h => (PM.put_ne _ _ h).trans e
    have hle1 : κ₀.le (κ.put it o') := fun u o e => k1 (hκ _ _ e) (PM.ne_of hi0 e)
    refine wpAny_bind (wpAny_field (S₁.k _ _ (k1 hmp hmi)) rfl (x := f) rfl ?_)
    refine wpAny_bind (wpAny_holding ?_)
    refine (hel i _ _ hx hle1).seq (s := { s with heap := h₁ }) b trivial S₁ fun r κ₂ s₂ S₂ F₂ q => ?_
    obtain ⟨le2, hP⟩ := q
    refine wpAny_bind (wpAny_letGo (wpAny_pure ⟨r, rfl, wpAny_pure ?_⟩))
    obtain ⟨oS, hS⟩ := hSo
    exact ⟨r, κ₂, rfl, hP, S₂, (F.trans (.of (s := s) (s' := { s with heap := h₁ }))).trans F₂, ⟨hle1.trans le2, .inr ⟨hi, le2 _ _ (k1 hmp hmi), le2 _ _ (k1 hTI hTi), ⟨o', le2 _ _ (PM.put_self ..), ho2, ho3⟩, le2 _ _ (k1 hl hli)⟩⟩, by rw [le2 _ _ (k1 hS hSi), hS]⟩
  · obtain ⟨hκ, hG⟩ := hG
    rcases hG with e | ⟨hle, hmp, hTI, hit, hl⟩
    · omega
    have hT : s.TypeIs (.ref mp) "map" := ⟨_, St.k _ _ hmp, rfl⟩
    obtain ⟨oi, hi1, hi2, hi3⟩ := hit
    unfold pyNext
    refine wpAny_bind (wpAny_attempt (wpAny_callSpecial?_slot (name := Str.ofString "__next__") hT slotMapNext (wpAny_call_entry slotMapNext hT entryMapNext ?_ (argsMapNext _))))
    unfold Builtin.«map.__next__»
    refine wpAny_bind (wpAny_of_eq (a := (PySem.Value.ref mp, [])) rfl ?_)
    try dsimp only
    refine wpAny_bind (wpAny_field (St.k _ _ hmp) rfl (x := .ref TI) rfl ?_)
    refine wpAny_bind (wpAny_seqItems (St.k _ _ hTI) rfl ?_)
    dsimp only
    simp only [List.forIn_toArray, List.forIn_cons, List.forIn_nil]
    refine wpAny_bind (wpAny_bind (wpAny_bind (wpAny_holding ?_)))
    have hLI : s.heap.IsListIter it l xs.size := ⟨oi, St.k _ _ hi1, hi2, hi3⟩
    have hL : s.heap.IsList l xs := ⟨_, St.k _ _ hl, rfl, n, rfl⟩
    refine wpAny_nextOf_list_end hh hLI hL (Array.getElem?_eq_none (Nat.le_refl _)) fun h₁ e hs₁ he => ?_
    obtain ⟨oe, hoe, hce⟩ := he
    refine wpAny_bind (wpAny_isInstance (T := "StopIteration") (b := true) ⟨oe, hoe, hce⟩ isSubtype_stop ?_)
    obtain ⟨oS, hS⟩ := hSo
    refine wpAny_pure ⟨rfl, κ.butL [it], ⟨fun u o e => ?_, fun u o e => ?_, fun u o e => St.d _ _ (PM.butL_get e).2⟩, F.trans .of, ⟨fun u o e => PM.butL_some (hκ _ _ e) (by simpa using PM.ne_of hi0 e), .inl rfl⟩, by rw [hS]; exact PM.butL_some hS (by simpa using hSi)⟩
    · obtain ⟨hu, e⟩ := PM.butL_get e
      exact hs₁ _ _ (by simpa using hu) (St.k _ _ e)
    · have : u ≠ it := fun q => by subst q; rw [St.d _ _ hi1] at e; cases e
      exact hs₁ _ _ this (St.r _ _ e)
  · obtain ⟨hκ, hG⟩ := hG
    refine ⟨fun u ou e => by rw [PM.put_ne _ _ (PM.ne_of hS0 e)]; exact hκ _ _ e, ?_⟩
    rcases hG with e | ⟨hle, hmp, hTI, ⟨oi, hi1, hi2⟩, hl⟩
    · exact .inl e
    · exact .inr ⟨hle, (PM.put_ne _ _ (Ne.symm hSm)).trans hmp, (PM.put_ne _ _ (Ne.symm hST)).trans hTI, ⟨oi, (PM.put_ne _ _ (Ne.symm hSi)).trans hi1, hi2⟩, (PM.put_ne _ _ (Ne.symm hSl)).trans hl⟩
end Mine
end
section
open PySem PySem.W PySem.Calls PyProof.Rows PySem.SeqAt
set_option maxRecDepth 100000
set_option maxHeartbeats 1000000
set_option linter.unusedVariables false
namespace Mine
theorem iterMap {W : Wd} {A : Around} {s : Shared} {mp TI : Addr} {f : PySem.Value} {Q : PySem.Value → Shared → Prop} {E : PySem.Value → Shared → Prop} (hm : s.heap.get? mp = some (mapObj TI f)) (h : Q (.ref mp) s) : wpAny W.M A (pyIter (.ref mp)) Q E s := by
  have hT : s.TypeIs (.ref mp) "map" := ⟨_, hm, rfl⟩
  refine wpAny_pyIter_slot hT slotMapIter (wpAny_call_entry slotMapIter hT entryMapIter ?_ (argsMapIter _))
  show wpAny _ _ (ret (.ref mp)) _ _ s
  exact wpAny_pure ⟨_, rfl, "map", _, hT, slotMapNext.lookup, h⟩
section
variable {W : Wd} {A : Around} {s₀ : Shared} {I n g : Nat} {P : Nat → PySem.Value → Prop} {G : Nat → PM → Array GenState → Prop}
theorem extend_map {S TI : Addr} {f : PySem.Value} {R : PM} (T : It W A.in1 s₀ R S I n P G) (hn : n ≤ 1000000) (res : PySem.Value) {RR : Result → Shared → Prop} {κ : PM} {s : Shared} {c : Nat}
    (fin : ∀ κ s (acc : List PySem.Value) c, Sat κ R s.heap → κ S = some (listOf acc.toArray c) → acc.length = n → (∀ j v, acc[j]? = some v → P j v) → Fwd s₀ s → G (n + 1) κ s.gens → RR (.ok (.ret res)) s)
    (hm : κ I = some (mapObj TI f)) (St : Sat κ R s.heap) (hS0 : κ S = some (listOf #[] c)) (hSI : S ≠ I) (F : Fwd s₀ s) (g0 : G 0 κ s.gens) :
    wpAny W.M A.in1 (Builtin.List.listExtendWith (.ref S) (.ref I) res) (fun fin s' => match fin with | .done f => RR (.ok f) s' | .again c' => c'.quiet = true ∧ codeAny W.M A c' RR s') (fun e s' => RR (.error e) s') s := by
  have hS := St.k _ _ hS0
  have hT : s.TypeIs (.ref I) "map" := ⟨_, St.k _ _ hm, rfl⟩
  unfold Builtin.List.listExtendWith
  refine wpAny_bind (wpAny_typeOf hT ?_)
  have h1 : Builtin.List.listSameRef (.ref S) (.ref I) = false := by simp [Builtin.List.listSameRef, hSI]
  have h2 : (PySem.Value.type "map" == PySem.Value.type "list") = false := by decide
  have h3 : (PySem.Value.type "map" == PySem.Value.type "tuple") = false := by decide
  simp only [h1, h2, h3, Bool.or_false, Bool.false_eq_true, if_false]
  refine wpAny_bind (iterMap (St.k _ _ hm) ?_)
  refine wpAny_bind (wpAny_holding ?_)
  unfold Builtin.List.listLengthHint
  refine wpAny_bind (wpAny_specialOf hT noLenMap ?_)
  show wpAny _ A.in1 (specialOf (PySem.Value.ref I) (Str.ofString "__length_hint__") >>= _) _ _ _
  refine wpAny_bind (wpAny_specialOf hT noHintMap ?_)
  refine wpAny_pure ?_
  show wpAny _ A.in1 (rule "list.extend.makes-room" >>= fun _ => Builtin.List.listTouch (.ref S) >>= fun _ => again (.builtin "list.extend.loop" ⟨[.ref S, .ref I, res], []⟩)) _ _ _
  refine wpAny_bind (wpAny_rule ?_)
  refine wpAny_bind ?_
  show wpAny _ A.in1 (updateSeq S (·.push .none) >>= fun _ => updateSeq S (·.pop)) _ _ _
  refine wpAny_bind (wpAny_updateSeq hS rfl ?_)
  have hS₂ := Heap.get?_update_self (Obj.mapSeq (·.push PySem.Value.none)) hS rfl
  refine wpAny_updateSeq (hz := by seq_fits) hS₂ rfl ?_
  have hS₃ := Heap.get?_update_self (Obj.mapSeq (·.pop)) hS₂ rfl
  have S₂ : Sat (κ.put S _) R _ := St.upd hS0 ((Heap.SameBut.update ..).trans (Heap.SameBut.update ..)) hS₃
  refine wpAny_pure ⟨plainId_quiet PySem.F.plain_extend_loop _, ?_⟩
  exact extend_loop T [] (by simpa using hn) res fin n 0 _ _ [] _ rfl (Nat.zero_le _) S₂ (PM.put_self ..) rfl (fun j v h => by simp at h) (F.trans .of) (T.stab _ _ _ _ g0)
theorem collect_map {TI : Addr} {f : PySem.Value} {R κ : PM} {s : Shared} (T : It W A.in1 s₀ R s.heap.objs.size I n P G) (hn : n ≤ 1000000) (hm : κ I = some (mapObj TI f)) (St : Sat κ R s.heap) (F : Fwd s₀ s) (g0 : G 0 κ s.gens) {Q : List PySem.Value → Shared → Prop} {E : PySem.Value → Shared → Prop}
    (hQ : ∀ κ' s' (acc : List PySem.Value), Sat κ' R s'.heap → acc.length = n → (∀ j v, acc[j]? = some v → P j v) → Fwd s₀ s' → G (n + 1) κ' s'.gens → Q acc s') : wpAny W.M A (collect (.ref I)) Q E s := by
  have hSI : s.heap.objs.size ≠ I := (Nat.ne_of_lt (Heap.lt_size (St.k _ _ hm))).symm
  unfold collect
  refine wpAny_bind (wpAny_runValue (codeAny_builtin PySem.F.entry_proto_collect ?_))
  rw [Around.under_plainId PySem.F.plain_proto_collect _]
  show wpAny _ A.in1 (newList [] >>= fun l => again (.builtin "list.__iadd__" ⟨[l, .ref I], []⟩)) _ _ s
  refine wpAny_bind (wpAny_newObj_type ?_)
  refine wpAny_pure ⟨plainId_quiet PySem.F.plain_list_iadd _, codeAny_builtin PySem.F.entry_list_iadd ?_⟩
  rw [Around.under_plainId PySem.F.plain_list_iadd _]
  show wpAny _ A.in1 (Builtin.List.listExtendWith (.ref s.heap.objs.size) (.ref I) (.ref s.heap.objs.size)) _ _ _
  have S1 := St.push (listOf ([] : List PySem.Value).toArray 0)
  have fin : ∀ (acc : List PySem.Value) (c : Nat) (s' : Shared), s'.heap.get? s.heap.objs.size = some (listOf acc.toArray c) → Q acc s' → wpAny W.M A (load s.heap.objs.size >>= fun o => match o.data with | .seq xs _ => (Pure.pure xs.toList : Sem (List PySem.Value)) | _ => unsupported "internal:collect") Q E s' :=
    fun acc c s' h1 h2 => wpAny_bind (wpAny_load h1 (wpAny_pure (by simpa using h2)))
  refine wpAny_mono (extend_map (A := A) (s := { s with heap := s.heap.push (listOf ([] : List PySem.Value).toArray 0) }) (RR := fun r s' => ∃ (acc : List PySem.Value) (c : Nat), r = .ok (.ret (.ref s.heap.objs.size)) ∧ s'.heap.get? s.heap.objs.size = some (listOf acc.toArray c) ∧ Q acc s') T hn _ (fun κ' s' acc c h1 h2 h3 h4 h5 h6 => ⟨acc, c, rfl, h1.k _ _ h2, hQ κ' s' acc h1 h3 h4 h5 h6⟩) (by rw [PM.put_ne _ _ (Ne.symm hSI)]; exact hm) S1 (PM.put_self ..) hSI (F.trans .of) (T.stab _ _ _ _ g0)) (fun r s' hr => ?_) fun e s' hr => ?_
  · cases r with
    | done f => obtain ⟨acc, c, e, h1, h2⟩ := hr; cases e; exact fin acc c s' h1 h2
    | again c' => exact ⟨hr.1, codeAny_mono hr.2 fun r s'' ⟨acc, c, e, h1, h2⟩ => by subst e; exact fin acc c s'' h1 h2⟩
  · obtain ⟨acc, c, e, h1, h2⟩ := hr; cases e
end
open Builtin Builtin.Str Builtin.Int in
/-- sep.join(map(..)) -/
theorem t_joinMap {W : Wd} {A : Around} {κ : PM} {Q : PySem.Value → PM → Prop} {mp TI it l n k : Nat} {xs : Array PySem.Value} {f : PySem.Value} {sep : Str} {tk : Tok} {txts : List Str} (a : AOk A (k + 3)) (hmp : κ mp = some (mapObj TI f)) (hTI : κ TI = some (tupOf #[.ref it])) (hit : κ it = some (liObj l)) (hl : κ l = some (listOf xs n))
    (hmi : mp ≠ it) (hTi : TI ≠ it) (hli : l ≠ it) (hz : xs.size ≤ 1000000) (hel : ∀ (B : Around) (i : Nat) v (κ' : PM), AOk B k → xs[i]? = some v → (κ.butL [it]).le κ' → Wp W B T1 (PySem.call f [v]) κ' fun r κ'' => κ'.le κ'' ∧ ∃ u t, txts[i]? = some u ∧ r = .str u t)
    (hlen : txts.length = xs.size) (hok : JoinOk sep txts = true) (h : ∀ κ' t, (κ.butL [it]).le κ' → Q (.str (Txt.join sep txts) t) κ') : Wp W A T1 (PySem.call (.builtin "str.join") [.str sep tk, .ref mp]) κ Q := fun R s b _ S => by
  refine wpAny_call (codeAny_call_builtin F.slot_str_join.plain F.entry_str_join (F.slot_str_join.check _ _ _ _ _ _ _ _ (typeIs_str _ _ _) (F.args_str_join_2 _ _) ?_))
  rw [join_tree_other]
  have hT : s.TypeIs (.ref mp) "map" := ⟨_, S.k _ _ hmp, rfl⟩
  refine wpAny_bind (wpAny_typeOf hT ?_)
  show wpAny _ A.in1 ((pyIter (.ref mp)).tryCatch _ >>= fun it => collect it >>= fun items => joinTail sep items) _ _ s
  refine wpAny_bind (wpAny_tryCatch (iterMap (S.k _ _ hmp) ?_))
  have fr := S.hole
  have ne : ∀ {u : Addr} {o : Obj}, κ u = some o → s.heap.objs.size ≠ u := fun e => (PM.ne_of fr e).symm
  have hb0 : (κ.butL [it]) s.heap.objs.size = none := by
    show (if s.heap.objs.size ∈ [it] then none else κ s.heap.objs.size) = none
    rw [fr]; split <;> rfl
  have T := it_map (W := W) (A := A.in1.in1) (s₀ := s) (R := R) (κ₀ := κ.butL [it]) (S := s.heap.objs.size) (mp := mp) (TI := TI) (it := it) (l := l) (n := n) (xs := xs) (f := f) (P := fun i r => ∃ u t, txts[i]? = some u ∧ r = .str u t) a.hh b hb0 (PM.butL_none (by simp)) (ne hmp) (ne hTI) (ne hit) (ne hl) hmi hTi hli
    (fun i v κ' hx hle => hel _ i v κ' (AOk.in1 (n := k) (AOk.in1 (n := k + 1) (AOk.in1 (n := k + 2) a))) hx hle)
  refine wpAny_bind (collect_map (A := A.in1) T hz hmp S .of ⟨fun u o e => (PM.butL_get e).2, .inr ⟨Nat.zero_le _, hmp, hTI, ⟨_, hit, rfl, rfl⟩, hl⟩⟩ fun κ' s' acc S' hal hP F' hG => ?_)
  obtain ⟨ls, hls⟩ := exists_strValues acc fun v hv => by
    obtain ⟨j, hj⟩ := List.getElem?_of_mem hv
    obtain ⟨u, t, _, e⟩ := hP j v hj
    exact ⟨u, t, e⟩
  have hmap : ls.map (·.1) = txts := by
    apply List.ext_getElem?
    intro j
    by_cases hj : j < xs.size
    · have hja : acc[j]? = some (acc[j]'(by omega)) := List.getElem?_eq_getElem (by omega)
      obtain ⟨u, t, h1, h2⟩ := hP j _ hja
      rw [h1]
      rw [h2, ← hls] at hja
      unfold strValues at hja
      rw [List.getElem?_map] at hja
      obtain ⟨p, hp1, hp2⟩ := Option.map_eq_some_iff.mp hja
      rw [List.getElem?_map, hp1]
      simp at hp2 ⊢
      exact hp2.1
    · have e1 : ls.length = xs.size := by
        have : (strValues ls).length = acc.length := by rw [hls]
        unfold strValues at this
        simpa [hal] using this
      rw [List.getElem?_eq_none (by simp; omega), List.getElem?_eq_none (by omega)]
  rw [← hls]
  rw [← hmap] at hok h
  unfold JoinOk at hok
  rw [Bool.not_eq_true'] at hok
  have g : Gives (joinTail sep (strValues ls)) (joinMade sep ls) := by
    have g0 := gives_joinTail sep ls hok
    cases ls with
    | nil => exact g0
    | cons p r => cases r with
      | nil => exact g0
      | cons q r' => exact g0
  exact g PW W.w A (wants (fun v s' => ∃ κ', Sat κ' R s'.heap ∧ Fwd s s' ∧ Q v κ') (fun _ _ => False)) s' (post_join ls ⟨joinFit_length hok, fun t' kk => ⟨κ', S', F'.trans .of, h κ' t' hG.1⟩⟩)
end Mine
end
section
open PySem PySem.W PySem.Calls PyProof.Rows PySem.SeqAt
set_option maxRecDepth 100000
set_option maxHeartbeats 1000000
set_option linter.unusedVariables false
namespace Mine
mutual
/-- the text of a tree -/
def Tr.txt : Tr → Str
  | .leaf _ _ _ v p => p ++ v
  | .node _ _ _ _ ch => Txt.join "" (Tr.txtL ch)
def Tr.txtL : List Tr → List Str
  | [] => []
  | t :: r => t.txt :: Tr.txtL r
end
theorem txtL_map (ts : List Tr) : Tr.txtL ts = ts.map Tr.txt := by
  induction ts with
  | nil => simp [Tr.txtL]
  | cons t r ih => simp [Tr.txtL, ih]
theorem join_len (ts : List Str) : (Txt.join "" ts).length ≤ (ts.map (·.length)).sum := by
  have h := StrLaws.join_length_le "" ts
  have e : Txt.join "" ts = Str.join "" ts := by
    show Builtin.Str.glued "" ts = _
    rw [StrLaws.glued_eq_join]
  rw [e]
  have : ("" : Str).length = 0 := rfl
  rw [this] at h
  omega
theorem addLen (a b : Str) : (a ++ b).length = a.length + b.length := by
  first | exact Str.length_append a b | simp
mutual
theorem txt_len : ∀ {t : Tr}, t.ok → t.txt.length ≤ 2 * t.pre.length
  | .leaf _ _ _ v p, h => by
    unfold Tr.ok at h
    simp only [Tr.txt, Tr.pre, addLen, List.length_cons, List.length_nil]; omega
  | .node _ _ _ _ ch, h => by
    unfold Tr.ok at h
    have := txtL_len h.2
    have h2 := join_len (Tr.txtL ch)
    simp only [Tr.txt, Tr.pre, List.length_cons]; omega
theorem txtL_len : ∀ {ts : List Tr}, Tr.okL ts → ((Tr.txtL ts).map (·.length)).sum ≤ 2 * (Tr.preL ts).length
  | [], _ => by simp [Tr.txtL]
  | t :: r, h => by
    unfold Tr.okL at h
    have h1 := txt_len h.1
    have h2 := txtL_len h.2
    simp only [Tr.txtL, Tr.preL, List.map_cons, List.sum_cons, List.length_append]; omega
end
mutual
theorem Twin.txt : ∀ {a b : Tr}, Tr.Twin a b → a.txt = b.txt
  | .leaf .., .leaf .., h => by unfold Tr.Twin at h; simp [Tr.txt, h.2.1, h.2.2]
  | .node .., .node .., h => by unfold Tr.Twin at h; simp [Tr.txt, TwinL.txt h.2]
  | .leaf .., .node .., h => by unfold Tr.Twin at h; exact h.elim
  | .node .., .leaf .., h => by unfold Tr.Twin at h; exact h.elim
theorem TwinL.txt : ∀ {a b : List Tr}, Tr.TwinL a b → Tr.txtL a = Tr.txtL b
  | [], [], _ => rfl
  | x :: r, y :: q, h => by unfold Tr.TwinL at h; simp [Tr.txtL, Twin.txt h.1, TwinL.txt h.2]
  | [], _ :: _, h => by unfold Tr.TwinL at h; exact h.elim
  | _ :: _, [], h => by unfold Tr.TwinL at h; exact h.elim
end
theorem gStr (P : Params) : nsIn (KF P) mainGlobals "str" = some none := by kernel_rfl
theorem gMap (P : Params) : nsIn (KF P) mainGlobals "map" = some none := by kernel_rfl
noncomputable def strOk (P : Params) (C f : Addr) : Bool := findIn (KF P) (.ref C) "__str__" == some (some (.ref f)) && isFn (KF P) (.ref f)
theorem strL (P : Params) : strOk P 376 321 = true := by kernel_rfl
theorem strN (P : Params) : strOk P 296 187 = true := by kernel_rfl
section
variable {W : Wd} {A : Around} {κ : PM} {Q : PySem.Value → PM → Prop} {C a d f : Addr} {names : List Str} {fa : Str → Option PySem.Value}
theorem t_strInst {k : Nat} (ao : AOk A (k + 2)) (i : Inst W.w.params κ C names a d fa) (ok : strOk W.w.params C f = true) (h : ∀ B, AOk B k → Wp W B T1 (PySem.call (.ref f) [.ref a]) κ fun v κ' => ∃ y u, v = .str y u ∧ Q (.str y u) κ') : Wp W A T1 (PySem.call (.type "str") [.ref a]) κ Q := fun R s b _ S => by
  obtain ⟨es1, m1, J1, _⟩ := i.at S
  unfold strOk at ok
  simp only [Bool.and_eq_true, beq_iff_eq] at ok
  have a2 := AOk.in1 (n := k) (AOk.in1 (n := k + 1) ao)
  refine kso_call a2.units (W.inK b S) J1 ok.1 ok.2 ((h _ a2).seq b trivial S fun v κ' s' S' F q => ?_)
  obtain ⟨y, u, rfl, q⟩ := q
  exact ⟨κ', S', F, q⟩
theorem t_strStr {x : Str} {t : Tok} (h : Q (.str x t) κ) : Wp W A T1 (PySem.call (.type "str") [.str x t]) κ Q := fun R s b _ S => P.str_of_str ⟨κ, S, .of, h⟩
theorem t_methStr {x : Str} {t : Tok} {pl : Sem Bool} {Q : PySem.Value × List PySem.Value → PM → Prop} (h : Q (.builtin "str.join", [.str x t]) κ) : Wp W A T1 (getMethod (.str x t) "join" pl) κ Q := fun R s b _ S => GM.join ⟨κ, S, .of, h⟩
end
/-- str(x) of a tree -/
theorem str_spec {W : Wd} : ∀ (N : Nat) (t : Tr), t.ht < N → ∀ {A : Around} {κ : PM} {par : Option Addr} {Q : PySem.Value → PM → Prop}, AOk A (6 * t.ht + 5) → At W.w.params κ t par → t.ok → t.pre.length ≤ 1000 → (∀ κ' tk, κ.le κ' → Q (.str t.txt tk) κ') →
    Wp W A T1 (PySem.call (.type "str") [.ref t.addr]) κ Q := by
  intro N
  induction N with
  | zero => intro t h; exact absurd h (Nat.not_lt_zero _)
  | succ N ih =>
    intro t ht A κ par Q a hat hok hlen h
    cases t with
    | leaf ad d ty v p =>
      unfold At at hat
      obtain ⟨f, i, F⟩ := hat
      obtain ⟨t2, e2⟩ := F.val
      obtain ⟨t3, e3⟩ := F.pre
      unfold Tr.ok at hok
      refine t_strInst (k := 3) (a.less (by omega)) i (strL _) fun B aB => ?_
      refine Wp.ofCd (Cd.def rec321 aB (BindsOk.eq rfl) [some (.ref ad), none] rfl (by kernel_rfl) (by decide) (locs rfl) (by decide) fun L => ?_)
      refine WX.cons <| WS.ret <| WE.binop <| WE.attr <| WE.name 0 rfl rfl <| i.own (ownL (by decide)) e3 rfl <| WE.call <| WE.blt rfl (gStr _) rfl (by decide) <| call_with .type <| WArgs.cons <| WE.attr <| WE.name 0 rfl rfl <| i.own (ownL (by decide)) e2 rfl <| WArgs.nil <| t_strStr <| t_addStr (by omega) (by omega) fun tk => ⟨_, tk, rfl, h κ tk .rfl⟩
    | node ad d l ty ch =>
      have e0 : (Tr.node ad d l ty ch).ht = Tr.htL ch + 1 := by simp [Tr.ht]
      unfold At at hat
      obtain ⟨⟨f, i, F⟩, c⟩ := hat
      obtain ⟨m, hl⟩ := F.li
      unfold Tr.ok at hok
      have hchl := lenL_le ch
      have hlen' : (Tr.preL ch).length ≤ 1000 := by simp only [Tr.pre, List.length_cons] at hlen; omega
      refine t_strInst (k := 6 * Tr.htL ch + 9) (a.less (by omega)) i (strN _) fun B aB => ?_
      refine Wp.ofCd (Cd.def rec187 aB (BindsOk.eq rfl) [some (.ref ad), none, none] rfl (by kernel_rfl) (by decide) (locs rfl) (by decide) fun L => ?_)
      have aD : AOk (B.deeper (callEnv rec187.fd L 187)) (6 * Tr.htL ch + 8) := aB.deeper _
      generalize B.deeper (callEnv rec187.fd L 187) = AD at aD
      have hsz : ((ch.map Tr.addr).map PySem.Value.ref).toArray.size = ch.length := by simp
      refine WX.cons <| WS.ret <| WE.meth <| WE.str fun tk => t_methStr <| call_with .builtin <| WArgs.cons <| WE.call <| WE.blt rfl (gMap _) rfl (by decide) <| call_with .type <| WArgs.cons <| WE.blt rfl (gStr _) rfl (by decide) <| WArgs.cons <| WE.attr <| WE.name 0 rfl rfl <| i.own (ownN (by decide)) F.ch rfl <| WArgs.nil <| t_map hl fun it TI mp hit hTI hmp n1 n2 n3 => WArgs.nil ?_
      have lit : l ≠ it := fun q => by subst q; rw [hl] at hit; cases hit
      have lTI : l ≠ TI := fun q => by subst q; rw [hl] at hTI; cases hTI
      have lmp : l ≠ mp := fun q => by subst q; rw [hl] at hmp; cases hmp
      have hle : κ.le (((κ.put it (liObj l)).put TI (tupOf #[.ref it])).put mp (mapObj TI (.type "str"))) := fun u o e => by
        rw [PM.put_ne _ _ (PM.ne_of hmp e), PM.put_ne _ _ (PM.ne_of hTI e), PM.put_ne _ _ (PM.ne_of hit e)]; exact e
      have hle2 : ∀ {κ' : PM}, ((((κ.put it (liObj l)).put TI (tupOf #[.ref it])).put mp (mapObj TI (.type "str"))).butL [it]).le κ' → κ.le κ' := fun hh u o e => hh _ _ (PM.butL_some (hle _ _ e) (by simpa using PM.ne_of hit e))
      refine t_joinMap (k := 6 * Tr.htL ch + 5) (xs := ((ch.map Tr.addr).map PySem.Value.ref).toArray) (n := m) (txts := Tr.txtL ch) aD (PM.put_self ..) (by rw [PM.put_ne _ _ n3, PM.put_self]) (by rw [PM.put_ne _ _ n2, PM.put_ne _ _ n1, PM.put_self]) (hle _ _ hl) (Ne.symm n2) (Ne.symm n1) lit (by rw [hsz]; omega) (fun B' j v κ' aB' hx hk => ?_) (by rw [hsz, txtL_map]; simp) (joinOk_of_weight ?_ (by decide)) fun κ' tk' hk => ⟨_, tk', rfl, h κ' tk' (hle2 hk)⟩
      · have hx' : ((ch.map Tr.addr).map PySem.Value.ref)[j]? = some v := by simpa using hx
        rw [List.map_map, List.getElem?_map] at hx'
        obtain ⟨u, hu, rfl⟩ := Option.map_eq_some_iff.mp hx'
        have hum := List.mem_of_getElem? hu
        have hht := Tr.htL_le hum
        have hpl := Tr.preL_mem_len hum
        refine ih u (by omega) (aB'.less (by omega)) ((c.get u hum).le (hle2 hk)) (Tr.okL_get hok.2 u hum) (by omega) fun κ'' tk2 le2 => ⟨le2, u.txt, tk2, ?_, rfl⟩
        rw [txtL_map, List.getElem?_map, hu]; rfl
      · have h1 := txtL_len hok.2
        have h2 : (Tr.txtL ch).length = ch.length := by rw [txtL_map]; simp
        omega
end Mine
end
section
open PySem PySem.W PySem.Calls PyProof.Rows PySem.SeqAt
set_option maxRecDepth 100000
set_option maxHeartbeats 1000000
set_option linter.unusedVariables false
namespace Mine
theorem un_swap {φ ψ R : PM} (d : Dj φ (un ψ R)) : un φ (un ψ R) = un ψ (un φ R) := by
  funext b
  cases q : φ b with
  | none => unfold un; rw [q]
  | some o =>
    have h := d _ _ q
    have hψ : ψ b = none := by
      cases q2 : ψ b with
      | none => rfl
      | some o2 => rw [un_left q2] at h; cases h
    rw [un_left q, un_right hψ, un_left q]
theorem dj_swap {φ ψ R : PM} (d : Dj φ (un ψ R)) (e : Dj ψ R) : Dj ψ (un φ R) := fun b o h => by
  cases q : φ b with
  | none => rw [un_right q]; exact e _ _ h
  | some o2 => have := d _ _ q; rw [un_left h] at this; cases this
theorem dj_in {φ ψ R : PM} (d : Dj φ (un ψ R)) (e : Dj ψ R) : Dj φ R := fun b o h => by
  have := d _ _ h
  cases q : ψ b with
  | none => rwa [un_right q] at this
  | some o2 => rw [un_left q] at this; cases this
section
variable {W : Wd} {A : Around} {env : Env} {ρ : Loc} {κ : PM} {Q : Flow → Loc → PM → Prop}
/-- y = [.. for x in .. if ..], y a name of the frame's own -/
theorem ws_assignComp (iy jx : Nat) {y : Str} {kx : NameKind} {elt iter : Expr} {x : Str} {px py pos spos : Pos} {ifs : List Expr} {scope : Scope} {cl : List (Str × Addr)} (ρc : Loc) (hy : env.scope.names[iy]? = some (y, .local))
    (hsw : swapsWith (.ListComp elt [⟨.Name x px, iter, ifs, 0⟩] scope pos) (some (.Name y py)) spos.line env = Pure.pure true)
    (hclos : closureFor scope env = Pure.pure cl) (hkind : scope.kind = .function) (hok : EnvOk env) (hx : (relabel scope env).names[jx]? = some (x, kx)) (hnd0 : (scope.names.map (·.1)).Nodup)
    (hnames : ∀ y ∈ scope.names, y.2 = .local → scope.names.lookup y.1 = some .local)
    (hown : (ownC scope.names = [] ∧ kx = .local) ∨ (ownC scope.names = [(x, .cell)] ∧ kx = .cell))
    (cap : ∀ L R, FrameIs env ρ R → ∀ j y k u, (relabel scope env).names[j]? = some (y, k) → j ≠ jx → ρc[j]? = some (some u) → Rd (cpEnv scope env cl L) R y u)
    (hi : WE W A env ρ iter κ fun v κ₁ => ∃ n P ls ob I, CpRest W A (cpEnv scope env cl) ρc jx elt ifs (fun v κ' => Q .next (ρ.set iy (some v)) κ') v κ₁ n P ls ob I)
    (hs : ∀ x, foldedSetIterable iter env x = Pure.pure x := by intro _; rfl) : WS W A env ρ (exec (.Assign [.Name y py] (.ListComp elt [⟨.Name x px, iter, ifs, 0⟩] scope pos) spos) env) κ Q := by
  have hnd : ((relabel scope env).names.map (·.1)).Nodup := by rw [relabel_fst]; exact hnd0
  intro R₀ φf s b₀ df ff S
  have b := b₀.trans (un_le df)
  rw [exec_Assign_Name_used _ _ _ _ hsw]
  refine wpAny_bind (wpAny_standAt (wpAny_bind ?_))
  show wpAny _ A (do let _ ← comprehension (.ListComp elt [⟨.Name x px, iter, ifs, 0⟩] scope pos) scope env _ (newList []) false (eval iter env) (some (assign (.Name y py) env))) _ _ s
  refine wpAny_bind (wpAny_mono (wpAny_comprehension_free (e := .ListComp elt [⟨.Name x px, iter, ifs, 0⟩] scope pos) (g := ⟨.Name x px, iter, ifs, 0⟩) (gs := []) (use := some (assign (.Name y py) env))
    (Q := fun _ s' => ∃ κ' ρ' φ', Dj φ' R₀ ∧ FrameW env ρ' φ' ∧ Sat κ' (un φ' R₀) s'.heap ∧ Fwd s s' ∧ Q .next ρ' κ') rfl hs hclos hkind hnames ?_) (fun _ s' hq => wpAny_pure (wpAny_pure hq)) fun _ _ e => e)
  refine hi.seq b ff.is S fun v κ₁ s₁ S₁ F₁ ⟨n, P, ls, ob, I, C⟩ => ?_
  have p := ff.is (R := R₀)
  generalize hRe : un φf R₀ = R at b S S₁ p
  refine C.src R κ₁ s₁ b S₁ (C.hls _ _ _ C.first) _ _ fun o St fp tk hfo Wk hfp live st0 => wpAny_newObj_type (comp_env ?_)
  have hIt : s₁.heap.get? s₁.heap.objs.size = none := get_size_none _
  generalize hg0 : s₁.heap.objs.size = It at *
  have e1 : (s₁.heap.push o).objs.size = It + 1 := by rw [Heap.size_push, hg0]
  have e2 : ((s₁.heap.push o).push { cls := .type "list", dict := none, data := .seq ([] : List PySem.Value).toArray }).objs.size = It + 2 := by rw [Heap.size_push, e1]
  have e3 : (((s₁.heap.push o).push { cls := .type "list", dict := none, data := .seq ([] : List PySem.Value).toArray }).push dictE).objs.size = It + 3 := by rw [Heap.size_push, e2]
  dsimp only
  rw [e2, e1]
  have none_at : ∀ a, It ≤ a → s₁.heap.get? a = none := fun a ha => by
    cases e : s₁.heap.get? a with
    | none => rfl
    | some o' => exact absurd (hg0 ▸ Heap.lt_size e) (Nat.not_lt.mpr ha)
  generalize hH2 : (s₁.heap.push o).push { cls := .type "list", dict := none, data := .seq ([] : List PySem.Value).toArray } = H2 at e2 e3 ⊢
  have gI : H2.get? It = some o := by rw [← hH2]; exact Heap.get?_push_of_some _ (by rw [← hg0]; exact Heap.get?_push_size _ hfo)
  have gD : H2.get? (It + 1) = some (listOf #[] 0) := by rw [← hH2, ← e1]; exact Heap.get?_push_size _ rfl
  have keep2 : ∀ a ob, s₁.heap.get? a = some ob → H2.get? a = some ob := fun a ob e => by rw [← hH2]; exact Heap.get?_push_of_some _ (Heap.get?_push_of_some _ e)
  have keepI : ∀ a ob, (s₁.heap.push o).get? a = some ob → H2.get? a = some ob := fun a ob e => by rw [← hH2]; exact Heap.get?_push_of_some _ e
  -- the frame
  obtain ⟨φ, h4, hφ4, ⟨keep4, hφ⟩, hcf, hφI, hφD⟩ : ∃ (φ : PM) (h4 : Heap), h4 = pushCells (H2.push { cls := .type "dict", data := .dict #[] }) scope.names ∧ ((∀ a ob, H2.get? a = some ob → h4.get? a = some ob) ∧ (∀ a ob, φ a = some ob → It ≤ a ∧ h4.get? a = some ob)) ∧
      CF (cpEnv scope env cl (It + 2)) x φ ∧ φ It = none ∧ φ (It + 1) = none := by
    have gC : (H2.push dictE).get? (It + 2) = some dictE := by rw [← e2]; exact Heap.get?_push_size _ rfl
    have hl : (cpEnv scope env cl (It + 2)).kindOf x = some kx := lookup_of_get hnd hx
    rcases hown with ⟨ho, hkx⟩ | ⟨ho, hkx⟩
    · refine ⟨fun a => if a = It + 2 then some dictE else none, _, rfl, ⟨fun a ob e => ?_, fun a ob e => ?_⟩, ⟨⟨dictE, _, _, if_pos rfl, rfl, fun e he => (by simp at he)⟩, .inl (hkx ▸ hl)⟩, if_neg (Nat.ne_of_lt (Nat.lt_add_of_pos_right (by decide))), if_neg (Nat.ne_of_lt (Nat.lt_succ_self _))⟩
      · rw [(cells_none _ 0 [] ho).1]; exact Heap.get?_push_of_some _ e
      · by_cases q : a = It + 2
        · subst q; simp at e; subst e; exact ⟨by omega, by rw [(cells_none _ 0 [] ho).1]; exact gC⟩
        · simp [q] at e
    · have gc : ((H2.push dictE).push cellE).get? (It + 3) = some cellE := by rw [← e3]; exact Heap.get?_push_size _ rfl
      refine ⟨fun a => if a = It + 2 then some dictE else if a = It + 3 then some cellE else none, _, rfl, ⟨fun a ob e => ?_, fun a ob e => ?_⟩,
        ⟨⟨dictE, _, _, if_pos rfl, rfl, fun e he => (by simp at he)⟩, .inr ⟨hkx ▸ hl, It + 3, cellE, none, ?_, by simp, rfl, by show (It + 3 : Nat) ≠ It + 2; omega⟩⟩, by simp, by simp⟩
      · rw [(cells_one _ 0 [] ho).1]; exact Heap.get?_push_of_some _ (Heap.get?_push_of_some _ e)
      · rw [(cells_one _ 0 [] ho).1]
        by_cases q : a = It + 2
        · subst q; simp at e; subst e; exact ⟨by omega, Heap.get?_push_of_some _ gC⟩
        · by_cases q' : a = It + 3
          · subst q'; simp at e; subst e; exact ⟨by omega, gc⟩
          · simp [q, q'] at e
      · show (cellsFrom (It + 2 + 1) scope.names cl).lookup x = some (It + 3)
        rw [(cells_one H2 _ cl ho).2]; simp
  rw [← hφ4]
  have keep : ∀ a ob, s₁.heap.get? a = some ob → h4.get? a = some ob := fun a ob e => keep4 _ _ (keep2 _ _ e)
  obtain ⟨d, S4⟩ := S₁.frame keep fun a ob e => ⟨none_at _ (hφ a ob e).1, (hφ a ob e).2⟩
  have hRn : ∀ a, It ≤ a → R a = none := fun a ha => (S₁.fresh (none_at a ha)).2
  have hκn : ∀ a, It ≤ a → κ₁ a = none := fun a ha => (S₁.fresh (none_at a ha)).1
  have st4 : St 0 h4 := Wk.frame _ _ _ st0 fun a ha ob e => keep4 _ _ (keepI _ _ e)
  have main : ∀ (s₄ : Shared), s₄.heap = h4 → Fwd s₁ s₄ → codeAny W.M A (.compLoop (.ListComp elt [⟨.Name x px, iter, ifs, 0⟩] scope pos) 0 (.ref It) (.ref (It + 1)) (cpEnv scope env cl (It + 2)))
      (compPost W.M A (fun _ _ => False) (some (assign (.Name y py) env)) (fun _ s' => ∃ κ' ρ' φ', Dj φ' R₀ ∧ FrameW env ρ' φ' ∧ Sat κ' (un φ' R₀) s'.heap ∧ Fwd s s' ∧ Q .next ρ' κ') (.ref (It + 1)) (It + 2)) s₄ := by
    rintro s₄ rfl F₄
    refine comp_walk (cenv := cpEnv scope env cl (It + 2)) Wk hfp live I C.hls C.small ⟨by show scope.kind = _; exact hkind, hok.g, hok.b⟩ hx hnd (fun k v ys κ hk hP hI => C.turn (It + 2) k v ys κ hk hP hI) b
      (fun j y k u hy hj hu => cap (It + 2) R p j y k u hy hj hu) d hcf S4 (hRn _ (Nat.le_refl _)) hφI (hκn _ (Nat.le_refl _)) (hRn _ (by omega)) hφD (hκn _ (by omega)) (by show (It + 1 : Nat) ≠ It; omega) (keep4 _ _ gD) st4 C.first ?_ ?_
    · intro k h h' st e
      refine Wk.frame _ _ _ st fun a ha ob ea => e a ob (fun q => ?_) ea
      subst q
      rcases hfp _ ha with q | q
      · exact absurd q (by show (It + 1 : Nat) ≠ It; omega)
      · have := C.hls _ _ _ C.first _ q; rw [hκn _ (by omega)] at this; cases this
    · intro ys κ' φ' m h' tk s' hI d' f' S' hκD hφD' hD' hlen F'
      obtain ⟨oL, es, ep, hoL, hdL, hks⟩ := f'.L
      have hoL : φ' (It + 2) = some oL := hoL
      have hDC : (It + 1 : Addr) ≠ It + 2 := by show (It + 1 : Nat) ≠ It + 2; omega
      have hRD : R (It + 1) = none := hRn _ (by omega)
      have SD : Sat (κ'.put (It + 1) (listOf ys.toArray m)) (un φ' R) h' := by
        refine ⟨fun a ob e => ?_, S'.r, fun a ob e => ?_⟩
        · by_cases q : a = It + 1
          · subst q; rw [PM.put_self] at e; cases e; exact hD'
          · rw [PM.put_ne _ _ q] at e; exact S'.k _ _ e
        · by_cases q : a = It + 1
          · subst q; rw [un_right hφD']; exact hRD
          · rw [PM.put_ne _ _ q] at e; exact S'.d _ _ e
      rw [← hRe] at d' SD
      have d2 := dj_swap d' df
      rw [un_swap d'] at SD
      have dR := dj_in d' df
      show wpAny W.M A (assign (.Name y py) env (.ref (It + 1))) _ _ { s' with heap := h', toks := tk }
      refine wpAny_assign_Name (store_frame iy (s := { s' with heap := h', toks := tk }) ff d2 SD hy (.inl rfl) fun φ₂ h₂ tk₂ d₃ f₃ S₃ => ?_)
      have hC2 : (un φ₂ (un φ' R₀)) (It + 2) = some oL := by
        cases q : φ₂ (It + 2) with
        | some o2 => have := d₃ _ _ q; rw [un_left hoL] at this; cases this
        | none => rw [un_right q, un_left hoL]
      refine ⟨_, ⟨oL, es, ep, S₃.r _ _ hC2, hdL, hks, fun _ => rfl⟩, fun h'' hs'' => ?_⟩
      have dj2 : Dj φ₂ R₀ := fun a ob e => by
        have := d₃ _ _ e
        cases q : φ' a with
        | none => rwa [un_right q] at this
        | some o2 => exact dR _ _ q
      have nC : ∀ a ob, (un φ₂ R₀) a = some ob → a ≠ It + 2 := fun a ob e q => by
        subst q
        cases q2 : φ₂ (It + 2) with
        | some o2 => have := d₃ _ _ q2; rw [un_left hoL] at this; cases this
        | none => rw [un_right q2, dR _ _ hoL] at e; cases e
      have up : ∀ a ob, (un φ₂ R₀) a = some ob → (un φ₂ (un φ' R₀)) a = some ob := fun a ob e => by
        cases q : φ₂ a with
        | some o2 => rw [un_left q] at e ⊢; exact e
        | none => rw [un_right q] at e ⊢; exact un_le dR _ _ e
      refine ⟨_, _, φ₂, dj2, f₃, ⟨fun a ob e => ?_, fun a ob e => (hs''.2 _ (nC _ _ e)).trans (S₃.r _ _ (up _ _ e)), fun a ob e => ?_⟩, (F₁.trans F₄).trans (F'.trans .of), C.fin ys κ' (It + 1) m hI hκD hlen⟩
      · have : a ≠ It + 2 := fun q => by have := S₃.d _ _ e; rw [q, hC2] at this; cases this
        exact (hs''.2 _ this).trans (S₃.k _ _ e)
      · have h1 := S₃.d _ _ e
        cases q : (un φ₂ R₀) a with
        | none => rfl
        | some o2 => rw [up _ _ q] at h1; cases h1
  exact codeAny_compStart_list (main _ rfl .of) (Wk.self 0 _ _ _ st4 (main _ rfl .of))
end
end Mine
end
section
open PySem PySem.W PySem.Calls PyProof.Rows PySem.SeqAt
set_option maxRecDepth 100000
set_option maxHeartbeats 1000000
set_option linter.unusedVariables false
namespace Mine
abbrev enumObj (it : Addr) : Obj := { cls := .type "enumerate", data := .fields #[.none, .bool false, .ref it, rawInt 0, .none, .none] }
section
variable {W : Wd} {A : Around} {κ : PM} {Q : PySem.Value → PM → Prop} {l n : Nat} {xs : Array PySem.Value}
theorem t_enum (hl : κ l = some (listOf xs n)) (h : ∀ it e oi, κ it = none → κ e = none → it ≠ e → oi.cls = .type "list_iterator" → oi.data = .fields #[.ref l, rawInt 0] → Q (.ref e) ((κ.put it oi).put e (enumObj it))) : Wp W A T1 (PySem.call (.type "enumerate") [.ref l]) κ Q := fun R s b _ S => by
  have hL : s.heap.IsList l xs := ⟨_, S.k _ _ hl, rfl, n, rfl⟩
  refine call_enumerate_list hL fun h' he hit hsz hk => ?_
  obtain ⟨oi, h1, h2, h3⟩ := hit
  have f0 := S.fresh (get_size_none s.heap)
  have g1 : s.heap.get? (s.heap.objs.size + 1) = none := by
    cases e : s.heap.get? (s.heap.objs.size + 1) with
    | none => rfl
    | some o => exact absurd (Heap.lt_size e) (Nat.not_lt.mpr (Nat.le_succ _))
  have f1 := S.fresh g1
  have hne : (s.heap.objs.size : Addr) ≠ s.heap.objs.size + 1 := (Nat.succ_ne_self _).symm
  refine ⟨_, ⟨fun u o e => ?_, fun u o e => hk _ _ (S.r _ _ e), fun u o e => ?_⟩, .of, h _ _ oi f0.1 f1.1 hne h2 h3⟩
  · by_cases q : u = s.heap.objs.size + 1
    · subst q; rw [PM.put_self] at e; cases e; exact he
    · rw [PM.put_ne _ _ q] at e
      by_cases q2 : u = s.heap.objs.size
      · subst q2; rw [PM.put_self] at e; cases e; exact h1
      · rw [PM.put_ne _ _ q2] at e; exact hk _ _ (S.k _ _ e)
  · by_cases q : u = s.heap.objs.size + 1
    · subst q; exact f1.2
    · rw [PM.put_ne _ _ q] at e
      by_cases q2 : u = s.heap.objs.size
      · subst q2; exact f0.2
      · rw [PM.put_ne _ _ q2] at e; exact S.d _ _ e
end
section
variable {W : Wd} {A : Around} {env : Env} {ρ : Loc} {κ : PM} {Q : Flow → Loc → PM → Prop} {pos tp : Pos}
/-- for (.., ..) in enumerate(list) -/
theorem ws_forEnum {elts : List Expr} {kk : Nat} {iter : Expr} {body : List Stmt} {xs : Array PySem.Value} {l m : Nat} (hh : A.handled = .none) (I : Nat → Loc → PM → Prop)
    (hi : WE W A env ρ iter κ fun v κ₁ => ∃ κ' e it oi, v = .ref e ∧ κ₁ = (κ'.put it oi).put e (enumObj it) ∧ κ' it = none ∧ κ' e = none ∧ it ≠ e ∧ oi.cls = .type "list_iterator" ∧ oi.data = .fields #[.ref l, rawInt 0] ∧ I 0 ρ κ')
    (hl : ∀ k ρ κ, I k ρ κ → κ l = some (listOf xs m)) (hlen : (assignEach elts env).length = 2)
    (turn : ∀ k x t ρ κ, xs[k]? = some x → I k ρ κ → WS W A env ρ (assignInOrder ((assignEach elts env).map (·.2)) [.int (k : Nat) t, x]) κ fun _ ρ' κ' => WX W A env ρ' body κ' fun fl ρ'' κ'' => match fl with
      | .next => I (k + 1) ρ'' κ''
      | .cont => I (k + 1) ρ'' κ''
      | .brk => Q .next ρ'' κ''
      | .ret v => Q (.ret v) ρ'' κ'')
    (fin : ∀ ρ κ, I xs.size ρ κ → Q .next ρ κ) (hst : (assignEach elts env).findIdx? (·.1) = none := by rfl) (hs : ∀ x, foldedSetIterable iter env x = Pure.pure x := by intro _; rfl) :
    WS W A env ρ (exec (.For (.Tuple elts kk tp) iter body [] pos) env) κ Q := by
  intro R φ s b d f S
  refine wpAny_For (hi.seqS b d f S fun v κ₁ s₁ S₁ F₁ q => ?_) hs
  obtain ⟨κ', e, it, oi, rfl, rfl, hit, he, hne, ho1, ho2, q⟩ := q
  have hll := hl _ _ _ q
  have le2 : l ≠ e := fun z => by subst z; rw [he] at hll; cases hll
  have li2 : l ≠ it := fun z => by subst z; rw [hit] at hll; cases hll
  have Wk := (WalksT.enumerate (prog := PW) (w := W.w) (A := A) hh e it l (Ne.symm hne) le2 li2 xs).toU
  have gE : s₁.heap.get? e = some (enumObj it) := S₁.k _ _ (PM.put_self ..)
  have gI : s₁.heap.get? it = some oi := S₁.k _ _ (by rw [PM.put_ne _ _ hne, PM.put_self])
  have eR := S₁.d e (enumObj it) (PM.put_self ..)
  have iR := S₁.d it oi (by rw [PM.put_ne _ _ hne, PM.put_self])
  have hφe : φ e = none := by
    cases z : φ e with
    | none => rfl
    | some o => rw [un_left z] at eR; cases eR
  have hφi : φ it = none := by
    cases z : φ it with
    | none => rfl
    | some o => rw [un_left z] at iR; cases iR
  have hRe : R e = none := by rwa [un_right hφe] at eR
  have hRi : R it = none := by rwa [un_right hφi] at iR
  have hκle : κ'.le ((κ'.put it oi).put e (enumObj it)) := fun u o z => by rw [PM.put_ne _ _ (PM.ne_of he z), PM.put_ne _ _ (PM.ne_of hit z)]; exact z
  have S₂ : Sat κ' (un φ R) s₁.heap := S₁.weak hκle
  have st0 : (∃ old, IsEnum s₁.heap e it ((0 : Nat) : Int) old) ∧ s₁.heap.IsListIter it l 0 ∧ s₁.heap.IsList l xs := ⟨⟨.none, gE⟩, ⟨oi, gI, ho1, ho2⟩, ⟨_, S₂.k _ _ hll, rfl, m, rfl⟩⟩
  refine Wk.self 0 s₁ _ _ st0 ?_
  -- the loop
  have key : codeAny W.M A (.forLoop (.Tuple elts kk tp) (.ref e) body [] env) (fun r s' => match r with
      | .ok fl => ∃ κ' ρ' φ', Dj φ' R ∧ FrameW env ρ' φ' ∧ Sat κ' (un φ' R) s'.heap ∧ Fwd s₁ s' ∧ Q fl ρ' κ'
      | .error _ => False) s₁ := by
    refine codeAny_forLoop_any (fun mm s' => ∃ k κ ρ φ oE oI, mm = xs.size - k ∧ k ≤ xs.size ∧ Dj φ ((R.put it oI).put e oE) ∧ FrameW env ρ φ ∧ Sat κ (un φ ((R.put it oI).put e oE)) s'.heap ∧ Fwd s₁ s' ∧
      ((∃ old, IsEnum s'.heap e it ((k : Nat) : Int) old) ∧ s'.heap.IsListIter it l k ∧ s'.heap.IsList l xs) ∧ I k ρ κ) ?_ xs.size ?_
    · rintro mm s' ⟨k, κ, ρ, φ, oE, oI, rfl, hk, d, f, S, F, hSt, hI⟩
      have hRe' : (R.put it oI) e = none := by rw [PM.put_ne _ _ (Ne.symm hne)]; exact hRe
      have hφe := d.off
      have d1 := d.unputR hRe'
      have hφi := d1.off
      have d0 := d1.unputR hRi
      obtain ⟨S1, hκe, hge⟩ := S.unputR hφe hRe'
      obtain ⟨S0, hκi, hgi⟩ := S1.unputR hφi hRi
      by_cases hlt : k < xs.size
      · refine Wk.item k s' _ _ hlt hSt fun T vals h' tk hP hT hMid hkeep => ?_
        refine wpAny_mono (Wk.go elts kk tp k T { s' with heap := h', toks := tk } (fun _ s'' => ∃ h'', s'' = { s' with heap := h'', toks := tk } ∧ ((∃ old, IsEnum h'' e it ((k + 1 : Nat) : Int) old) ∧ h''.IsListIter it l (k + 1) ∧ h''.IsList l xs) ∧ (∀ u o, u ∉ [e, it] → h'.get? u = some o → h''.get? u = some o)) (fun _ _ => False) hMid fun h'' st1 hk2 => ⟨h'', rfl, st1, hk2⟩) (fun _ s'' hq => ?_) fun _ _ z => z.elim
        obtain ⟨h'', rfl, st1, hk2⟩ := hq
        have hkeep' : ∀ u o, u ≠ it → u ≠ e → s'.heap.get? u = some o → h''.get? u = some o := fun u o h1 h2 z => hk2 u o (by simp [h1, h2]) (hkeep u o (by simp [h1, h2]) z)
        obtain ⟨⟨old, hE⟩, ⟨oI', hI1, hI2, hI3⟩, hL⟩ := st1
        obtain ⟨oE', hoE'⟩ : ∃ o, h''.get? e = some o := ⟨_, hE⟩
        have S0' : Sat κ (un φ R) h'' := ⟨fun u o z => hkeep' u o (PM.ne_of hκi z) (PM.ne_of hκe z) (S0.k _ _ z), fun u o z => hkeep' u o (PM.ne_of (by rw [un_right hφi]; exact hRi) z) (PM.ne_of (by rw [un_right hφe]; exact hRe) z) (S0.r _ _ z), S0.d⟩
        have S1' : Sat κ (un φ (R.put it oI')) h'' := S0'.putR hφi hκi hI1 fun _ _ _ z => z
        have S2' : Sat κ (un φ ((R.put it oI').put e oE')) h'' := S1'.putR hφe hκe hoE' fun _ _ _ z => z
        have hRe'' : (R.put it oI') e = none := by rw [PM.put_ne _ _ (Ne.symm hne)]; exact hRe
        have d2 : Dj φ ((R.put it oI').put e oE') := (d0.putR hφi).putR hφe
        have b' : W.kB.le ((R.put it oI').put e oE') := (b.trans (PM.le_put hRi)).trans (PM.le_put hRe'')
        obtain ⟨t, x, hx, rfl⟩ := hP
        have hT' : h''.IsTuple T #[.int (k : Nat) t, x] := let ⟨o, z, r⟩ := hT; ⟨o, hk2 _ o (Wk.apart k T _ hMid) z, r⟩
        refine wpAny_assign_Tuple (s := { s' with heap := h'', toks := tk }) hh hT' hlen hst fun h₃ hx₃ => ?_
        have S3 : Sat κ (un φ ((R.put it oI').put e oE')) h₃ := S2'.more fun u o z => hx₃ u o (Nat.ne_of_lt (Heap.lt_size z)) z
        have hE3 : h₃.get? e = some oE' := hx₃ _ _ (Nat.ne_of_lt (Heap.lt_size hoE')) hoE'
        have T0 := turn k x t ρ κ hx hI
        refine WS.seq (s := { s' with heap := h₃, toks := tk }) T0 b' d2 f S3 fun _ κ₁ ρ₁ φ₁ s₂ d₃ f₁ S₄ F₂ T₁ => ?_
        refine T₁.seq b' d₃ f₁ S₄ fun fl κ₂ ρ₂ φ₂ s₃ d₄ f₂ S₅ F₃ q => ?_
        have FF : Fwd s₁ s₃ := (F.trans (.of (s := s') (s' := { s' with heap := h₃, toks := tk }))).trans (F₂.trans F₃)
        have hφe₂ := d₄.off
        have d5 := d₄.unputR hRe''
        have hφi₂ := d5.off
        obtain ⟨S6, hκe₂, hge₂⟩ := S₅.unputR hφe₂ hRe''
        obtain ⟨S7, hκi₂, hgi₂⟩ := S6.unputR hφi₂ hRi
        have nxt : I (k + 1) ρ₂ κ₂ → ∃ mm, mm < xs.size - k ∧ ∃ k κ ρ φ oE oI, mm = xs.size - k ∧ k ≤ xs.size ∧ Dj φ ((R.put it oI).put e oE) ∧ FrameW env ρ φ ∧ Sat κ (un φ ((R.put it oI).put e oE)) s₃.heap ∧ Fwd s₁ s₃ ∧
            ((∃ old, IsEnum s₃.heap e it ((k : Nat) : Int) old) ∧ s₃.heap.IsListIter it l k ∧ s₃.heap.IsList l xs) ∧ I k ρ κ := fun q => by
          refine ⟨xs.size - (k + 1), by omega, k + 1, κ₂, ρ₂, φ₂, oE', oI', rfl, hlt, d₄, f₂, S₅, FF, ⟨⟨old, ?_⟩, ⟨oI', hgi₂, hI2, hI3⟩, ⟨_, S7.k _ _ (hl _ _ _ q), rfl, m, rfl⟩⟩, q⟩
          show s₃.heap.get? e = _
          rw [hge₂, ← hoE']; exact hE
        cases fl with
        | next => exact nxt q
        | cont => exact nxt q
        | brk => exact ⟨κ₂, ρ₂, φ₂, d5.unputR hRi, f₂, S7, FF, q⟩
        | ret v => exact ⟨κ₂, ρ₂, φ₂, d5.unputR hRi, f₂, S7, FF, q⟩
      · have hkn : k = xs.size := by omega
        subst hkn
        refine Wk.done s' _ _ hSt fun h' tk hkeep => ?_
        have hkeep' : ∀ u o, u ≠ it → u ≠ e → s'.heap.get? u = some o → h'.get? u = some o := fun u o h1 h2 z => hkeep u o (by simp [h1, h2]) z
        have S' : Sat κ (un φ R) h' := ⟨fun u o z => hkeep' u o (PM.ne_of hκi z) (PM.ne_of hκe z) (S0.k _ _ z), fun u o z => hkeep' u o (PM.ne_of (by rw [un_right hφi]; exact hRi) z) (PM.ne_of (by rw [un_right hφe]; exact hRe) z) (S0.r _ _ z), S0.d⟩
        exact wpAny_execs_nil ⟨κ, ρ, φ, d0, f, S', F.trans .of, fin ρ κ hI⟩
    · have S3 : Sat κ' (un φ (R.put it oi)) s₁.heap := S₂.putR hφi hit gI fun _ _ _ z => z
      have hRe' : (R.put it oi) e = none := by rw [PM.put_ne _ _ (Ne.symm hne)]; exact hRe
      exact ⟨0, κ', ρ, φ, enumObj it, oi, rfl, Nat.zero_le _, (d.putR hφi).putR hφe, f, S3.putR hφe he gE fun _ _ _ z => z, .of, st0, q⟩
  refine codeAny_mono key fun r s' hr => ?_
  cases r with
  | ok fl => obtain ⟨κ', ρ', φ', d', f', S', F', q'⟩ := hr; exact ⟨κ', ρ', φ', d', f', S', F₁.trans F', q'⟩
  | error e => exact hr.elim
end
end Mine
end
section
open PySem PySem.W PySem.Calls PyProof.Rows PySem.SeqAt
set_option maxRecDepth 100000
set_option maxHeartbeats 1000000
set_option linter.unusedVariables false
namespace Mine
section
variable {W : Wd} {A : Around} {κ : PM} {Q : PySem.Value → PM → Prop} {l b n m : Nat} {xs ys : Array PySem.Value}
theorem t_neBool {x y : Bool} (h : Q (.bool (!(x == y))) κ) : Wp W A T1 (compareOp .NotEq (.bool x) (.bool y)) κ Q := fun R s _ _ S => RcNeAt.bool_bool x y PW W.w _ _ ⟨κ, S, .of, h⟩
theorem t_eqBool {x y : Bool} (h : Q (.bool (x == y)) κ) : Wp W A T1 (compareOp .Eq (.bool x) (.bool y)) κ Q := fun R s _ _ S => RcAt.bool_bool x y PW W.w _ _ ⟨κ, S, .of, h⟩
theorem t_neLen (hu : A.units < cLine) (hl : κ l = some (listOf xs n)) (hb : κ b = some (listOf ys m)) (hz : xs.size ≠ ys.size) (h : Q (.bool true) κ) : Wp W A T1 (compareOp .NotEq (.ref l) (.ref b)) κ Q := fun R s _ _ S =>
  RcNeAt.lists_lengths ⟨_, S.k _ _ hl, rfl, n, rfl⟩ ⟨_, S.k _ _ hb, rfl, m, rfl⟩ (by simpa using hz) hu PW W.w _ _ ⟨κ, S, .of, h⟩
/-- list.index(True) -/
theorem t_indexTrue {bs : List Bool} {j : Nat} (hl : κ l = some (listOf (bs.map PySem.Value.bool).toArray n)) (hz : bs.length ≤ 1000000) (hj : bs[j]? = some true) (hno : ∀ i, i < j → bs[i]? = some false) (h : ∀ t, Q (.int (j : Nat) t) κ) :
    Wp W A T1 (PySem.call (.builtin "list.index") [.ref l, .bool true]) κ Q := fun R s _ _ S => by
  have hjl : j < bs.length := (List.getElem?_eq_some_iff.mp hj).1
  have hv : bs[j] = true := (List.getElem?_eq_some_iff.mp hj).2
  refine call_meets PySem.F.slot_list_index ⟨_, S.k _ _ hl, rfl⟩ PySem.F.entry_list_index (PySem.F.args_list_index_2 _ _)
    (list_indexAt l (bs.map PySem.Value.bool).toArray n none #[] (.bool true) (fun v => match v with | .bool q => q == true | _ => false) j (by simpa using hjl) (by omega) (by simp [hv]) (fun i hi hlt => ?_)) ⟨S.k _ _ hl, fun y hy => ?_, κ, S, .of, h _⟩
  · have h1 := hno i hlt
    have h2 : bs[i]'(by omega) = false := (List.getElem?_eq_some_iff.mp h1).2
    simp [h2]
  · have hy' : y ∈ bs.map PySem.Value.bool := by simpa using hy
    obtain ⟨q, _, rfl⟩ := List.mem_map.mp hy'
    exact EqAt.bool_bool q true
theorem t_notBool {x : Bool} (h : Q (.bool (!x)) κ) : Wp W A T1 (unaryOp .Not (.bool x)) κ Q := fun R s _ _ S => by
  unfold unaryOp
  exact wpAny_bind (wpAny_truthy_bool (wpAny_pure ⟨κ, S, .of, h⟩))
/-- the last item -/
theorem t_itemLast {value slice : PySem.Expr} {x : PySem.Value} {u : Tok} (hl : κ l = some (listOf xs n)) (hz : xs.size ≤ 1000000) (hx : xs[xs.size - 1]? = some x) (h : Q x κ)
    (hs : subscripted slice false (.ref l) (.int (-1) u) = operate [.ref l, .int (-1) u] (getItem (.ref l) (.int (-1) u)) := by with_unfolding_all rfl) : Wp W A T1 (subscriptTail value slice (.ref l) (.int (-1) u)) κ Q := fun R s _ _ S => by
  have hp : 0 < xs.size := by have := (Array.getElem?_eq_some_iff.mp hx).1; omega
  have hL : s.heap.IsList l xs := ⟨_, S.k _ _ hl, rfl, n, rfl⟩
  have e : ((-1 : Int) + (xs.size : Int)).toNat = xs.size - 1 := by omega
  exact subscriptTail_builtinR hL.typeIs slot_list_getitem.lookup (wpAny_getItem_list_neg (Q := fun r s' => r = x ∧ ∃ κ', Sat κ' R s'.heap ∧ Fwd s s' ∧ Q r κ') hL (by decide) (by omega) (by decide) (by rw [e]; exact hx) ⟨rfl, κ, S, .of, h⟩) hs
end
section
variable {W : Wd} {A : Around} {env : Env} {ρ : Loc} {κ : PM} {Q : Flow → Loc → PM → Prop} {pos : Pos}
theorem for_walk2 {target : Expr} {body orelse : List Stmt} {It : Addr} {fp ls : List Addr} {n : Nat} {P : Nat → PySem.Value → Prop} {St : Nat → Heap → Prop} {ob : Addr → Obj}
    (Wk : Walks PW W.w A It fp [It] n P St) (hfp : ∀ b ∈ fp, b = It ∨ b ∈ ls) (live : ∀ k h, St k h → ∃ o, h.get? It = some o) (I : Nat → Loc → PM → Prop) (hls : ∀ k ρ κ, I k ρ κ → ∀ b ∈ ls, κ b = some (ob b))
    (turn : ∀ k v ρ κ, k < n → P k v → I k ρ κ → WS W A env ρ (PySem.assign target env v) κ fun _ ρ' κ' => WX W A env ρ' body κ' fun fl ρ'' κ'' => match fl with
      | .next => I (k + 1) ρ'' κ''
      | .cont => I (k + 1) ρ'' κ''
      | .brk => Q .next ρ'' κ''
      | .ret v => Q (.ret v) ρ'' κ'')
    (fin : ∀ ρ κ, I n ρ κ → WX W A env ρ orelse κ Q)
    (ht : ∀ (k : Nat) v (s : Shared) (Q : Unit → Shared → Prop) (E : PySem.Value → Shared → Prop), k < n → P k v → St (k + 1) s.heap → Q () s → wpAny W.M A (letOwnedTupleGo target (.ref It) v) Q E s)
    {R φ : PM} {s : Shared} (b : W.kB.le R) (d : Dj φ R) (f : FrameW env ρ φ) (S : Sat κ (un φ R) s.heap) (hRI : R It = .none) (hφI : φ It = .none) (hκI : κ It = .none) (h0 : St 0 s.heap) (i0 : I 0 ρ κ) :
    codeAny W.M A (.forLoop target (.ref It) body orelse env) (fun r s' => match r with
      | .ok fl => ∃ κ' ρ' φ', Dj φ' R ∧ FrameW env ρ' φ' ∧ Sat κ' (un φ' R) s'.heap ∧ Fwd s s' ∧ Q fl ρ' κ'
      | .error _ => False) s := by
  refine codeAny_forLoop_any (fun m s' => ∃ k κ ρ φ o, m = n - k ∧ k ≤ n ∧ Dj φ (R.put It o) ∧ FrameW env ρ φ ∧ Sat κ (un φ (R.put It o)) s'.heap ∧ Fwd s s' ∧ St k s'.heap ∧ I k ρ κ) ?_ n ?_
  · rintro m s' ⟨k, κ, ρ, φ, o, rfl, hk, d, f, S, F, hSt, hI⟩
    have hφ := d.off
    obtain ⟨S₀, hκ, hIt⟩ := S.unputR hφ hRI
    by_cases hlt : k < n
    · refine Wk.item k s' _ _ hlt hSt fun v h' tk hP hSt' hkeep => ?_
      refine ht k v { s' with heap := h', toks := tk } _ _ hlt hP hSt' ?_
      obtain ⟨o', ho'⟩ := live _ _ hSt'
      have hkeep' : ∀ b ob, b ≠ It → s'.heap.get? b = some ob → h'.get? b = some ob := fun b ob q e => hkeep b ob (by simpa using q) e
      have d' : Dj φ (R.put It o') := (d.unputR hRI).putR hφ
      have S' : Sat κ (un φ (R.put It o')) h' := S₀.putR hφ hκ ho' hkeep'
      have b' : W.kB.le (R.put It o') := b.trans (PM.le_put hRI)
      have T := turn k v ρ κ hlt hP hI
      refine WS.seq (s := { s' with heap := h', toks := tk }) T b' d' f S' fun _ κ₁ ρ₁ φ₁ s₁ d₁ f₁ S₁ F₁ T₁ => ?_
      refine T₁.seq b' d₁ f₁ S₁ fun fl κ₂ ρ₂ φ₂ s₂ d₂ f₂ S₂ F₂ q => ?_
      have hφ₂ := d₂.off
      obtain ⟨S₃, hκ₂, hIt₂⟩ := S₂.unputR hφ₂ hRI
      have FF : Fwd s s₂ := (F.trans (.of (s := s') (s' := { s' with heap := h', toks := tk }))).trans (F₁.trans F₂)
      have nxt : I (k + 1) ρ₂ κ₂ → ∃ m, m < n - k ∧ ∃ k κ ρ φ o, m = n - k ∧ k ≤ n ∧ Dj φ (R.put It o) ∧ FrameW env ρ φ ∧ Sat κ (un φ (R.put It o)) s₂.heap ∧ Fwd s s₂ ∧ St k s₂.heap ∧ I k ρ κ := fun q => by
        refine ⟨n - (k + 1), by omega, k + 1, κ₂, ρ₂, φ₂, o', rfl, hlt, d₂, f₂, S₂, FF, Wk.frame _ _ _ hSt' fun b hb ob e => ?_, q⟩
        rcases hfp b hb with rfl | hb
        · rw [ho'] at e; cases e; exact hIt₂
        · have e1 := S'.k _ _ (hls _ _ _ hI b hb)
          rw [e1] at e; cases e
          exact S₂.k _ _ (hls _ _ _ q b hb)
      cases fl with
      | next => exact nxt q
      | cont => exact nxt q
      | brk => exact ⟨κ₂, ρ₂, φ₂, d₂.unputR hRI, f₂, S₃, FF, q⟩
      | ret v => exact ⟨κ₂, ρ₂, φ₂, d₂.unputR hRI, f₂, S₃, FF, q⟩
    · have hkn : k = n := by omega
      subst hkn
      refine Wk.done s' _ _ hSt fun h' tk hkeep => ?_
      have S' : Sat κ (un φ R) h' := ⟨fun b ob e => hkeep b ob (by simpa using PM.ne_of hκ e) (S₀.k _ _ e), fun b ob e => hkeep b ob (by simpa using PM.ne_of (by rw [un_right hφ]; exact hRI) e) (S₀.r _ _ e), S₀.d⟩
      refine WS.seq (s := { s' with heap := h', toks := tk }) (fin ρ κ hI) b (d.unputR hRI) f S' fun fl κ₂ ρ₂ φ₂ s₂ d₂ f₂ S₂ F₂ q => ?_
      exact ⟨κ₂, ρ₂, φ₂, d₂, f₂, S₂, (F.trans (.of (s := s') (s' := { s' with heap := h', toks := tk }))).trans F₂, q⟩
  · obtain ⟨o, ho⟩ := live _ _ h0
    exact ⟨0, κ, ρ, φ, o, rfl, Nat.zero_le _, d.putR hφI, f, S.putR hφI hκI ho fun _ _ _ e => e, .of, h0, i0⟩
/-- for (.., ..) in list -/
theorem ws_forLT {elts : List Expr} {kk : Nat} {tp : Pos} {iter : Expr} {body : List Stmt} {xs : Array PySem.Value} {m l : Nat} (hh : A.handled = .none) (I : Nat → Loc → PM → Prop)
    (hi : WE W A env ρ iter κ fun v κ₁ => v = .ref l ∧ I 0 ρ κ₁) (hl : ∀ k ρ κ, I k ρ κ → κ l = some (listOf xs m)) (href : ∀ (k : Nat) v, xs[k]? = some v → ∃ a, v = .ref a)
    (turn : ∀ k v ρ κ, xs[k]? = some v → I k ρ κ → WS W A env ρ (PySem.assign (.Tuple elts kk tp) env v) κ fun _ ρ' κ' => WX W A env ρ' body κ' fun fl ρ'' κ'' => match fl with
      | .next => I (k + 1) ρ'' κ''
      | .cont => I (k + 1) ρ'' κ''
      | .brk => Q .next ρ'' κ''
      | .ret v => Q (.ret v) ρ'' κ'')
    (fin : ∀ ρ κ, I xs.size ρ κ → Q .next ρ κ) (hs : ∀ x, foldedSetIterable iter env x = Pure.pure x := by intro _; rfl) :
    WS W A env ρ (exec (.For (.Tuple elts kk tp) iter body [] pos) env) κ Q := by
  intro R φ s b d f S
  refine wpAny_For (hi.seqS b d f S fun v κ₁ s₁ S₁ F₁ q => ?_) hs
  obtain ⟨rfl, q⟩ := q
  have hll := hl _ _ _ q
  have h1 : s₁.heap.get? l = some (listOf xs m) := S₁.k _ _ hll
  refine wpAny_pyIter_list ⟨_, h1, rfl, m, rfl⟩ ?_
  have hfr := S₁.fresh (get_size_none s₁.heap)
  have hne : l ≠ s₁.heap.objs.size := Nat.ne_of_lt (Heap.lt_size h1)
  have hφ : φ s₁.heap.objs.size = .none := by
    cases e : φ s₁.heap.objs.size with
    | none => rfl
    | some o => have := hfr.2; rw [un_left e] at this; cases this
  have hR : R s₁.heap.objs.size = .none := by have := hfr.2; rwa [un_right hφ] at this
  refine codeAny_mono (for_walk2 (s := { s₁ with heap := s₁.heap.push { cls := .type "list_iterator", data := .fields #[.ref l, .int 0 0] } }) (ls := [l]) (ob := fun _ => listOf xs m) (Walks.list hh s₁.heap.objs.size l hne xs) (fun b hb => by simpa using hb)
    (fun k h st => let ⟨o, ho, _⟩ := st.1; ⟨o, ho⟩) I (fun k ρ κ hI b hb => by rw [List.mem_singleton.mp hb]; exact hl _ _ _ hI) (fun k v ρ κ hk hP hI => turn k v ρ κ hP hI) (fun ρ κ hI => WX.nil (fin ρ κ hI)) (fun k v s Q E hk hP st hq => ?_) b d f
    (S₁.more fun _ _ e => Heap.get?_push_of_some _ e) hR hφ hfr.1 ⟨⟨_, Heap.get?_push_size _ rfl, rfl, rfl⟩, ⟨_, Heap.get?_push_of_some _ h1, rfl, m, rfl⟩⟩ q) fun r s' hr => ?_
  · obtain ⟨a, rfl⟩ := href k v hP
    obtain ⟨o, ho, hc, hd⟩ := st.1
    unfold letOwnedTupleGo
    refine wpAny_bind (wpAny_load ho ?_)
    rw [hc, hd]
    refine wpAny_ite_split (fun h => absurd h (by simp)) fun _ => ?_
    exact wpAny_pure hq
  · cases r with
    | ok fl => obtain ⟨κ', ρ', φ', d', f', S', F', q'⟩ := hr; exact ⟨κ', ρ', φ', d', f', S', (F₁.trans .of).trans F', q'⟩
    | error e => exact hr.elim
end
end Mine
end
section
open PySem PySem.W PySem.Calls PyProof.Rows PySem.SeqAt
set_option maxRecDepth 100000
set_option maxHeartbeats 1000000
set_option linter.unusedVariables false
namespace Mine
/-- Leaf.__init__ without a context -/
theorem leaf_init0 {W : Wd} {A : Around} {n : Nat} {κ : PM} {Q : PySem.Value → PM → Prop} {args : List PySem.Value} {kw : List (Str × PySem.Value)} {binds : List (Str × PySem.Value)} {x dx fl : Addr} {kd : Int} {val : Str} {nf : Nat}
    {t1 t2 t3 t4 : Tok} (a : AOk A (n + 1)) (hb : BindsOk W rec314.fd args kw binds) (hρ : rec314.sc.names.map (fun y => binds.reverse.lookup y.1) = leafBinds x kd val .none fl t1 t2 t3 t4)
    (hloc : ∀ x ∈ binds, rec314.sc.names.lookup x.1 = some .local) (hk0 : 0 ≤ kd) (hk1 : kd < 256)
    (hx : κ x = some (instObj 376 dx)) (hd : κ dx = some emptyDict) (hfl : RdO W κ fl (listOf #[] nf)) (hfd : fl ≠ dx)
    (h : ∀ κ' f, But dx κ κ' → Inst W.w.params κ' 376 KL x dx f → Q .none κ') : Cd W A (.call (.ref 314) ⟨args, kw⟩) κ Q := by
  have hxd : x ≠ dx := fun q => by subst q; rw [hd] at hx; simp at hx
  have I0 : Inst W.w.params κ 376 KL x dx (fun _ => none) := ⟨hx, [], 0, hd, Dc.nil _ _⟩
  refine Cd.def rec314 a hb (leafBinds x kd val .none fl t1 t2 t3 t4) hρ (by kernel_rfl) (by decide) hloc (by decide) fun L => ?_
  refine WX.cons (WS.assert (wt_chain (WE.int fun _ => WE.name 1 rfl rfl (t_le (Wp.truthyBool ?_)))))
  rw [decide_eq_true hk0, if_pos rfl]
  refine WE.int fun _ => t_lt (Wp.truthyBool ⟨decide_eq_true hk1, ?_⟩)
  refine WX.cons (WS.if (WT.cmp (WE.name 3 rfl rfl (WE.none (t_nnN (Wp.truthyBool (pick_f (WX.nil ?_))))))))
  have B3 : But dx κ κ := But.rfl
  refine wx_set 0 rfl rfl I0 (setL (by decide)) (by decide) (WE.call (WE.glob rfl (gIdent _) (call_with0 (.ref (kIdent _)) (Wp.ofCd (Cd.make0 (mkI _) fun i di hi hdi hid => ⟨(PM.put_fresh hdi _).put hi, fun o₄ I4 => ?_⟩)))))
  have B4 := B3.put (d := dx) ((PM.put_fresh hdi emptyDict).put hi (o := instObj 31 di)) o₄
  generalize ((κ.put di emptyDict).put i (instObj 31 di)).put dx o₄ = κ₄ at B4 I4
  refine wx_set 0 rfl rfl I4 (setL (by decide)) (by decide) (WE.name 1 rfl rfl ⟨.rfl, fun o₅ I5 => ?_⟩)
  have B5 := B4.put .rfl o₅
  generalize κ₄.put dx o₅ = κ₅ at B5 I5
  refine wx_set 0 rfl rfl I5 (setL (by decide)) (by decide) (WE.name 2 rfl rfl ⟨.rfl, fun o₆ I6 => ?_⟩)
  have B6 := B5.put .rfl o₆
  generalize κ₅.put dx o₆ = κ₆ at B6 I6
  refine WX.cons (WS.if (WT.cmp (WE.name 4 rfl rfl (WE.none (t_nnN (Wp.truthyBool (pick_f (WX.nil ?_))))))))
  have hfl6 : RdO W κ₆ fl (listOf #[] nf) := hfl.imp (fun e => B6 _ _ hfd e) id
  refine wx_set 0 rfl rfl I6 (setL (by decide)) (by decide) (WE.sub (WE.name 5 rfl rfl (we_slice fun sl hsl => ?_)))
  have hfl7 : RdO W (κ₆.put sl sliceAll) fl (listOf #[] nf) := hfl6.imp (fun e => PM.put_fresh hsl _ _ _ e) id
  refine t_sliceAll hfl7 (PM.put_self ..) (by show 0 ≤ 1000000; omega) fun g hg => ⟨(PM.put_fresh hsl _).put (PM.le.none (PM.put_fresh hsl sliceAll) hg), fun o₇ I7 => ?_⟩
  have B7 := B6.put (d := dx) ((PM.put_fresh hsl sliceAll).put (PM.le.none (PM.put_fresh hsl sliceAll) hg) (o := listOf #[] 0)) o₇
  generalize ((κ₆.put sl sliceAll).put g (listOf #[] 0)).put dx o₇ = κ₇ at B7 I7
  refine wx_set 0 rfl rfl I7 (setL (by decide)) (by decide) (WE.list (WArgs.nil ⟨by decide, fun c hc => ⟨PM.put_fresh hc _, fun o₈ I8 => ?_⟩⟩))
  have B8 := B7.put (PM.put_fresh hc (listOf #[] 0)) o₈
  generalize (κ₇.put c (listOf #[] 0)).put dx o₈ = κ₈ at B8 I8
  refine wx_set 0 rfl rfl I8 (setL (by decide)) (by decide) (WE.name 6 rfl rfl ⟨.rfl, fun o₉ I9 => ?_⟩)
  refine wx_set 0 rfl rfl I9 (setL (by decide)) (by decide) (WE.name 7 rfl rfl ⟨.rfl, fun oa Ia => ?_⟩)
  refine wx_set 0 rfl rfl Ia (setL (by decide)) (by decide) (WE.name 8 rfl rfl ⟨.rfl, fun ob Ib => ?_⟩)
  refine wx_set 0 rfl rfl Ib (setL (by decide)) (by decide) (WE.name 9 rfl rfl ⟨.rfl, fun oc Ic => ?_⟩)
  refine wx_set 0 rfl rfl Ic (setL (by decide)) (by decide) (WE.name 10 rfl rfl ⟨.rfl, fun od Id => WX.nil ?_⟩)
  exact h _ _ (((((B8.put .rfl o₉).put .rfl oa).put .rfl ob).put .rfl oc).put .rfl od) Id
theorem leafB0 (W : Wd) (x : Addr) (kd : Int) (val : Str) (t1 t2 : Tok) : ∃ t3 t4, BindsOk W rec314.fd [.ref x, .int kd t1, .str val t2] [] [("self", .ref x), ("kind", .int kd t1), ("value", .str val t2), ("context", .none), ("prefix", .none), ("fixers_applied", .ref 306), ("opening_bracket", .none), ("fmt_pass_converted_first_leaf", .none), ("bracket_depth", .int 0 t3), ("line_ranges_first_lineno", .int 0 t4), ("line_ranges_selected", .none)] :=
  ⟨_, _, BindsOk.dflt (T := 307) rfl rfl rfl rfl rfl⟩
/-- Leaf(kind, value) -/
theorem leaf_call0 {W : Wd} {A : Around} {n : Nat} {κ : PM} {Q : PySem.Value → PM → Prop} {kd : Int} {val : Str} {t1 t2 : Tok} (a : AOk A (n + 2)) (hk0 : 0 ≤ kd) (hk1 : kd < 256)
    (h : ∀ κ' x dx f, κ.le κ' → κ x = none → Inst W.w.params κ' 376 KL x dx f → Q (.ref x) κ') : Cd W A (.call (.ref 376) ⟨[.int kd t1, .str val t2], []⟩) κ Q := by
  intro R s b S
  refine Cd.make (mkL _) (fun x dx hx hd hne => ?_) R s b S
  obtain ⟨t3, t4, h1⟩ := leafB0 W x kd val t1 t2
  intro R' s' b' S'
  have hfd : (306 : Addr) ≠ dx := fun q => by
    subst q
    have e := kb306 W
    have hk := S'.d (306 : Addr) emptyDict (by rw [PM.put_ne _ _ (Ne.symm hne), PM.put_self])
    cases q : W.kB 306 with
    | none => exact e q
    | some o => rw [b' _ _ q] at hk; cases hk
  exact leaf_init0 (fl := 306) (nf := 0) (AOk.tc a) h1 rfl (locs rfl) hk0 hk1 (PM.put_self ..) (by rw [PM.put_ne _ _ (Ne.symm hne), PM.put_self]) (.inr rfl) hfd (fun κ' f B I => ⟨rfl, h κ' x dx f (made_le hx hd B) hx I⟩) R' s' b' S'
end Mine
end
section
open PySem PySem.W PySem.Calls PyProof.Rows PySem.SeqAt
set_option maxRecDepth 100000
set_option maxHeartbeats 1000000
set_option linter.unusedVariables false
namespace Mine
theorem acc_eq {l : List Addr} {acc : List PySem.Value} (hl : acc.length = l.length) (h : ∀ (j : Nat) v, acc[j]? = some v → isRef l j v) : acc = l.map PySem.Value.ref := by
  apply List.ext_getElem?
  intro j
  by_cases hj : j < l.length
  · have e : acc[j]? = some (acc[j]'(by omega)) := List.getElem?_eq_getElem (by omega)
    obtain ⟨a, ha, hla⟩ := h j _ e
    rw [e, ha, List.getElem?_map, hla]; rfl
  · rw [List.getElem?_eq_none (by omega), List.getElem?_eq_none (by simp; omega)]
theorem post_len (t : Tr) : t.post.length = t.pre.length := Tr.post_len t
theorem Tr.leaf_lvs {a d : Addr} {ty : Int} {v p : Str} : (Tr.leaf a d ty v p).lvs = [a] := by simp [Tr.lvs]
section
variable {W : Wd} {A : Around} {env : Env} {ρ : Loc} {κ : PM} {Q : PySem.Value → PM → Prop} {x : Str} {kx : NameKind} {k : Nat} {t : Tr} {par : Option Addr} {p1 p2 p3 p4 p5 : Pos} {pl : Sem Bool}
/-- list(x.pre_order()) -/
theorem we_pre (ix : Nat) (ao : AOk A (k + 6)) (hx : env.scope.names[ix]? = some (x, kx)) (hv : ρ[ix]? = some (some (.ref t.addr))) (hl : env.kindOf "list" = some .globalImplicit) (hat : At W.w.params κ t par) (hlen : t.pre.length ≤ 1000)
    (h : ∀ D c κ', κ.le κ' → κ D = none → κ' D = some (listOf (t.pre.map PySem.Value.ref).toArray c) → Q (.ref D) κ') (hd : (x == ("__debug__" : Str)) = false := by decide) (hc : (x == ("__classdict__" : Str)) = false := by decide)
    (he3 : eval (.Call (.Attribute (.Name x p2) "pre_order" p3) [] [] p4) env = (do let ov ← eval (.Name x p2) env; standAt p3.atName; let (f, first) ← holding [ov] (getMethod ov "pre_order" pl); callWith p4 f first (backTo p4 (starEach [] env)) []) := by rfl) :
    WE W A env ρ (.Call (.Name "list" p1) [.Call (.Attribute (.Name x p2) "pre_order" p3) [] [] p4] [] p5) κ Q := by
  cases t with
  | leaf ad d ty v p =>
    obtain ⟨f, i, _⟩ := hat.own
    refine we_listgen ix (k := k) rec356 (ao.less (by omega)) hx hv hl (gList _) i (mthL' (by decide)) (by show ("pre_order" : Str) ∉ KL; decide) (keepF (by decide)) rfl ⟨_, rfl⟩ (by kernel_rfl) (by decide) (locs rfl) (by decide) (by decide) (J := T1) (ρ₀ := [some (.ref ad)]) .rfl (fun _ _ _ _ _ => trivial) gen356 (fun D acc c κ' hle _ hD hD' hl hacc => ?_) hd hc (he3 := he3)
    have : acc = [PySem.Value.ref ad] := acc_eq (l := [ad]) hl fun j v hj => by
      have hj' : j = 0 := by have := (List.getElem?_eq_some_iff.mp hj).1; omega
      subst hj'
      exact ⟨ad, hacc _ _ hj, rfl⟩
    subst this
    exact h D c κ' hle hD (by simpa [Tr.pre] using hD')
  | node ad d l ty ch =>
    obtain ⟨f, i, _⟩ := hat.own
    refine we_listgen ix (k := k + 3) rec213 (ao.less (by omega)) hx hv hl (gList _) i (mthN' (by decide)) (by show ("pre_order" : Str) ∉ KN; decide) (keepF (by decide)) rfl ⟨_, rfl⟩ (by kernel_rfl) (by decide) (locs rfl) (by decide) (N := (Tr.node ad d l ty ch).pre.length) (by omega) (J := T1) (ρ₀ := [some (.ref ad), none, none]) .rfl (fun _ _ _ _ _ => trivial) (gen213 (k := k) hat hlen) (fun D acc c κ' hle _ hD hD' hl hacc => ?_) hd hc (he3 := he3)
    have := acc_eq hl hacc
    subst this
    exact h D c κ' hle hD hD'
/-- list(x.leaves()) -/
theorem we_leaves (ix : Nat) (ao : AOk A (k + 6)) (hx : env.scope.names[ix]? = some (x, kx)) (hv : ρ[ix]? = some (some (.ref t.addr))) (hl : env.kindOf "list" = some .globalImplicit) (hat : At W.w.params κ t par) (hlen : t.pre.length ≤ 1000)
    (h : ∀ D c κ', κ.le κ' → κ D = none → κ' D = some (listOf (t.lvs.map PySem.Value.ref).toArray c) → Q (.ref D) κ') (hd : (x == ("__debug__" : Str)) = false := by decide) (hc : (x == ("__classdict__" : Str)) = false := by decide)
    (he3 : eval (.Call (.Attribute (.Name x p2) "leaves" p3) [] [] p4) env = (do let ov ← eval (.Name x p2) env; standAt p3.atName; let (f, first) ← holding [ov] (getMethod ov "leaves" pl); callWith p4 f first (backTo p4 (starEach [] env)) []) := by rfl) :
    WE W A env ρ (.Call (.Name "list" p1) [.Call (.Attribute (.Name x p2) "leaves" p3) [] [] p4] [] p5) κ Q := by
  cases t with
  | leaf ad d ty v p =>
    obtain ⟨f, i, _⟩ := hat.own
    refine we_listgen ix (k := k) rec342 (ao.less (by omega)) hx hv hl (gList _) i (mthL' (by decide)) (by show ("leaves" : Str) ∉ KL; decide) (keepF (by decide)) rfl ⟨_, rfl⟩ (by kernel_rfl) (by decide) (locs rfl) (by decide) (by decide) (J := T1) (ρ₀ := [some (.ref ad)]) .rfl (fun _ _ _ _ _ => trivial) gen342 (fun D acc c κ' hle _ hD hD' hl hacc => ?_) hd hc (he3 := he3)
    have : acc = [PySem.Value.ref ad] := acc_eq (l := [ad]) hl fun j v hj => by
      have hj' : j = 0 := by have := (List.getElem?_eq_some_iff.mp hj).1; omega
      subst hj'
      exact ⟨ad, hacc _ _ hj, rfl⟩
    subst this
    exact h D c κ' hle hD (by simpa [Tr.leaf_lvs] using hD')
  | node ad d l ty ch =>
    obtain ⟨f, i, _⟩ := hat.own
    have hlen' : (Tr.preL ch).length ≤ 1000 := by simp only [Tr.pre, List.length_cons] at hlen; omega
    have hlv := lvsL_le ch
    refine we_listgen ix (k := k + 3) rec144 (ao.less (by omega)) hx hv hl (gList _) i (mthN' (by decide)) (by show ("leaves" : Str) ∉ KN; decide) (keepF (by decide)) rfl ⟨_, rfl⟩ (by kernel_rfl) (by decide) (locs rfl) (by decide) (N := (Tr.lvsL ch).length) (by omega) (J := T1) (ρ₀ := [some (.ref ad), none, none]) .rfl (fun _ _ _ _ _ => trivial) (gen144 (k := k) hat hlen') (fun D acc c κ' hle _ hD hD' hl hacc => ?_) hd hc (he3 := he3)
    have := acc_eq hl hacc
    subst this
    exact h D c κ' hle hD (by simpa [Tr.lvs] using hD')
/-- list(x.post_order()) -/
theorem we_post (ix : Nat) {ps₀ : Array PySem.Value} (ao : AOk A (k + 9)) (hx : env.scope.names[ix]? = some (x, kx)) (hv : ρ[ix]? = some (some (.ref t.addr))) (hl : env.kindOf "list" = some .globalImplicit) (hat : At W.w.params κ t par) (hlen : t.pre.length ≤ 1000) (h201 : κ 201 = some (tabObj ps₀)) (htr : TriplesOk ps₀.toList) (hlf : t.isLeaf = true → (codeAmong gPos ps₀.toList).isSome = true)
    (h : ∀ D c κ', (κ.butL [201]).le κ' → TabEnd ps₀ κ' → κ D = none → κ' D = some (listOf (t.post.map PySem.Value.ref).toArray c) → Q (.ref D) κ') (hd : (x == ("__debug__" : Str)) = false := by decide) (hc : (x == ("__classdict__" : Str)) = false := by decide)
    (he3 : eval (.Call (.Attribute (.Name x p2) "post_order" p3) [] [] p4) env = (do let ov ← eval (.Name x p2) env; standAt p3.atName; let (f, first) ← holding [ov] (getMethod ov "post_order" pl); callWith p4 f first (backTo p4 (starEach [] env)) []) := by rfl) :
    WE W A env ρ (.Call (.Name "list" p1) [.Call (.Attribute (.Name x p2) "post_order" p3) [] [] p4] [] p5) κ Q := by
  cases t with
  | leaf ad d ty v p =>
    obtain ⟨f, i, _⟩ := hat.own
    refine we_listgen ix (k := k) rec349 (ao.less (by omega)) hx hv hl (gList _) i (mthL' (by decide)) (by show ("post_order" : Str) ∉ KL; decide) (keepF (by decide)) rfl ⟨_, rfl⟩ (by kernel_rfl) (by decide) (locs rfl) (by decide) (by decide) (J := T1) (ρ₀ := [some (.ref ad)]) .rfl (fun _ _ _ _ _ => trivial) gen349 (fun D acc c κ' hle _ hD hD' hl hacc => ?_) hd hc (he3 := he3)
    have : acc = [PySem.Value.ref ad] := acc_eq (l := [ad]) hl fun j v hj => by
      have hj' : j = 0 := by have := (List.getElem?_eq_some_iff.mp hj).1; omega
      subst hj'
      exact ⟨ad, hacc _ _ hj, rfl⟩
    subst this
    exact h D c κ' (fun u o e => hle _ _ (PM.butL_get e).2) ⟨ps₀, hle _ _ h201, htr, hlf rfl, fun _ => rfl⟩ hD (by simpa [Tr.post] using hD')
  | node ad d l ty ch =>
    obtain ⟨f, i, _⟩ := hat.own
    have hpl := post_len (Tr.node ad d l ty ch)
    refine we_listgen ix (k := k + 6) rec206 (ao.less (by omega)) hx hv hl (gList _) i (mthN' (by decide)) (by show ("post_order" : Str) ∉ KN; decide) (keepF (by decide)) rfl ⟨_, rfl⟩ (by kernel_rfl) (by decide) (locs rfl) (by decide) (N := (Tr.node ad d l ty ch).post.length) (by omega) (κ₀ := κ.butL [201]) (fun u o e => (PM.butL_get e).2) (J := TabEnd ps₀) (ρ₀ := [some (.ref ad), none, none, none, none]) (fun κ' S o hS hE => hE.put fun q => by subst q; rw [h201] at hS; cases hS) (gen206 (k := k) hat hlen h201 htr) (fun D acc c κ' hle hJ hD hD' hl hacc => ?_) hd hc (he3 := he3)
    have := acc_eq hl hacc
    subst this
    exact h D c κ' hle hJ hD hD'
end
theorem tab_le {κ κ' : PM} {ps₀ : Array PySem.Value} (h : (κ.butL [201]).le κ') (h201 : κ 201 = some (tabObj ps₀)) (hE : TabEnd ps₀ κ') (hs : (codeAmong gPos ps₀.toList).isSome = true) : κ.le κ' := fun u o e => by
  by_cases q : u = 201
  · subst q
    obtain ⟨ps, e1, _, _, e2⟩ := hE
    rw [h201] at e; cases e
    rw [e1, e2 hs]
  · exact h _ _ (PM.butL_some e (by simpa using q))
end Mine
end
section
open PySem PySem.W
set_option maxRecDepth 100000
set_option maxHeartbeats 1000000
set_option linter.unusedVariables false
namespace Mine
/-! ## plain facts about trees -/
inductive All2 {α β : Type} (R : α → β → Prop) : List α → List β → Prop
  | nil : All2 R [] []
  | cons {a b r q} : R a b → All2 R r q → All2 R (a :: r) (b :: q)
theorem All2.app {α β : Type} {R : α → β → Prop} : ∀ {a : List α} {b : List β} {c : List α} {d : List β}, All2 R a b → All2 R c d → All2 R (a ++ c) (b ++ d)
  | _, _, _, _, .nil, k => k
  | _, _, _, _, .cons h r, k => .cons h (All2.app r k)
theorem All2.get {α β : Type} {R : α → β → Prop} : ∀ {a : List α} {b : List β}, All2 R a b → ∀ (k : Nat) u w, a[k]? = some u → b[k]? = some w → R u w
  | _, _, .nil, k, u, w, h, _ => by simp at h
  | _, _, .cons h r, 0, u, w, h1, h2 => by simp at h1 h2; subst h1; subst h2; exact h
  | _, _, .cons h r, k + 1, u, w, h1, h2 => All2.get r k u w (by simpa using h1) (by simpa using h2)
theorem All2.mapR {α β γ : Type} {R : α → β → Prop} {S : α → γ → Prop} {f : β → γ} : ∀ {a : List α} {b : List β}, All2 R a b → (∀ x y, R x y → S x (f y)) → All2 S a (b.map f)
  | _, _, .nil, _ => .nil
  | _, _, .cons h r, k => .cons (k _ _ h) (All2.mapR r k)
theorem All2.len {α β : Type} {R : α → β → Prop} : ∀ {a : List α} {b : List β}, All2 R a b → a.length = b.length
  | _, _, .nil => rfl
  | _, _, .cons _ r => by simp [All2.len r]
namespace Tr
mutual
/-- the nodes, children first -/
def psubs : Tr → List Tr
  | leaf a d ty v p => [leaf a d ty v p]
  | node a d l ty ch => psubsL ch ++ [node a d l ty ch]
def psubsL : List Tr → List Tr
  | [] => []
  | t :: r => t.psubs ++ psubsL r
end
mutual
theorem psubs_post : ∀ (t : Tr), t.psubs.map addr = t.post
  | leaf .. => by simp [psubs, post, addr]
  | node _ _ _ _ ch => by simp [psubs, post, addr, psubsL_post ch]
theorem psubsL_post : ∀ (ts : List Tr), (psubsL ts).map addr = postL ts
  | [] => by simp [psubsL, postL]
  | t :: r => by simp [psubsL, postL, psubs_post t, psubsL_post r]
end
mutual
theorem psubs_mem : ∀ {t u : Tr}, u ∈ t.psubs → u ∈ t.subs
  | leaf .., u, h => by simpa [psubs, subs] using h
  | node a d l ty ch, u, h => by
    simp only [psubs, List.mem_append, List.mem_singleton] at h
    simp only [subs, List.mem_cons]
    rcases h with h | h
    · exact .inr (psubsL_mem h)
    · exact .inl h
theorem psubsL_mem : ∀ {ts : List Tr} {u : Tr}, u ∈ psubsL ts → u ∈ subsL ts
  | t :: r, u, h => by
    simp only [psubsL, List.mem_append] at h
    simp only [subsL, List.mem_append]
    exact h.imp psubs_mem psubsL_mem
end
mutual
theorem Twin.subs : ∀ {a b : Tr}, Twin a b → All2 Twin a.subs b.subs ∧ All2 Twin a.psubs b.psubs
  | leaf .., leaf .., h => by unfold Tr.subs Tr.psubs; exact ⟨.cons h .nil, .cons h .nil⟩
  | node .., node .., h => by
    have h' := h
    unfold Twin at h
    obtain ⟨k1, k2⟩ := TwinL.subs h.2
    unfold Tr.subs Tr.psubs
    exact ⟨.cons h' k1, k2.app (.cons h' .nil)⟩
  | leaf .., node .., h => by unfold Twin at h; exact h.elim
  | node .., leaf .., h => by unfold Twin at h; exact h.elim
theorem TwinL.subs : ∀ {a b : List Tr}, TwinL a b → All2 Twin (subsL a) (subsL b) ∧ All2 Twin (psubsL a) (psubsL b)
  | [], [], _ => by unfold Tr.subsL Tr.psubsL; exact ⟨.nil, .nil⟩
  | x :: r, y :: q, h => by
    unfold TwinL at h
    obtain ⟨k1, k2⟩ := Twin.subs h.1
    obtain ⟨k3, k4⟩ := TwinL.subs h.2
    unfold Tr.subsL Tr.psubsL
    exact ⟨k1.app k3, k2.app k4⟩
  | [], _ :: _, h => by unfold TwinL at h; exact h.elim
  | _ :: _, [], h => by unfold TwinL at h; exact h.elim
end
mutual
theorem lvs_filter : ∀ (t : Tr), (t.subs.filter isLeaf).map addr = t.lvs
  | leaf .. => by unfold Tr.subs Tr.lvs; rfl
  | node _ _ _ _ ch => by
    unfold Tr.subs Tr.lvs
    rw [List.filter_cons_of_neg (by show ¬ (false = true); decide)]
    exact lvsL_filter ch
theorem lvsL_filter : ∀ (ts : List Tr), ((subsL ts).filter isLeaf).map addr = lvsL ts
  | [] => by simp [Tr.subsL, Tr.lvsL]
  | t :: r => by simp [Tr.subsL, Tr.lvsL, lvs_filter t, lvsL_filter r]
end
mutual
theorem mem_post : ∀ (t : Tr) (a : Addr), a ∈ t.post ↔ a ∈ t.pre
  | leaf .., a => by simp [post, pre]
  | node b _ _ _ ch, a => by simp only [post, pre, List.mem_append, List.mem_cons, List.not_mem_nil, or_false, mem_postL ch a]; exact or_comm
theorem mem_postL : ∀ (ts : List Tr) (a : Addr), a ∈ postL ts ↔ a ∈ preL ts
  | [], a => by simp [postL, preL]
  | t :: r, a => by simp only [postL, preL, List.mem_append, mem_post t a, mem_postL r a]
end
mutual
/-- the parents, in the order of pre; none for the root -/
def q0 : Tr → List (Option Addr)
  | leaf .. => [none]
  | node a _ _ _ ch => none :: (q0L ch).map fun o => some (o.getD a)
def q0L : List Tr → List (Option Addr)
  | [] => []
  | t :: r => q0 t ++ q0L r
end
mutual
theorem q0_len : ∀ (t : Tr), t.q0.length = t.pre.length
  | leaf .. => by simp [q0, pre]
  | node _ _ _ _ ch => by simp [q0, pre, q0L_len ch]
theorem q0L_len : ∀ (ts : List Tr), (q0L ts).length = (preL ts).length
  | [] => by simp [q0L, preL]
  | t :: r => by simp [q0L, preL, q0_len t, q0L_len r]
end
end Tr
mutual
theorem At.nth {P : Params} {κ : PM} : ∀ {t : Tr} {par : Option Addr}, At P κ t par → All2 (fun u o => At P κ u (match o with | none => par | some q => some q)) t.subs t.q0
  | .leaf .., par, h => by unfold Tr.subs Tr.q0; exact .cons h .nil
  | .node a d l ty ch, par, h => by
    have h' := h
    unfold At at h
    unfold Tr.subs Tr.q0
    exact .cons h' ((AtL.nth h.2).mapR fun x o k => by cases o <;> exact k)
theorem AtL.nth {P : Params} {κ : PM} : ∀ {ts : List Tr} {p : Addr}, AtL P κ ts p → All2 (fun u o => At P κ u (match o with | none => some p | some q => some q)) (Tr.subsL ts) (Tr.q0L ts)
  | [], _, _ => by unfold Tr.subsL Tr.q0L; exact .nil
  | t :: r, p, h => by
    unfold AtL at h
    unfold Tr.subsL Tr.q0L
    exact (At.nth h.1).app (AtL.nth h.2)
end
/-- of what lies before: what ends later -/
def abv (p q : List Addr) (k : Nat) : List Nat := (List.range k).filter fun j => decide (q.idxOf (p.getD k 0) < q.idxOf (p.getD j 0))
def prn (p q : List Addr) (k : Nat) : Option Addr := (abv p q k).getLast?.map fun j => p.getD j 0
end Mine
end
section
open PySem PySem.W
set_option maxRecDepth 100000
set_option maxHeartbeats 1000000
set_option linter.unusedVariables false
namespace Mine
theorem filter_congr' {α : Type} {p q : α → Bool} : ∀ {l : List α}, (∀ x ∈ l, p x = q x) → l.filter p = l.filter q
  | [], _ => rfl
  | x :: r, h => by
    have h1 := h x (.head _)
    have h2 := filter_congr' (l := r) fun y hy => h y (.tail _ hy)
    simp only [List.filter_cons, h1, h2]
theorem idx_left {q1 q2 : List Addr} {x : Addr} (h : x ∈ q1) : (q1 ++ q2).idxOf x = q1.idxOf x := by
  rw [List.idxOf_append, if_pos h]
theorem idx_right {q1 q2 : List Addr} {x : Addr} (h : x ∉ q1) : (q1 ++ q2).idxOf x = q2.idxOf x + q1.length := by
  rw [List.idxOf_append, if_neg h]
theorem getD_mem {p : List Addr} {k : Nat} (h : k < p.length) : p.getD k 0 ∈ p := by
  rw [List.getD_eq_getElem?_getD, List.getElem?_eq_getElem h]; exact List.getElem_mem h
theorem getD_left {p1 p2 : List Addr} {k : Nat} (h : k < p1.length) : (p1 ++ p2).getD k 0 = p1.getD k 0 := by
  rw [List.getD_eq_getElem?_getD, List.getD_eq_getElem?_getD, List.getElem?_append_left h]
theorem getD_right {p1 p2 : List Addr} {k : Nat} : (p1 ++ p2).getD (k + p1.length) 0 = p2.getD k 0 := by
  rw [List.getD_eq_getElem?_getD, List.getD_eq_getElem?_getD, List.getElem?_append_right (by omega), Nat.add_sub_cancel]
theorem abv_left {p1 p2 q1 q2 : List Addr} (hm : ∀ x ∈ p1, x ∈ q1) {k : Nat} (hk : k < p1.length) : abv (p1 ++ p2) (q1 ++ q2) k = abv p1 q1 k := by
  unfold abv
  refine filter_congr' fun j hj => ?_
  have hj : j < k := List.mem_range.mp hj
  rw [getD_left hk, getD_left (by omega), idx_left (hm _ (getD_mem hk)), idx_left (hm _ (getD_mem (by omega)))]
theorem abv_lt {p q : List Addr} {k j : Nat} (h : j ∈ abv p q k) : j < k := List.mem_range.mp (List.mem_filter.mp h).1
theorem prn_left {p1 p2 q1 q2 : List Addr} (hm : ∀ x ∈ p1, x ∈ q1) {k : Nat} (hk : k < p1.length) : prn (p1 ++ p2) (q1 ++ q2) k = prn p1 q1 k := by
  unfold prn
  rw [abv_left hm hk]
  cases h : (abv p1 q1 k).getLast? with
  | none => rfl
  | some j =>
    have hj := abv_lt (List.mem_of_getLast? h)
    simp only [Option.map_some]
    rw [getD_left (by omega)]
theorem range_add' (a b : Nat) : List.range (a + b) = List.range a ++ (List.range b).map (· + a) := by
  rw [List.range_add]
  congr 1
  apply List.map_congr_left
  intro x _
  exact Nat.add_comm _ _
theorem abv_right {p1 p2 q1 q2 : List Addr} (hm : ∀ x ∈ p1, x ∈ q1) (hn : ∀ x ∈ p2, x ∉ q1) {k : Nat} (hk : k < p2.length) : abv (p1 ++ p2) (q1 ++ q2) (k + p1.length) = (abv p2 q2 k).map (· + p1.length) := by
  unfold abv
  rw [Nat.add_comm k, range_add', List.filter_append]
  have h1 : (List.range p1.length).filter (fun j => decide ((q1 ++ q2).idxOf ((p1 ++ p2).getD (p1.length + k) 0) < (q1 ++ q2).idxOf ((p1 ++ p2).getD j 0))) = [] := by
    rw [List.filter_eq_nil_iff]
    intro j hj
    have hj : j < p1.length := List.mem_range.mp hj
    rw [Nat.add_comm, getD_right, getD_left hj, idx_left (hm _ (getD_mem hj)), idx_right (hn _ (getD_mem hk))]
    have := List.idxOf_lt_length_of_mem (hm _ (getD_mem hj))
    simp only [decide_eq_true_eq]; omega
  rw [h1, List.nil_append, List.filter_map]
  congr 1
  refine filter_congr' fun j hj => ?_
  have hj : j < k := List.mem_range.mp hj
  show decide ((q1 ++ q2).idxOf ((p1 ++ p2).getD (p1.length + k) 0) < (q1 ++ q2).idxOf ((p1 ++ p2).getD (j + p1.length) 0)) = _
  rw [Nat.add_comm p1.length k, getD_right, getD_right, idx_right (hn _ (getD_mem hk)), idx_right (hn _ (getD_mem (by omega)))]
  apply decide_eq_decide.mpr
  omega
theorem prn_right {p1 p2 q1 q2 : List Addr} (hm : ∀ x ∈ p1, x ∈ q1) (hn : ∀ x ∈ p2, x ∉ q1) {k : Nat} (hk : k < p2.length) : prn (p1 ++ p2) (q1 ++ q2) (k + p1.length) = prn p2 q2 k := by
  unfold prn
  rw [abv_right hm hn hk, List.getLast?_map]
  cases h : (abv p2 q2 k).getLast? with
  | none => rfl
  | some j =>
    simp only [Option.map_some]
    rw [getD_right]
theorem abv_node {a : Addr} {p q : List Addr} (hm : ∀ x ∈ p, x ∈ q) (ha : a ∉ q) {k : Nat} (hk : k < p.length) : abv (a :: p) (q ++ [a]) (k + 1) = 0 :: (abv p q k).map (· + 1) := by
  unfold abv
  have e : List.range (k + 1) = 0 :: (List.range k).map (· + 1) := by
    rw [List.range_succ_eq_map]
  have hx : (a :: p).getD (k + 1) 0 = p.getD k 0 := by rw [List.getD_cons_succ]
  have h0 : (a :: p).getD 0 0 = a := rfl
  have hi := idx_left (q2 := [a]) (hm _ (getD_mem hk))
  have hlt := List.idxOf_lt_length_of_mem (hm _ (getD_mem hk))
  have hia : (q ++ [a]).idxOf a = q.length := by rw [idx_right ha]; simp
  rw [e, List.filter_cons_of_pos (by rw [hx, h0, hi, hia]; simpa using hlt), List.filter_map]
  congr 2
  refine filter_congr' fun j hj => ?_
  have hj : j < k := List.mem_range.mp hj
  show decide ((q ++ [a]).idxOf ((a :: p).getD (k + 1) 0) < (q ++ [a]).idxOf ((a :: p).getD (j + 1) 0)) = _
  rw [hx, List.getD_cons_succ, hi, idx_left (hm _ (getD_mem (by omega)))]
theorem prn_node {a : Addr} {p q : List Addr} (hm : ∀ x ∈ p, x ∈ q) (ha : a ∉ q) {k : Nat} (hk : k < p.length) : prn (a :: p) (q ++ [a]) (k + 1) = some ((prn p q k).getD a) := by
  unfold prn
  rw [abv_node hm ha hk, List.getLast?_cons, List.getLast?_map]
  cases h : (abv p q k).getLast? with
  | none => rfl
  | some j => simp [List.getD_cons_succ]
theorem prn_zero (p q : List Addr) : prn p q 0 = none := rfl
mutual
/-- the two walks tell the parents -/
theorem prn_tree : ∀ (t : Tr), t.pre.Nodup → ∀ k, k < t.pre.length → t.q0[k]? = some (prn t.pre t.post k)
  | .leaf a d ty v p, _, k, hk => by
    have : k = 0 := by simp [Tr.pre] at hk; omega
    subst this
    unfold Tr.q0; rfl
  | .node a d l ty ch, nd, k, hk => by
    unfold Tr.pre at nd hk
    rw [List.nodup_cons] at nd
    have ha : a ∉ Tr.postL ch := fun h => nd.1 ((Tr.mem_postL ch a).mp h)
    unfold Tr.q0 Tr.pre Tr.post
    cases k with
    | zero => rw [prn_zero]; rfl
    | succ k =>
      have hk' : k < (Tr.preL ch).length := by simpa using hk
      rw [prn_node (fun x hx => (Tr.mem_postL ch x).mpr hx) ha hk', List.getElem?_cons_succ, List.getElem?_map, prn_forest ch nd.2 k hk']
      rfl
theorem prn_forest : ∀ (ts : List Tr), (Tr.preL ts).Nodup → ∀ k, k < (Tr.preL ts).length → (Tr.q0L ts)[k]? = some (prn (Tr.preL ts) (Tr.postL ts) k)
  | [], _, k, hk => by simp [Tr.preL] at hk
  | t :: r, nd, k, hk => by
    unfold Tr.preL at nd hk
    rw [List.nodup_append] at nd
    unfold Tr.q0L Tr.preL Tr.postL
    by_cases h : k < t.pre.length
    · rw [prn_left (fun x hx => (Tr.mem_post t x).mpr hx) h, List.getElem?_append_left (by rw [Tr.q0_len]; exact h), prn_tree t nd.1 k h]
    · obtain ⟨j, rfl⟩ : ∃ j, k = j + t.pre.length := ⟨k - t.pre.length, by omega⟩
      have hj : j < (Tr.preL r).length := by simp at hk; omega
      rw [prn_right (fun x hx => (Tr.mem_post t x).mpr hx) (fun x hx h2 => nd.2.2 x ((Tr.mem_post t x).mp h2) x hx rfl) hj, List.getElem?_append_right (by rw [Tr.q0_len]; omega), Tr.q0_len, Nat.add_sub_cancel, prn_forest r nd.2.1 j hj]
end
/-- no node twice -/
theorem pre_nodup {P : Params} {κ : PM} {t : Tr} {par : Option Addr} (h : At P κ t par) (nd : t.ds.Nodup) : t.pre.Nodup := by
  rw [Tr.ds_subs] at nd
  rw [← Tr.subs_pre]
  have key : ∀ u ∈ t.subs, ∀ w ∈ t.subs, u.addr = w.addr → u.dct = w.dct := fun u hu w hw e => by
    obtain ⟨q1, h1⟩ := h.sub u hu
    obtain ⟨q2, h2⟩ := h.sub w hw
    obtain ⟨f1, i1, _⟩ := h1.own
    obtain ⟨f2, i2, _⟩ := h2.own
    have e1 := i1.1
    have e2 := i2.1
    rw [e, e2] at e1
    simp at e1
    exact e1.2.symm
  clear h
  generalize t.subs = l at nd key
  induction l with
  | nil => exact List.nodup_nil
  | cons u r ih =>
    rw [List.map_cons, List.nodup_cons] at nd ⊢
    refine ⟨fun hm => ?_, ih nd.2 fun x hx y hy => key x (.tail _ hx) y (.tail _ hy)⟩
    obtain ⟨w, hw, e⟩ := List.mem_map.mp hm
    exact nd.1 (List.mem_map.mpr ⟨w, hw, (key u (.head _) w (.tail _ hw) e.symm).symm⟩)
end Mine
end
section
open PySem PySem.W PySem.Calls PyProof.Rows PySem.SeqAt
set_option maxRecDepth 100000
set_option maxHeartbeats 1000000
set_option linter.unusedVariables false
namespace Mine
abbrev envL (L : Addr) : Env := callEnvC rec417.fd L 417
/-- the law's names, by place -/
abbrev LR (sc told at_ tree down up part node one late k above text shape model copy ways rows others way leaf : Option PySem.Value) : Loc :=
  [sc, told, at_, tree, down, up, part, node, one, late, k, above, text, shape, model, copy, ways, rows, others, way, leaf, none, none, none, none, none, none, none, none, none, none, none, none, none]
def stAt (n : Nat) : Stmt := rec417.body.getD n default
section
variable {W : Wd} {A : Around} {L : Addr} {κ : PM} {Q : Flow → Loc → PM → Prop} {sl : Addr} {zs : Array PySem.Value} {ms : Nat}
theorem ints3 {t1 t2 t3 : Tok} : Ints #[.int 3 t1, .int 1 t2, .int 4 t3] := fun i hi => by
  match i with
  | 0 => exact ⟨_, _, rfl⟩
  | 1 => exact ⟨_, _, rfl⟩
  | 2 => exact ⟨_, _, rfl⟩
  | i + 3 => simp at hi; omega
theorem t_truthyListO {l : Addr} {xs : Array PySem.Value} {n : Nat} {Q : Bool → PM → Prop} (hl : RdO W κ l (listOf xs n)) (hz : xs.size ≤ 1000000) (h : Q (!xs.isEmpty) κ) : Wp W A T1 (truthy (.ref l)) κ Q := fun R s b _ S =>
  wpAny_truthy_list ⟨_, hl.get b S, rfl, n, rfl⟩ (by omega) ⟨κ, S, .of, h⟩
theorem law0 (aD : A.handled = none) (hso : RdO W κ sl (listOf zs ms)) (hs : 0 < zs.size → κ sl = some (listOf zs ms)) (hx : Ints zs) (hz : zs.size ≤ 1000)
    (h : ∀ κ' lt la xs m t, κ.le κ' → κ' lt = some (listOf xs m) → Ints xs → 0 < xs.size → xs.size ≤ 1000 → κ' la = some (listOf #[.int (0 : Nat) t] 0) → κ la = none → lt ≠ la → Q .next (LR (some (.ref sl)) (some (.ref lt)) (some (.ref la)) none none none none none none none none none none none none none none none none none none) κ') :
    WS W A (envL L) (LR (some (.ref sl)) none none none none none none none none none none none none none none none none none none none none) (exec (stAt 0) (envL L)) κ Q := by
  have fin : ∀ (lt : Addr) (κ₁ : PM) (xs : Array PySem.Value) (m : Nat) {p : Pos}, κ.le κ₁ → κ₁ lt = some (listOf xs m) → Ints xs → 0 < xs.size → xs.size ≤ 1000 → 
      WArgs W A (envL L) (LR (some (.ref sl)) none none none none none none none none none none none none none none none none none none none none) p [.List [.Constant (.int 0) 0 ⟨256, 38, 256, 39⟩] ⟨256, 37, 256, 40⟩] κ₁ (fun vs κ₁ => (PySem.Value.ref lt :: vs).length ≤ sizeLine ∧ ∀ a, κ₁ a = none → ∃ t xs, PySem.Value.ref a = .ref t ∧ (κ₁.put a (tupOf (PySem.Value.ref lt :: vs).toArray)) t = some (tupOf xs) ∧ (["told", "at"] : List Str).length = xs.size ∧
        WS W A (envL L) (LR (some (.ref sl)) none none none none none none none none none none none none none none none none none none none none) (assignInOrder ((["told", "at"] : List Str).reverse.map fun n => bindName (envL L) n) xs.toList.reverse) (κ₁.put a (tupOf (PySem.Value.ref lt :: vs).toArray)) fun _ ρ' κ' => Q .next ρ' κ') := by
    intro lt κ₁ xs m p hle h1 h2 h3 h4
    refine WArgs.cons <| WE.list <| WArgs.cons <| WE.int fun t => WArgs.nil ⟨by show 1 ≤ sizeLine; decide, fun la hla => WArgs.nil ⟨by show 2 ≤ sizeLine; decide, fun z hz => ⟨z, _, rfl, PM.put_self .., rfl, ?_⟩⟩⟩
    have l1 := PM.put_fresh hla (listOf [PySem.Value.int 0 t].toArray 0)
    have l2 := l1.trans (PM.put_fresh hz (tupOf [PySem.Value.ref lt, .ref la].toArray))
    have hne : lt ≠ la := fun q => by subst q; rw [h1] at hla; cases hla
    exact ws_order <| ws_bindName 2 rfl (.inl rfl) <| ws_order <| ws_bindName 1 rfl (.inl rfl) <| ws_order_nil <| h _ lt la xs m t (hle.trans l2) (l2 _ _ h1) h2 h3 h4 ((PM.put_fresh hz _) _ _ (PM.put_self ..)) (PM.le.none hle hla) hne
  refine ws_swapped (names := ["told", "at"]) aD rfl (WE.tuple (WArgs.cons (WE.or (WE.name 0 rfl rfl (t_truthyListO hso (by omega) ?_)))))
  by_cases h0 : zs.size = 0
  · have e : zs.isEmpty = true := by simpa [Array.isEmpty] using h0
    rw [e]
    refine pick_f <| WE.and1 <| WE.list <| WArgs.cons <| WE.int fun t1 => WArgs.cons <| WE.int fun t2 => WArgs.cons <| WE.int fun t3 => WArgs.nil ⟨by show 3 ≤ sizeLine; decide, fun lt hlt => ?_⟩
    exact fin lt _ #[.int 3 t1, .int 1 t2, .int 4 t3] 0 (PM.put_fresh hlt _) (PM.put_self ..) ints3 (by show 0 < 3; decide) (by show 3 ≤ 1000; decide)
  · have e : zs.isEmpty = false := by simpa [Array.isEmpty] using h0
    rw [e]
    exact pick_t <| fin sl _ zs ms .rfl (hs (by omega)) hx (by omega) hz
end
end Mine
end
section
open PySem PySem.W PySem.Calls PyProof.Rows PySem.SeqAt
set_option maxRecDepth 100000
set_option maxHeartbeats 1000000
set_option linter.unusedVariables false
namespace Mine
/-- the counter -/
def Cnt (κ : PM) (la : Addr) (K : Nat) : Prop := ∃ (k : Nat) (t : Tok) (m : Nat), κ la = some (listOf #[.int (k : Nat) t] m) ∧ k ≤ K
/-- what the law holds in memory -/
structure LM (P : Params) (κ : PM) (lt ld lu : Addr) (xs : Array PySem.Value) (m cd cu : Nat) (t : Tr) (ps : Array PySem.Value) : Prop where
  lt : κ lt = some (listOf xs m)
  ld : κ ld = some (listOf (t.pre.map PySem.Value.ref).toArray cd)
  lu : κ lu = some (listOf (t.post.map PySem.Value.ref).toArray cu)
  tr : At P κ t none
  tab : κ 201 = some (tabObj ps)
theorem LM.le {P : Params} {κ κ' : PM} {lt ld lu : Addr} {xs : Array PySem.Value} {m cd cu : Nat} {t : Tr} {ps : Array PySem.Value} (h : LM P κ lt ld lu xs m cd cu t ps) (l : κ.le κ') : LM P κ' lt ld lu xs m cd cu t ps :=
  ⟨l _ _ h.1, l _ _ h.2, l _ _ h.3, h.4.le l, l _ _ h.5⟩
/-- what does not turn -/
structure Fx (xs : Array PySem.Value) (t : Tr) (ps : Array PySem.Value) : Prop where
  isI : Ints xs
  pos : 0 < xs.size
  small : xs.size ≤ 1000
  ok : t.ok
  ht : t.ht ≤ 3
  len : t.pre.length ≤ 40
  nd : t.pre.Nodup
  tri : TriplesOk ps.toList
  full : (codeAmong gPos ps.toList).isSome = true
theorem gLen (P : Params) : nsIn (KF P) mainGlobals "len" = some none := by kernel_rfl
section
variable {W : Wd} {A : Around} {L : Addr} {κ : PM} {Q : Flow → Loc → PM → Prop} {lt la : Addr} {xs : Array PySem.Value} {m : Nat} {sv : Option PySem.Value}
/-- _law_drawn, in the law -/
theorem we_drawn {B : Around} {n : Nat} {κ : PM} {Q : PySem.Value → PM → Prop} {K : Nat} {below : Int} {tb : Tok} (a : AOk B n) (hl : κ lt = some (listOf xs m)) (hx : Ints xs) (hne : 0 < xs.size) (hz : xs.size ≤ 1000) (hc : Cnt κ la K) (hlt : lt ≠ la) (hK : K ≤ 1000) (hb : 0 < below)
    (h : ∀ r t κ', 0 ≤ r → r < below → But la κ κ' → Cnt κ' la (K + 1) → Q (.int r t) κ') : Wp W B T1 (PySem.call (.ref 385) [.ref lt, .ref la, .int below tb]) κ Q := by
  obtain ⟨k, t, mm, hla, hk⟩ := hc
  exact drawn_spec a hl hx hne hz hla hlt (by omega) hb fun r t t' m'' h0 h1 => h r t _ h0 h1 (But.rfl.put .rfl _) ⟨k + 1, t', m'', PM.put_self .., by omega⟩
theorem Cnt.but {κ κ' : PM} {K : Nat} (hc : Cnt κ la K) (l : κ.le κ') : Cnt κ' la K := let ⟨k, t, mm, h, hk⟩ := hc; ⟨k, t, mm, l _ _ h, hk⟩
/-- all but the counter -/
theorem LM.but {P : Params} {κ κ' : PM} {ld lu : Addr} {cd cu K : Nat} {t : Tr} {ps : Array PySem.Value} (h : LM P κ lt ld lu xs m cd cu t ps) (b : But la κ κ') (hc : Cnt κ la K) (h1 : lt ≠ la) (h2 : ld ≠ la) (h3 : lu ≠ la) : LM P κ' lt ld lu xs m cd cu t ps := by
  obtain ⟨k, tk, mm, hla, hk⟩ := hc
  refine ⟨b _ _ h1 h.1, b _ _ h2 h.2, b _ _ h3 h.3, At.off (b.offInt hla) (fun _ _ q => nomatch q) h.4, b _ _ (fun q => ?_) h.5⟩
  have := h.5; rw [q, hla] at this; simp at this
/-- tree = _law_made(told, at, 3) -/
theorem law1 (aD : AOk A 20) (hl : κ lt = some (listOf xs m)) (hx : Ints xs) (hne : 0 < xs.size) (hz : xs.size ≤ 1000) {t0 : Tok} {m0 : Nat} (hla : κ la = some (listOf #[.int (0 : Nat) t0] m0)) (hlt : lt ≠ la)
    (h : ∀ κ' t, MadeT W.w.params la κ κ' t 3 0 → Q .next (LR sv (some (.ref lt)) (some (.ref la)) (some (.ref t.addr)) none none none none none none none none none none none none none none none none none) κ') :
    WS W A (envL L) (LR sv (some (.ref lt)) (some (.ref la)) none none none none none none none none none none none none none none none none none none) (exec (stAt 1) (envL L)) κ Q := by
  refine WS.assign 3 rfl (.inl rfl) <| WE.call <| WE.glob rfl (gMade _) <| call_with (.ref (kMade _)) <| WArgs.cons <| WE.name 1 rfl rfl <| WArgs.cons <| WE.name 2 rfl rfl <| WArgs.cons <| WE.int fun _ => WArgs.nil ?_
  exact made_spec hx hne hz 4 3 (by decide) (by decide) (aD.less (by decide)) hl hla hlt (by decide) fun κ' tr T => h κ' tr T
/-- down, up = (list(tree.pre_order()), list(tree.post_order())) -/
theorem law2 (aD : AOk A 20) {t : Tr} (hat : At W.w.params κ t none) (hlen : t.pre.length ≤ 1000) (hlf : t.isLeaf = false) (h201 : κ 201 = some (tabObj #[]))
    (h : ∀ κ' ld lu cd cu ps, (κ.butL [201]).le κ' → κ ld = none → κ lu = none → κ' ld = some (listOf (t.pre.map PySem.Value.ref).toArray cd) → κ' lu = some (listOf (t.post.map PySem.Value.ref).toArray cu) → κ' 201 = some (tabObj ps) → TriplesOk ps.toList → (codeAmong gPos ps.toList).isSome = true →
      Q .next (LR sv (some (.ref lt)) (some (.ref la)) (some (.ref t.addr)) (some (.ref ld)) (some (.ref lu)) none none none none none none none none none none none none none none none) κ') :
    WS W A (envL L) (LR sv (some (.ref lt)) (some (.ref la)) (some (.ref t.addr)) none none none none none none none none none none none none none none none none none) (exec (stAt 2) (envL L)) κ Q := by
  refine ws_unpack aD.hh <| WE.tuple <| WArgs.cons <| we_pre (k := 10) (t := t) 3 (aD.less (by decide)) rfl rfl rfl hat hlen fun ld cd κ₁ le1 hld hld1 => ?_
  refine WArgs.cons <| we_post (k := 10) (t := t) 3 (aD.less (by decide)) rfl rfl rfl (hat.le le1) hlen (le1 _ _ h201) trivial (fun q => by rw [hlf] at q; cases q) fun lu cu κ₂ le2 hE hlu hlu2 => ?_
  obtain ⟨ps, e1, e2, e3, _⟩ := hE
  refine WArgs.nil ⟨by show 2 ≤ sizeLine; decide, fun z hz => ⟨z, _, rfl, PM.put_self .., rfl, ?_⟩⟩
  have l3 := PM.put_fresh hz (tupOf [PySem.Value.ref ld, .ref lu].toArray)
  have n201 : ld ≠ 201 := fun q => by subst q; rw [h201] at hld; cases hld
  refine ws_order <| WS.bindN 4 rfl (.inl rfl) <| ws_order <| WS.bindN 5 rfl (.inr rfl) <| ws_order_nil <| h _ ld lu cd cu ps (fun u o e => ?_) hld (PM.le.none le1 hlu) (l3 _ _ (le2 _ _ (PM.butL_some hld1 (by simpa using n201)))) (l3 _ _ hlu2) (l3 _ _ e1) e2 e3
  obtain ⟨hu, e⟩ := PM.butL_get e
  exact l3 _ _ (le2 _ _ (PM.butL_some (le1 _ _ e) hu))
/-- part = down[..] -/
theorem law3 (aD : AOk A 20) {ld lu : Addr} {cd cu K : Nat} {t : Tr} {ps : Array PySem.Value} (M : LM W.w.params κ lt ld lu xs m cd cu t ps) (F : Fx xs t ps) (hc : Cnt κ la K) (hK : K ≤ 900) (h1 : lt ≠ la) (h2 : ld ≠ la) (h3 : lu ≠ la)
    (h : ∀ κ' u, u ∈ t.subs → But la κ κ' → Cnt κ' la (K + 1) → LM W.w.params κ' lt ld lu xs m cd cu t ps → Q .next (LR sv (some (.ref lt)) (some (.ref la)) (some (.ref t.addr)) (some (.ref ld)) (some (.ref lu)) (some (.ref u.addr)) none none none none none none none none none none none none none none) κ') :
    WS W A (envL L) (LR sv (some (.ref lt)) (some (.ref la)) (some (.ref t.addr)) (some (.ref ld)) (some (.ref lu)) none none none none none none none none none none none none none none none) (exec (stAt 3) (envL L)) κ Q := by
  have hsz : (t.pre.map PySem.Value.ref).toArray.size = t.pre.length := by simp
  have hlen := F.len
  have hp : 0 < t.pre.length := by rw [Tr.pre_eq]; simp
  refine WS.assign 6 rfl (.inl rfl) <| WE.sub <| WE.name 4 rfl rfl <| WE.call <| WE.glob rfl (gDrawn _) <| call_with (.ref (kDrawn _)) <| WArgs.cons <| WE.name 1 rfl rfl <| WArgs.cons <| WE.name 2 rfl rfl <| WArgs.cons ?_
  refine WE.call <| WE.blt rfl (gLen _) rfl (by decide) <| call_with .builtin <| WArgs.cons <| WE.name 4 rfl rfl <| WArgs.nil <| t_len M.ld (by omega) fun tl => WArgs.nil ?_
  refine we_drawn aD M.lt F.isI F.pos F.small hc h1 (by omega) (by rw [hsz]; omega) fun r tr κ' r0 r1 b hc' => ?_
  have M' := M.but b hc h1 h2 h3
  rw [hsz] at r1
  obtain ⟨i, rfl⟩ := Int.eq_ofNat_of_zero_le r0
  have hi : i < t.subs.length := by have : t.subs.length = t.pre.length := by rw [← Tr.subs_pre]; simp
                                    omega
  have hx : (t.pre.map PySem.Value.ref).toArray[i]? = some (.ref (t.subs[i]).addr) := by
    rw [← Tr.subs_pre]; simp [hi]
  exact t_itemI (by omega) M'.ld (by omega) hx (h κ' t.subs[i] (List.getElem_mem hi) b hc' M')
end
end Mine
end
section
open PySem PySem.W PySem.Calls PyProof.Rows PySem.SeqAt
set_option maxRecDepth 100000
set_option maxHeartbeats 1000000
set_option linter.unusedVariables false
namespace Mine
theorem objsOf {P : Params} {κ : PM} {t : Tr} {par : Option Addr} (h : At P κ t par) : ∀ a ∈ t.pre, ∃ o, κ a = some o ∧ o.cls ≠ .type "tuple" := fun a ha => by
  obtain ⟨C, d, e⟩ := h.has.2.2 a ha
  exact ⟨_, e, by simp⟩
theorem Tr.lvs_pre (t : Tr) : ∀ a ∈ t.lvs, a ∈ t.pre := fun a ha => by
  rw [← Tr.lvs_filter] at ha
  obtain ⟨u, hu, rfl⟩ := List.mem_map.mp ha
  rw [← Tr.subs_pre]
  exact List.mem_map.mpr ⟨u, (List.mem_filter.mp hu).1, rfl⟩
theorem subs_len (t : Tr) : t.subs.length = t.pre.length := by rw [← Tr.subs_pre]; simp
section
variable {W : Wd} {A : Around} {L : Addr} {κ : PM} {Q : PySem.Value → PM → Prop} {env : Env} {ρ : Loc}
/-- isinstance(x, Leaf) of a tree -/
theorem t_isLeaf {t : Tr} {par : Option Addr} (hat : At W.w.params κ t par) (h : Q (.bool t.isLeaf) κ) : Wp W A T1 (PySem.call (.builtin "isinstance") [.ref t.addr, .ref 376]) κ Q := by
  obtain ⟨f, i, _⟩ := hat.own
  cases t with
  | leaf => exact i.isi (isLL _) h
  | node => exact i.notIsi (isNL _) h
end
section
variable {W : Wd} {A : Around} {L : Addr} {κ : PM} {sv told at_ tree down up part one late k above text shape model copy ways rows others way leaf : Option PySem.Value}
abbrev body4 : List Stmt := match stAt 4 with
  | .For _ _ b _ _ => b
  | _ => []
/-- the walks of one node -/
theorem law4b {Q : Flow → Loc → PM → Prop} (aD : AOk A 20) {w : Tr} {q : Option Addr} {ps : Array PySem.Value} (hat : At W.w.params κ w q) (hlen : w.pre.length ≤ 40) (hht : w.ht ≤ 3) (h201 : κ 201 = some (tabObj ps)) (htri : TriplesOk ps.toList) (hsome : (codeAmong gPos ps.toList).isSome = true)
    (h : ∀ κ', κ.le κ' → Q .next (LR sv told at_ tree down up part (some (.ref w.addr)) one late k above text shape model copy ways rows others way leaf) κ') :
    WX W A (envL L) (LR sv told at_ tree down up part (some (.ref w.addr)) one late k above text shape model copy ways rows others way leaf) body4 κ Q := by
  have hpl := Tr.post_len w
  refine WX.cons <| WS.if <| WT.bool <| WAll.or_cons <| WT.not <| WT.value <| WE.call <| WE.glob rfl (gSame _) <| call_with (.ref (kSame _)) <| WArgs.cons ?_
  refine we_pre (k := 10) (t := w) 7 (aD.less (by decide)) rfl rfl rfl hat (by omega) fun r1 c1 κ₁ le1 hr1 hr1' => WArgs.cons ?_
  refine WE.call <| WE.glob rfl (g397 _) <| call_with (.ref (k397 _)) <| WArgs.cons <| WE.name 7 rfl rfl <| WArgs.cons <| WE.bool <| WArgs.nil ?_
  refine walk_spec W 4 w (by omega) _ κ₁ q true _ (aD.less (by decide)) (hat.le le1) (by omega) fun r2 κ₂ c2 le2 hr2 hr2' => WArgs.nil ?_
  have L2 := le1.trans le2
  refine same_spec (k := 10) (as := w.pre) (aD.less (by decide)) (le2 _ _ hr1') hr2' (by omega) (objsOf (hat.le L2)) fun κ₃ le3 => Wp.truthyBool <| pick_f ?_
  have L3 := L2.trans le3
  refine WAll.or_cons <| WT.not <| WT.value <| WE.call <| WE.glob rfl (gSame _) <| call_with (.ref (kSame _)) <| WArgs.cons ?_
  refine we_post (k := 10) (t := w) 7 (aD.less (by decide)) rfl rfl rfl (hat.le L3) (by omega) (L3 _ _ h201) htri (fun _ => hsome) fun r3 c3 κ₄ le4 hE hr3 hr3' => WArgs.cons ?_
  have le4 := tab_le le4 (L3 _ _ h201) hE hsome
  have L4 := L3.trans le4
  refine WE.call <| WE.glob rfl (g397 _) <| call_with (.ref (k397 _)) <| WArgs.cons <| WE.name 7 rfl rfl <| WArgs.cons <| WE.bool <| WArgs.nil ?_
  refine walk_spec W 4 w (by omega) _ κ₄ q false _ (aD.less (by decide)) (hat.le L4) (by omega) fun r4 κ₅ c4 le5 hr4 hr4' => WArgs.nil ?_
  have L5 := L4.trans le5
  refine same_spec (k := 10) (as := w.post) (aD.less (by decide)) (le5 _ _ hr3') hr4' (by omega) (fun a ha => objsOf (hat.le L5) a ((Tr.mem_post w a).mp ha)) fun κ₆ le6 => Wp.truthyBool <| pick_f <| WAll.or_nil <| pick_f <| WX.nil ?_
  have L6 := L5.trans le6
  refine WX.cons <| WS.if <| WT.not <| WT.value <| WE.call <| WE.glob rfl (gSame _) <| call_with (.ref (kSame _)) <| WArgs.cons ?_
  refine we_leaves (k := 10) (t := w) 7 (aD.less (by decide)) rfl rfl rfl (hat.le L6) (by omega) fun r5 c5 κ₇ le7 hr5 hr5' => WArgs.cons ?_
  have L7 := L6.trans le7
  have hll := lvs_le w
  refine we_comp 1 (kx := .local) (cl := []) [none, none, none, none] rfl rfl ⟨rfl, rfl, rfl⟩ rfl (by decide) (by decide) (.inl ⟨rfl, rfl⟩) ?_ ?_
  · intro L' R' fr j y kk u hy hj hu
    match j with
    | 0 => cases hu
    | 1 => cases hu
    | 2 => cases hu
    | 3 => cases hu
    | j + 4 => cases hu
  refine WE.call <| WE.glob rfl (g397 _) <| call_with (.ref (k397 _)) <| WArgs.cons <| WE.name 7 rfl rfl <| WArgs.cons <| WE.bool <| WArgs.nil ?_
  refine walk_spec W 4 w (by omega) _ κ₇ q true _ (aD.less (by decide)) (hat.le L7) (by omega) fun r6 κ₈ c6 le8 hr6 hr6' => ?_
  have hsz : (w.pre.map PySem.Value.ref).toArray.size = w.subs.length := by simp [subs_len]
  have hsl := subs_len w
  refine ⟨(w.pre.map PySem.Value.ref).toArray.size, fun i v => (w.pre.map PySem.Value.ref).toArray[i]? = some v, [r6], fun _ => listOf (w.pre.map PySem.Value.ref).toArray c6, fun i ys κ' => κ₈.le κ' ∧ ys = (((w.subs.take i).filter Tr.isLeaf).map Tr.addr).map PySem.Value.ref, ?_⟩
  refine ⟨.list aD.hh r6 _ c6, by rw [show sizeLine = 16777216 by decide, hsz]; omega, ⟨.rfl, rfl⟩, fun i ys κ' hI b hb => by rw [List.mem_singleton.mp hb]; exact hI.1 _ _ hr6', ?_, ?_⟩
  · rintro L' i v ys κ' hi hv ⟨hle, rfl⟩
    have hv' : (w.subs.map Tr.addr).map PySem.Value.ref = w.pre.map PySem.Value.ref := by rw [Tr.subs_pre]
    have hv2 : ((w.subs.map Tr.addr).map PySem.Value.ref)[i]? = some v := by rw [hv']; simpa using hv
    rw [List.map_map, List.getElem?_map] at hv2
    obtain ⟨u, hu, rfl⟩ := Option.map_eq_some_iff.mp hv2
    obtain ⟨q2, hq2⟩ := hat.sub u (List.mem_of_getElem? hu)
    have hq2' := hq2.le ((L7.trans le8).trans hle)
    refine tests1 <| WT.value <| WE.call <| WE.blt rfl rfl rfl (by decide) <| call_with .builtin <| WArgs.cons <| WE.name 1 rfl rfl <| WArgs.cons <| WE.glob rfl (gLeaf _) <| WArgs.nil <| t_isLeaf hq2' <| Wp.truthyBool ?_
    have etake : w.subs.take (i + 1) = w.subs.take i ++ [u] := by rw [List.take_add_one, hu]; rfl
    cases hlf : u.isLeaf with
    | true =>
      refine pick_t <| WE.name 1 rfl rfl ⟨hle, ?_⟩
      rw [etake, List.filter_append, List.filter_cons_of_pos hlf]; simp
    | false =>
      refine pick_f ⟨hle, ?_⟩
      rw [etake, List.filter_append, List.filter_cons_of_neg (by simp [hlf])]; simp
  · rintro ys κ₉ D mm ⟨hle, rfl⟩ hD _
    have hall : w.subs.take (w.pre.map PySem.Value.ref).toArray.size = w.subs := by rw [hsz]; simp
    rw [hall, Tr.lvs_filter]
    have l9 := PM.put_fresh hD (listOf (w.lvs.map PySem.Value.ref).toArray mm)
    have L9 := ((L7.trans le8).trans hle).trans l9
    refine WArgs.nil <| same_spec (k := 10) (as := w.lvs) (aD.less (by decide)) (((le8.trans hle).trans l9) _ _ hr5') (PM.put_self ..) (by omega) (fun a ha => objsOf (hat.le L9) a (Tr.lvs_pre w a ha)) fun κ₁₀ le10 => Wp.truthyBool <| pick_f <| WX.nil <| WX.nil <| h _ (L9.trans le10)
end
end Mine
end
section
open PySem PySem.W PySem.Calls PyProof.Rows PySem.SeqAt
set_option maxRecDepth 100000
set_option maxHeartbeats 1000000
set_option linter.unusedVariables false
namespace Mine
mutual
theorem Tr.ht_in : ∀ {t u : Tr}, u ∈ t.subs → u.ht ≤ t.ht
  | .leaf .., u, h => by simp [Tr.subs] at h; subst h; exact Nat.le_refl _
  | .node a d l ty ch, u, h => by
    simp only [Tr.subs, List.mem_cons] at h
    rcases h with rfl | h
    · exact Nat.le_refl _
    · have := Tr.htL_in h; simp only [Tr.ht]; omega
theorem Tr.htL_in : ∀ {ts : List Tr} {u : Tr}, u ∈ Tr.subsL ts → u.ht ≤ Tr.htL ts
  | t :: r, u, h => by
    simp only [Tr.subsL, List.mem_append] at h
    simp only [Tr.htL]
    rcases h with h | h
    · have := Tr.ht_in h; omega
    · have := Tr.htL_in h; omega
end
mutual
theorem Tr.ok_sub : ∀ {t u : Tr}, u ∈ t.subs → t.ok → u.ok
  | .leaf .., u, h, k => by simp [Tr.subs] at h; subst h; exact k
  | .node a d l ty ch, u, h, k => by
    simp only [Tr.subs, List.mem_cons] at h
    rcases h with rfl | h
    · exact k
    · unfold Tr.ok at k; exact Tr.okL_sub' h k.2
theorem Tr.okL_sub' : ∀ {ts : List Tr} {u : Tr}, u ∈ Tr.subsL ts → Tr.okL ts → u.ok
  | t :: r, u, h, k => by
    simp only [Tr.subsL, List.mem_append] at h
    unfold Tr.okL at k
    rcases h with h | h
    · exact Tr.ok_sub h k.1
    · exact Tr.okL_sub' h k.2
end
section
variable {W : Wd} {A : Around} {L : Addr} {κ : PM} {sv told at_ down up node one late k above text shape model copy ways rows others way leaf : Option PySem.Value}
/-- for node in (tree, part) -/
theorem law4 {Q : Flow → Loc → PM → Prop} (aD : AOk A 20) {t u : Tr} {ps : Array PySem.Value} (hat : At W.w.params κ t none) (hu : u ∈ t.subs) (hlen : t.pre.length ≤ 40) (hht : t.ht ≤ 3) (h201 : κ 201 = some (tabObj ps)) (htri : TriplesOk ps.toList) (hsome : (codeAmong gPos ps.toList).isSome = true)
    (h : ∀ κ' nd, κ.le κ' → Q .next (LR sv told at_ (some (.ref t.addr)) down up (some (.ref u.addr)) nd one late k above text shape model copy ways rows others way leaf) κ') :
    WS W A (envL L) (LR sv told at_ (some (.ref t.addr)) down up (some (.ref u.addr)) node one late k above text shape model copy ways rows others way leaf) (exec (stAt 4) (envL L)) κ Q := by
  obtain ⟨qu, hqu⟩ := hat.sub u hu
  refine ws_for <| WE.tuple <| WArgs.cons <| WE.name 3 rfl rfl <| WArgs.cons <| WE.name 6 rfl rfl <| WArgs.nil ⟨by show 2 ≤ sizeLine; decide, fun z hz => ?_⟩
  have l0 := PM.put_fresh hz (tupOf [PySem.Value.ref t.addr, .ref u.addr].toArray)
  refine ⟨2, fun i v => (#[PySem.Value.ref t.addr, .ref u.addr] : Array PySem.Value)[i]? = some v, [z], fun _ => tupOf #[PySem.Value.ref t.addr, .ref u.addr],
    fun i ρ κ' => (∃ nd, ρ = LR sv told at_ (some (.ref t.addr)) down up (some (.ref u.addr)) nd one late k above text shape model copy ways rows others way leaf) ∧ κ.le κ' ∧ κ' z = some (tupOf #[PySem.Value.ref t.addr, .ref u.addr]), ?_⟩
  refine ⟨.tuple aD.hh z _, ⟨⟨node, rfl⟩, l0, PM.put_self ..⟩, fun i ρ κ' hI b hb => by rw [List.mem_singleton.mp hb]; exact hI.2.2, ?_, fun ρ κ' hI => ?_⟩
  · rintro i v ρ κ' hi hv ⟨⟨nd, rfl⟩, hle, hz'⟩
    refine WS.bindN 7 rfl (.inl rfl) ?_
    match i, hi, hv with
    | 0, _, hv =>
      have : PySem.Value.ref t.addr = v := by simpa using hv
      subst this
      exact law4b aD (hat.le hle) hlen hht (hle _ _ h201) htri hsome fun κ₂ le2 => ⟨⟨_, rfl⟩, hle.trans le2, le2 _ _ hz'⟩
    | 1, _, hv =>
      have : PySem.Value.ref u.addr = v := by simpa using hv
      subst this
      exact law4b aD (hqu.le hle) (Nat.le_trans (Tr.pre_len_sub hu) hlen) (Nat.le_trans (Tr.ht_in hu) hht) (hle _ _ h201) htri hsome fun κ₂ le2 => ⟨⟨_, rfl⟩, hle.trans le2, le2 _ _ hz'⟩
  · obtain ⟨⟨nd, rfl⟩, hle, _⟩ := hI
    exact h κ' nd hle
/-- the places in up of the nodes of down -/
def lateOf (t : Tr) : List Nat := t.pre.map fun a => t.post.idxOf a
theorem gEnum (P : Params) : nsIn (KF P) mainGlobals "enumerate" = some none := by kernel_rfl
theorem idx_bools {q : List Addr} {a : Addr} (h : a ∈ q) : (q.map fun b => b == a)[q.idxOf a]? = some true ∧ ∀ i, i < q.idxOf a → (q.map fun b => b == a)[i]? = some false := by
  have hlt := List.idxOf_lt_length_of_mem h
  refine ⟨?_, fun i hi => ?_⟩
  · rw [List.getElem?_map, List.getElem?_eq_getElem hlt, List.getElem_idxOf hlt]; simp
  · have hil : i < q.length := by omega
    rw [List.getElem?_map, List.getElem?_eq_getElem hil]
    simp only [Option.map_some, Option.some.injEq, beq_eq_false_iff_ne]
    intro e
    have := List.not_of_lt_findIdx (p := fun x => x == a) (xs := q) (i := i) (by simpa [List.idxOf] using hi)
    simp [e] at this
/-- late = [[one is node for one in up].index(True) for node in down] -/
theorem law5 {Q : Flow → Loc → PM → Prop} (aD : AOk A 20) {t : Tr} {tree part : Option PySem.Value} {ld lu : Addr} {cd cu : Nat} (hat : At W.w.params κ t none) (hlen : t.pre.length ≤ 40) (hld : κ ld = some (listOf (t.pre.map PySem.Value.ref).toArray cd)) (hlu : κ lu = some (listOf (t.post.map PySem.Value.ref).toArray cu))
    (h : ∀ κ' ll c (ts : List PySem.Value), κ.le κ' → κ' ll = some (listOf ts.toArray c) → IntsAre ts ((lateOf t).map fun (n : Nat) => (n : Int)) → Q .next (LR sv told at_ tree (some (.ref ld)) (some (.ref lu)) part node one (some (.ref ll)) k above text shape model copy ways rows others way leaf) κ') :
    WS W A (envL L) (LR sv told at_ tree (some (.ref ld)) (some (.ref lu)) part node one late k above text shape model copy ways rows others way leaf) (exec (stAt 5) (envL L)) κ Q := by
  have hpl := Tr.post_len t
  have hs1 : (t.pre.map PySem.Value.ref).toArray.size = t.pre.length := by simp
  have hs2 : (t.post.map PySem.Value.ref).toArray.size = t.post.length := by simp
  refine WS.assign 9 rfl (.inr rfl) ?_
  refine we_comp 1 (kx := .cell) (cl := [("up", L + 1)]) [none, none, some (.ref lu)] rfl rfl ⟨rfl, rfl, rfl⟩ rfl (by decide) (by decide) (.inr ⟨rfl, rfl⟩) ?_ ?_
  · intro L' R' fr j y kk u hy hj hu
    match j with
    | 0 => cases hu
    | 1 => cases hu
    | 2 =>
      have hy' : some (("up" : Str), NameKind.cell) = some (y, kk) := hy
      cases hy'; cases hu
      exact cap_cell (fr.rd 5 _ _ _ rfl rfl) rfl rfl rfl
    | j + 3 => cases hu
  refine WE.name 4 rfl rfl ?_
  refine ⟨(t.pre.map PySem.Value.ref).toArray.size, fun i v => (t.pre.map PySem.Value.ref).toArray[i]? = some v, [ld], fun _ => listOf (t.pre.map PySem.Value.ref).toArray cd, fun i ys κ' => κ.le κ' ∧ IntsAre ys (((lateOf t).take i).map fun (n : Nat) => (n : Int)), ?_⟩
  refine ⟨.list aD.hh ld _ cd, by rw [show sizeLine = 16777216 by decide, hs1]; omega, ⟨.rfl, .nil⟩, fun i ys κ' hI b hb => by rw [List.mem_singleton.mp hb]; exact hI.1 _ _ hld, ?_, ?_⟩
  · rintro L' i v ys κ' hi hv ⟨hle, hys⟩
    have hv' : (t.pre.map PySem.Value.ref)[i]? = some v := by simpa using hv
    rw [List.getElem?_map] at hv'
    obtain ⟨a, ha, rfl⟩ := Option.map_eq_some_iff.mp hv'
    have ham : a ∈ t.post := (Tr.mem_post t a).mpr (List.mem_of_getElem? ha)
    refine tests0 <| pick_t <| WE.meth ?_
    refine we_comp 1 (kx := .local) (cl := [("node", L' + 1)]) [none, none, some (.ref a)] rfl rfl ⟨rfl, rfl, rfl⟩ rfl (by decide) (by decide) (.inl ⟨rfl, rfl⟩) ?_ ?_
    · intro L2 R' fr j y kk u hy hj hu
      match j with
      | 0 => cases hu
      | 1 => cases hu
      | 2 =>
        have hy' : some (("node" : Str), NameKind.cell) = some (y, kk) := hy
        cases hy'; cases hu
        exact cap_cell (fr.rd 1 _ _ _ rfl rfl) rfl rfl rfl
      | j + 3 => cases hu
    refine WE.name 2 rfl rfl ?_
    refine ⟨(t.post.map PySem.Value.ref).toArray.size, fun i v => (t.post.map PySem.Value.ref).toArray[i]? = some v, [lu], fun _ => listOf (t.post.map PySem.Value.ref).toArray cu, fun i ys κ₂ => κ'.le κ₂ ∧ ys = ((t.post.take i).map fun b => b == a).map PySem.Value.bool, ?_⟩
    refine ⟨.list aD.hh lu _ cu, by rw [show sizeLine = 16777216 by decide, hs2]; omega, ⟨.rfl, rfl⟩, fun i ys κ₂ hI b hb => by rw [List.mem_singleton.mp hb]; exact hI.1 _ _ (hle _ _ hlu), ?_, ?_⟩
    · rintro L2 i2 v2 ys2 κ₂ hi2 hv2 ⟨hle2, rfl⟩
      have hv3 : (t.post.map PySem.Value.ref)[i2]? = some v2 := by simpa using hv2
      rw [List.getElem?_map] at hv3
      obtain ⟨b, hb, rfl⟩ := Option.map_eq_some_iff.mp hv3
      obtain ⟨ob, hob, hcb⟩ := objsOf (hat.le (hle.trans hle2)) b ((Tr.mem_post t b).mp (List.mem_of_getElem? hb))
      obtain ⟨oa, hoa, hca⟩ := objsOf (hat.le (hle.trans hle2)) a (List.mem_of_getElem? ha)
      refine tests0 <| pick_t <| WE.cmp <| WE.name 1 rfl rfl <| WE.name 2 rfl rfl <| t_is hob hoa hcb ⟨hle2, ?_⟩
      rw [List.take_add_one, hb]; simp
    · rintro ys2 κ₂ D mm ⟨hle2, rfl⟩ hD _
      have hall : t.post.take (t.post.map PySem.Value.ref).toArray.size = t.post := by rw [hs2]; simp
      rw [hall]
      have l3 := PM.put_fresh hD (listOf ((t.post.map fun b => b == a).map PySem.Value.bool).toArray mm)
      obtain ⟨g1, g2⟩ := idx_bools ham
      refine t_meth F.slot_list_index (by rfl) (PM.put_self ..) <| call_with .builtin <| WArgs.cons <| WE.bool <| WArgs.nil <| t_indexTrue (PM.put_self ..) (by simp; omega) g1 g2 fun tk => ⟨(hle.trans hle2).trans l3, ?_⟩
      have e1 : ((lateOf t).take (i + 1)) = (lateOf t).take i ++ [t.post.idxOf a] := by
        rw [List.take_add_one]; congr 1
        unfold lateOf
        rw [List.getElem?_map, ha]; rfl
      rw [e1, List.map_append]
      have app : ∀ {vs : List PySem.Value} {ns : List Int}, IntsAre vs ns → IntsAre (vs ++ [.int ((t.post.idxOf a : Nat) : Int) tk]) (ns ++ [((t.post.idxOf a : Nat) : Int)]) := by
        intro vs ns hh
        induction hh with
        | nil => exact .cons _ _ .nil
        | cons n t _ ih => exact .cons _ _ ih
      exact app hys
  · rintro ys κ' D mm ⟨hle, hys⟩ hD _
    have hall : (lateOf t).take (t.pre.map PySem.Value.ref).toArray.size = lateOf t := by
      rw [hs1]; unfold lateOf; rw [List.take_of_length_le (by simp)]
    rw [hall] at hys
    exact h _ D mm ys (hle.trans (PM.put_fresh hD _)) (PM.put_self ..) hys
end
end Mine
end
section
open PySem PySem.W PySem.Calls PyProof.Rows PySem.SeqAt
set_option maxRecDepth 100000
set_option maxHeartbeats 1000000
set_option linter.unusedVariables false
namespace Mine
theorem ints_get : ∀ {vs : List PySem.Value} {ns : List Int}, IntsAre vs ns → ∀ {j : Nat} {n : Int}, ns[j]? = some n → ∃ t, vs[j]? = some (.int n t)
  | _, _, .nil, j, n, h => by simp at h
  | _, _, .cons m t r, 0, n, h => by simp at h; subst h; exact ⟨t, rfl⟩
  | _, _, .cons m t r, j + 1, n, h => by simpa using ints_get r (by simpa using h)
theorem ints_len : ∀ {vs : List PySem.Value} {ns : List Int}, IntsAre vs ns → vs.length = ns.length
  | _, _, .nil => rfl
  | _, _, .cons m t r => by simp [ints_len r]
theorem ints_rd (κ : PM) : ∀ {vs : List PySem.Value} {ns : List Int}, IntsAre vs ns → RdKL κ vs (ns.map PyData.int)
  | _, _, .nil => .nil _
  | _, _, .cons m t r => .cons (RdK.int _ _ _) (ints_rd κ r)
theorem ints_snoc {vs : List PySem.Value} {ns : List Int} {n : Int} {t : Tok} (h : IntsAre vs ns) : IntsAre (vs ++ [.int n t]) (ns ++ [n]) := by
  induction h with
  | nil => exact .cons _ _ .nil
  | cons n t _ ih => exact .cons _ _ ih
theorem ints_lay : ∀ (ns : List Int), PyData.canLayAll0 (ns.map PyData.int) = true ∧ PyData.depthAll (ns.map PyData.int) ≤ 1
  | [] => by simp [PyData.canLayAll0, PyData.depthAll]
  | n :: r => by
    have := ints_lay r
    simp [PyData.canLayAll0, PyData.depthAll, PyData.canLay0, PyData.depth, this.1]
    omega
theorem ints_shaped (ns : List Int) : shaped (.list (ns.map PyData.int)) = true := by
  have := ints_lay ns
  unfold shaped
  have h1 : PyData.canLay0 (.list (ns.map PyData.int)) = true := by simp [PyData.canLay0, this.1]
  have h2 : PyData.depth (.list (ns.map PyData.int)) ≤ 3 := by simp only [PyData.depth]; omega
  rw [h1, Bool.true_and, decide_eq_true_eq]
  omega
theorem ints_nil (ns : List Int) : PyData.eqv (.list (ns.map PyData.int)) (.list []) = ns.isEmpty := by
  cases ns <;> simp [PyData.eqv, PyData.eqvAll]
abbrev body6 : List Stmt := match stAt 6 with
  | .For _ _ b _ _ => b
  | _ => []
section
variable {W : Wd} {A : Around} {L : Addr} {κ : PM} {sv told at_ down up node one late k above text shape model copy ways rows others way leaf : Option PySem.Value}
/-- one node and its parent -/
theorem law6b {Q : Flow → Loc → PM → Prop} (aD : AOk A 20) {t : Tr} {tree part : Option PySem.Value} {ld ll : Addr} {cd c : Nat} {ts : List PySem.Value} (hat : At W.w.params κ t none) (hnd : t.pre.Nodup) (hlen : t.pre.length ≤ 40) (hld : κ ld = some (listOf (t.pre.map PySem.Value.ref).toArray cd)) (hll : κ ll = some (listOf ts.toArray c)) (hts : IntsAre ts ((lateOf t).map fun (n : Nat) => (n : Int)))
    {i : Nat} {a : Addr} {tk : Tok} (ha : t.pre[i]? = some a)
    (h : ∀ κ' ab, κ.le κ' → Q .next (LR sv told at_ tree (some (.ref ld)) up part (some (.ref a)) one (some (.ref ll)) (some (.int (i : Nat) tk)) ab text shape model copy ways rows others way leaf) κ') :
    WX W A (envL L) (LR sv told at_ tree (some (.ref ld)) up part (some (.ref a)) one (some (.ref ll)) (some (.int (i : Nat) tk)) above text shape model copy ways rows others way leaf) body6 κ Q := by
  have hil : i < t.pre.length := (List.getElem?_eq_some_iff.mp ha).1
  have lateAt : ∀ j, j < t.pre.length → ∃ tj, ts[j]? = some (.int ((t.post.idxOf (t.pre.getD j 0) : Nat) : Int) tj) := fun j hj => by
    refine ints_get hts ?_
    unfold lateOf
    rw [List.map_map, List.getElem?_map, List.getElem?_eq_getElem hj, List.getD_eq_getElem?_getD, List.getElem?_eq_getElem hj]
    rfl
  refine WX.cons <| ws_assignComp 11 1 (kx := .local) (cl := [("late", L + 2), ("k", L + 3)]) [none, none, some (.int (i : Nat) tk), some (.ref ll)] rfl rfl rfl rfl ⟨rfl, rfl, rfl⟩ rfl (by decide) (by decide) (.inl ⟨rfl, rfl⟩) ?_ ?_
  · intro L' R' fr j y kk u hy hj hu
    match j with
    | 0 => cases hu
    | 1 => cases hu
    | 2 =>
      have hy' : some (("k" : Str), NameKind.cell) = some (y, kk) := hy
      cases hy'; cases hu
      exact cap_cell (fr.rd 10 _ _ _ rfl rfl) rfl rfl rfl
    | 3 =>
      have hy' : some (("late" : Str), NameKind.cell) = some (y, kk) := hy
      cases hy'; cases hu
      exact cap_cell (fr.rd 9 _ _ _ rfl rfl) rfl rfl rfl
    | j + 4 => cases hu
  refine WE.call <| WE.blt rfl rfl rfl (by decide) <| call_with .type <| WArgs.cons <| WE.name 10 rfl rfl <| WArgs.nil <| t_range fun r tr ur vr hr => ?_
  have l1 := PM.put_fresh hr (rangeOf i tr ur vr)
  refine ⟨i, fun j v => ∃ t, v = .int (j : Int) t, [r], fun _ => rangeOf i tr ur vr, fun j ys κ' => (κ.put r (rangeOf i tr ur vr)).le κ' ∧ IntsAre ys (((List.range j).filter fun x => decide (t.post.idxOf (t.pre.getD i 0) < t.post.idxOf (t.pre.getD x 0))).map fun (n : Nat) => (n : Int)), ?_⟩
  refine ⟨.range aD.hh r i (by omega) tr ur vr, by rw [show sizeLine = 16777216 by decide]; omega, ⟨.rfl, .nil⟩, fun j ys κ' hI b hb => by rw [List.mem_singleton.mp hb]; exact hI.1 _ _ (PM.put_self ..), ?_, ?_⟩
  · rintro L' j v ys κ' hj ⟨tj, rfl⟩ ⟨hle, hys⟩
    have hll' := (l1.trans hle) _ _ hll
    obtain ⟨t1, e1⟩ := lateAt j (by omega)
    obtain ⟨t2, e2⟩ := lateAt i hil
    refine tests1 <| WT.cmp <| WE.sub <| WE.name 3 rfl rfl <| WE.name 1 rfl rfl <| t_item hll' (by omega) (by rw [List.getElem?_toArray]; exact e1) <| WE.sub <| WE.name 3 rfl rfl <| WE.name 2 rfl rfl <| t_item hll' (by omega) (by rw [List.getElem?_toArray]; exact e2) <| t_gt <| Wp.truthyBool ?_
    have es : List.range (j + 1) = List.range j ++ [j] := List.range_succ
    by_cases q : t.post.idxOf (t.pre.getD i 0) < t.post.idxOf (t.pre.getD j 0)
    · rw [decide_eq_true (show ((t.post.idxOf (t.pre.getD j 0) : Nat) : Int) > ((t.post.idxOf (t.pre.getD i 0) : Nat) : Int) by omega)]
      refine pick_t <| WE.name 1 rfl rfl ⟨hle, ?_⟩
      rw [es, List.filter_append, List.filter_cons_of_pos (by simpa using q), List.map_append]
      exact ints_snoc hys
    · rw [decide_eq_false (show ¬ ((t.post.idxOf (t.pre.getD j 0) : Nat) : Int) > ((t.post.idxOf (t.pre.getD i 0) : Nat) : Int) by omega)]
      refine pick_f ⟨hle, ?_⟩
      rw [es, List.filter_append, List.filter_cons_of_neg (by simpa using q)]
      simpa using hys
  rintro ys κ₂ D mm ⟨hle, hys⟩ hD _
  have hys : IntsAre ys ((abv t.pre t.post i).map fun (n : Nat) => (n : Int)) := hys
  have l2 := (l1.trans hle).trans (PM.put_fresh hD (listOf ys.toArray mm))
  have hDD : (κ₂.put D (listOf ys.toArray mm)) D = _ := PM.put_self ..
  generalize κ₂.put D (listOf ys.toArray mm) = κ₃ at l2 hDD
  have hu : ∃ u, t.subs[i]? = some u ∧ u.addr = a := by
    have := ha
    rw [← Tr.subs_pre, List.getElem?_map] at this
    exact Option.map_eq_some_iff.mp this
  obtain ⟨u, hu, rfl⟩ := hu
  have hq := (hat.le l2).nth.get i u _ hu (prn_tree t hnd i hil)
  have hpar : At W.w.params κ₃ u (prn t.pre t.post i) := by
    revert hq
    cases prn t.pre t.post i <;> exact fun q => q
  obtain ⟨f, iu, pu⟩ := hpar.own
  refine WX.cons <| WS.if <| WT.cmp <| WE.attr <| WE.name 7 rfl rfl <| getParent iu pu <| WE.ifexp <| WT.cmp <| WE.name 11 rfl rfl <| WE.list <| WArgs.nil ⟨by show 0 ≤ sizeLine; decide, fun e he => ?_⟩
  have l3 := PM.put_fresh he (listOf ([] : List PySem.Value).toArray 0)
  refine t_eqData (n := 10) (aD.less (by decide)) (RdK.list (l3 _ _ hDD) (ints_rd _ hys)) (RdK.list (PM.put_self ..) (.nil _)) (ints_shaped _) rfl ?_
  rw [ints_nil]
  refine Wp.truthyBool ?_
  have hlens := ints_len hys
  cases hab : (abv t.pre t.post i) with
  | nil =>
    have hp : prn t.pre t.post i = none := by unfold prn; rw [hab]; rfl
    rw [hp]
    exact pick_t <| WE.none <| t_isNotNone <| Wp.truthyBool <| pick_f <| WX.nil <| WX.nil <| h _ _ (l2.trans l3)
  | cons j0 jr =>
    refine pick_f <| WE.sub <| WE.name 4 rfl rfl <| WE.sub <| WE.name 11 rfl rfl <| WE.unary <| WE.int fun t1 => t_neg fun t2 => ?_
    have hl := List.getLast?_eq_getElem? (l := abv t.pre t.post i)
    have hne : abv t.pre t.post i ≠ [] := by rw [hab]; simp
    obtain ⟨j, hj⟩ : ∃ j, (abv t.pre t.post i).getLast? = some j := ⟨_, List.getLast?_eq_some_getLast hne⟩
    have hjl : j < i := abv_lt (List.mem_of_getLast? hj)
    have hlen2 : (abv t.pre t.post i).length ≤ i := by
      unfold abv; exact Nat.le_trans (List.length_filter_le _ _) (by simp)
    obtain ⟨tj, ej⟩ := ints_get hys (j := (abv t.pre t.post i).length - 1) (n := (j : Int)) (by rw [List.getElem?_map, ← hl, hj]; rfl)
    have hys2 : ys.length = (abv t.pre t.post i).length := by simpa using hlens
    have hdj : t.pre[j]? = some (t.pre.getD j 0) := by rw [List.getD_eq_getElem?_getD, List.getElem?_eq_getElem (by omega)]; rfl
    have hp : prn t.pre t.post i = some (t.pre.getD j 0) := by unfold prn; rw [hj]; rfl
    rw [hp]
    refine t_itemLast (l3 _ _ hDD) (by simp; omega) (x := .int (j : Nat) tj) (by simp [hys2]; simpa using ej) ?_
    have L3 := l2.trans l3
    refine t_item (L3 _ _ hld) (by omega) (x := .ref (t.pre.getD j 0)) (by rw [List.getElem?_toArray, List.getElem?_map, hdj]; rfl) ?_
    obtain ⟨o, ho, hc⟩ := objsOf (hat.le L3) (t.pre.getD j 0) (List.mem_of_getElem? hdj)
    refine t_isNot ho ho hc ?_
    rw [show (t.pre.getD j 0 != t.pre.getD j 0) = false by simp]
    exact Wp.truthyBool <| pick_f <| WX.nil <| WX.nil <| h _ _ L3
/-- for k, node in enumerate(down) -/
theorem law6 {Q : Flow → Loc → PM → Prop} (aD : AOk A 20) {t : Tr} {tree part : Option PySem.Value} {ld ll : Addr} {cd c : Nat} {ts : List PySem.Value} (hat : At W.w.params κ t none) (hnd : t.pre.Nodup) (hlen : t.pre.length ≤ 40) (hld : κ ld = some (listOf (t.pre.map PySem.Value.ref).toArray cd)) (hll : κ ll = some (listOf ts.toArray c)) (hts : IntsAre ts ((lateOf t).map fun (n : Nat) => (n : Int)))
    (h : ∀ κ' nd kk ab, κ.le κ' → Q .next (LR sv told at_ tree (some (.ref ld)) up part nd one (some (.ref ll)) kk ab text shape model copy ways rows others way leaf) κ') :
    WS W A (envL L) (LR sv told at_ tree (some (.ref ld)) up part node one (some (.ref ll)) k above text shape model copy ways rows others way leaf) (exec (stAt 6) (envL L)) κ Q := by
  refine ws_forEnum (xs := (t.pre.map PySem.Value.ref).toArray) (l := ld) (m := cd) aD.hh (fun i ρ κ' => (∃ nd kk ab, ρ = LR sv told at_ tree (some (.ref ld)) up part nd one (some (.ref ll)) kk ab text shape model copy ways rows others way leaf) ∧ κ.le κ') ?_ (fun i ρ κ' hI => hI.2 _ _ hld) rfl ?_ ?_
  · exact WE.call <| WE.blt rfl (gEnum _) rfl (by decide) <| call_with .type <| WArgs.cons <| WE.name 4 rfl rfl <| WArgs.nil <| t_enum hld fun it e oi h1 h2 h3 h4 h5 => ⟨κ, e, it, oi, rfl, rfl, h1, h2, h3, h4, h5, ⟨_, _, _, rfl⟩, .rfl⟩
  · rintro i x tk ρ κ' hx ⟨⟨nd, kk, ab, rfl⟩, hle⟩
    have hx' : (t.pre.map PySem.Value.ref)[i]? = some x := by simpa using hx
    rw [List.getElem?_map] at hx'
    obtain ⟨a, ha, rfl⟩ := Option.map_eq_some_iff.mp hx'
    refine ws_order <| WS.bindN 10 rfl (.inr rfl) <| ws_order <| WS.bindN 7 rfl (.inl rfl) <| ws_order_nil ?_
    exact law6b aD (hat.le hle) hnd hlen (hle _ _ hld) (hle _ _ hll) hts ha fun κ₂ ab le2 => ⟨⟨_, _, _, rfl⟩, hle.trans le2⟩
  · rintro ρ κ' ⟨⟨nd, kk, ab, rfl⟩, hle⟩
    exact h _ _ _ _ hle
end
end Mine
end
section
open PySem PySem.W PySem.Calls PyProof.Rows PySem.SeqAt
set_option maxRecDepth 100000
set_option maxHeartbeats 1000000
set_option linter.unusedVariables false
namespace Mine
/-- one object kept out of the way -/
theorem Wp.frame1 {α : Type} {W : Wd} {A : Around} {t : Sem α} {κ : PM} {Q : α → PM → Prop} {la : Addr} {o : Obj} (hla : κ la = some o)
    (hk : Wp W A T1 t (κ.butL [la]) fun v κ' => (κ.butL [la]).le κ' ∧ (κ' la = none → Q v (κ'.put la o))) : Wp W A T1 t κ Q := fun R s b _ S => by
  have hR : R la = none := S.d _ _ hla
  have d : ∀ u ob, (PM.put R la o) u = some ob → u = la ∧ ob = o ∨ u ≠ la ∧ R u = some ob := fun u ob e => by
    by_cases q : u = la
    · subst q; rw [PM.put_self] at e; cases e; exact .inl ⟨rfl, rfl⟩
    · rw [PM.put_ne _ _ q] at e; exact .inr ⟨q, e⟩
  have S' : Sat (κ.butL [la]) (R.put la o) s.heap := by
    refine ⟨fun u ob e => S.k _ _ (PM.butL_get e).2, fun u ob e => ?_, fun u ob e => ?_⟩
    · rcases d u ob e with ⟨rfl, rfl⟩ | ⟨_, e⟩
      · exact S.k _ _ hla
      · exact S.r _ _ e
    · obtain ⟨h1, h2⟩ := PM.butL_get e
      have : u ≠ la := by simpa using h1
      rw [PM.put_ne _ _ this]; exact S.d _ _ h2
  have b' : W.kB.le (R.put la o) := fun u ob e => by
    have hu : u ≠ la := fun q => by subst q; rw [b _ _ e] at hR; cases hR
    rw [PM.put_ne _ _ hu]; exact b _ _ e
  refine hk.seq b' trivial S' fun v κ' s' S₂ F q => ⟨κ'.put la o, ⟨fun u ob e => ?_, fun u ob e => ?_, fun u ob e => ?_⟩, F, q.2 ?_⟩
  · by_cases z : u = la
    · subst z; rw [PM.put_self] at e; cases e; exact S₂.r _ _ (PM.put_self ..)
    · rw [PM.put_ne _ _ z] at e; exact S₂.k _ _ e
  · have hu : u ≠ la := fun z => by subst z; rw [hR] at e; cases e
    exact S₂.r _ _ (by rw [PM.put_ne _ _ hu]; exact e)
  · by_cases z : u = la
    · subst z; exact hR
    · rw [PM.put_ne _ _ z] at e
      have := S₂.d _ _ e
      rwa [PM.put_ne _ _ z] at this
  · cases e : κ' la with
    | none => rfl
    | some ob => have := S₂.d _ _ e; rw [PM.put_self] at this; cases this
section
variable {W : Wd} {A : Around} {L : Addr} {κ : PM} {Q : Flow → Loc → PM → Prop} {sv told at_ down up part node one late k above text shape model copy ways rows others way leaf : Option PySem.Value}
/-- text, shape = (str(tree), _law_shape(tree)) -/
theorem law7 (aD : AOk A 40) {t : Tr} {la : Addr} (hat : At W.w.params κ t none) (hok : t.ok) (hht : t.ht ≤ 3) (hlen : t.pre.length ≤ 40) {K : Nat} (hc : Cnt κ la K)
    (h : ∀ κ' tk v, κ.le κ' → RdK (κ'.butL [la]) v t.shp → Q .next (LR sv told at_ (some (.ref t.addr)) down up part node one late k above (some (.str t.txt tk)) (some v) model copy ways rows others way leaf) κ') :
    WS W A (envL L) (LR sv told at_ (some (.ref t.addr)) down up part node one late k above text shape model copy ways rows others way leaf) (exec (stAt 7) (envL L)) κ Q := by
  refine ws_swapped (names := ["text", "shape"]) aD.hh rfl <| WE.tuple <| WArgs.cons <| WE.call <| WE.blt rfl (gStr _) rfl (by decide) <| call_with .type <| WArgs.cons <| WE.name 3 rfl rfl <| WArgs.nil <| str_spec 4 t (by omega) (aD.less (by omega)) hat hok (by omega) fun κ₁ tk le1 => ?_
  obtain ⟨c, tc, mc, hla, hcK⟩ := hc.but le1
  refine WArgs.cons <| WE.call <| WE.glob rfl (gShape _) <| call_with (.ref (kShape _)) <| WArgs.cons <| WE.name 3 rfl rfl <| WArgs.nil ?_
  have hb : But la κ₁ (κ₁.butL [la]) := fun u o hu e => PM.butL_some e (by simpa using hu)
  have hat1 : At W.w.params (κ₁.butL [la]) t none := At.off (hb.offInt hla) (fun _ _ q => nomatch q) (hat.le le1)
  refine Wp.frame1 hla <| shape_spec 4 t (by omega) (aD.less (by omega)) hat1 (by omega) fun v κ₂ le2 hv => ⟨le2, fun hn => ?_⟩
  refine WArgs.nil ⟨by show 2 ≤ sizeLine; decide, fun z hz => ⟨z, _, rfl, PM.put_self .., rfl, ?_⟩⟩
  have hzl : z ≠ la := fun q => by subst q; rw [PM.put_self] at hz; cases hz
  have le3 : κ₁.le (κ₂.put la (listOf #[.int (c : Nat) tc] mc)) := fun u o e => by
    by_cases q : u = la
    · subst q; rw [PM.put_self, ← e, hla]
    · rw [PM.put_ne _ _ q]; exact le2 _ _ (PM.butL_some e (by simpa using q))
  have l4 := PM.put_fresh hz (tupOf [PySem.Value.str t.txt tk, v].toArray)
  refine ws_order <| ws_bindName 13 rfl (.inl rfl) <| ws_order <| ws_bindName 12 rfl (.inl rfl) <| ws_order_nil <| h _ tk v ((le1.trans le3).trans l4) (hv.le fun u o e => ?_)
  have hu : u ≠ la := fun q => by subst q; rw [hn] at e; cases e
  exact PM.butL_some (l4 _ _ (by rw [PM.put_ne _ _ hu]; exact e)) (by simpa using hu)
end
end Mine
end
section
open PySem PySem.W PySem.Calls PyProof.Rows PySem.SeqAt
set_option maxRecDepth 100000
set_option maxHeartbeats 1000000
set_option linter.unusedVariables false
namespace Mine
abbrev body8 : List Stmt := match stAt 8 with
  | .For _ _ b _ _ => b
  | _ => []
abbrev b8 (n : Nat) : Stmt := body8.getD n default
abbrev body82 : List Stmt := match b8 2 with
  | .For _ _ b _ _ => b
  | _ => []
theorem All2.right {α β : Type} {R : α → β → Prop} : ∀ {a : List α} {b : List β}, All2 R a b → ∀ (k : Nat) u, a[k]? = some u → ∃ w, b[k]? = some w ∧ R u w
  | _, _, .nil, k, u, h => by simp at h
  | _, _, .cons h r, 0, u, h1 => by simp at h1; subst h1; exact ⟨_, rfl, h⟩
  | _, _, .cons h r, k + 1, u, h1 => by simpa using All2.right r k u (by simpa using h1)
/-- a list of nodes and that of their copies -/
structure Pr (P : Params) (κ : PM) (ws us : List Tr) : Prop where
  tw : All2 Tr.Twin ws us
  au : ∀ u ∈ us, ∃ q, At P κ u q
  aw : ∀ w ∈ ws, ∃ q, At P κ w q
  ok : ∀ u ∈ us, u.sok ∧ u.pre.length ≤ 40 ∧ u.ht ≤ 3
  okw : ∀ u ∈ ws, u.sok ∧ u.pre.length ≤ 40 ∧ u.ht ≤ 3
  dj : ∀ u ∈ us, ∀ w ∈ ws, ∀ a ∈ u.pre, a ∉ w.pre
  len : us.length ≤ 40
theorem Pr.le {P : Params} {κ κ' : PM} {ws us : List Tr} (h : Pr P κ ws us) (l : κ.le κ') : Pr P κ' ws us :=
  ⟨h.tw, fun u hu => let ⟨q, a⟩ := h.au u hu; ⟨q, a.le l⟩, fun u hu => let ⟨q, a⟩ := h.aw u hu; ⟨q, a.le l⟩, h.ok, h.okw, h.dj, h.len⟩
section
variable {W : Wd} {A : Around} {L : Addr} {κ : PM} {Q : Flow → Loc → PM → Prop} {sv told at_ tree down up part node one late k above text shape model copy ways rows others way leaf : Option PySem.Value}
/-- copy = model.clone() -/
theorem law8a (aD : AOk A 40) {w : Tr} {q : Option Addr} (hat : At W.w.params κ w q) (hok : w.ok) (hht : w.ht ≤ 3) (hlen : w.pre.length ≤ 40)
    (h : ∀ κ' c, κ.le κ' → At W.w.params κ' c none → New κ c → Tr.Twin w c → Q .next (LR sv told at_ tree down up part node one late k above text shape (some (.ref w.addr)) (some (.ref c.addr)) ways rows others way leaf) κ') :
    WS W A (envL L) (LR sv told at_ tree down up part node one late k above text shape (some (.ref w.addr)) copy ways rows others way leaf) (exec (b8 0) (envL L)) κ Q := by
  obtain ⟨f, i, _⟩ := hat.own
  exact WS.assign 15 rfl (.inl rfl) <| WE.meth <| WE.name 14 rfl rfl <| i.method (cloneOk _ w) (cloneNm w) <| call_with0 (.ref (cloneK _ w)) <| clone_spec 4 w (by omega) (aD.less (by omega)) hat hok (by omega) h
/-- ways = [(list(copy.pre_order()), _law_walk(model, True)), ..] -/
theorem law8b (aD : AOk A 40) {w c : Tr} {q : Option Addr} {ps : Array PySem.Value} (hat : At W.w.params κ w q) (hc : At W.w.params κ c none) (hht : w.ht ≤ 3) (hlen : w.pre.length ≤ 40) (hlenc : c.pre.length ≤ 40) (h201 : κ 201 = some (tabObj ps)) (htri : TriplesOk ps.toList) (hsome : (codeAmong gPos ps.toList).isSome = true)
    (h : ∀ κ' lw z1 z2 r1 o1 r2 o2 m1 m2 m3 m4, κ.le κ' → κ' lw = some (listOf #[PySem.Value.ref z1, .ref z2] 0) → κ' z1 = some (tupOf #[PySem.Value.ref r1, .ref o1]) → κ' z2 = some (tupOf #[PySem.Value.ref r2, .ref o2]) →
      κ' r1 = some (listOf (c.pre.map PySem.Value.ref).toArray m1) → κ' o1 = some (listOf (w.pre.map PySem.Value.ref).toArray m2) → κ' r2 = some (listOf (c.post.map PySem.Value.ref).toArray m3) → κ' o2 = some (listOf (w.post.map PySem.Value.ref).toArray m4) →
      Q .next (LR sv told at_ tree down up part node one late k above text shape (some (.ref w.addr)) (some (.ref c.addr)) (some (.ref lw)) rows others way leaf) κ') :
    WS W A (envL L) (LR sv told at_ tree down up part node one late k above text shape (some (.ref w.addr)) (some (.ref c.addr)) ways rows others way leaf) (exec (b8 1) (envL L)) κ Q := by
  refine WS.assign 16 rfl (.inl rfl) <| WE.list <| WArgs.cons <| WE.tuple <| WArgs.cons ?_
  refine we_pre (k := 20) (t := c) 15 (aD.less (by decide)) rfl rfl rfl hc (by omega) fun r1 c1 κ₁ le1 hr1 hr1' => WArgs.cons ?_
  refine WE.call <| WE.glob rfl (g397 _) <| call_with (.ref (k397 _)) <| WArgs.cons <| WE.name 14 rfl rfl <| WArgs.cons <| WE.bool <| WArgs.nil ?_
  refine walk_spec W 4 w (by omega) _ κ₁ q true _ (aD.less (by omega)) (hat.le le1) (by omega) fun o1 κ₂ c2 le2 hr2 hr2' => WArgs.nil ⟨by show 2 ≤ sizeLine; decide, fun z1 hz1 => ?_⟩
  have l1 := PM.put_fresh hz1 (tupOf [PySem.Value.ref r1, .ref o1].toArray)
  have hz1' : (κ₂.put z1 (tupOf [PySem.Value.ref r1, .ref o1].toArray)) z1 = _ := PM.put_self ..
  generalize κ₂.put z1 (tupOf [PySem.Value.ref r1, .ref o1].toArray) = κ₃ at l1 hz1'
  have L3 := (le1.trans le2).trans l1
  refine WArgs.cons <| WE.tuple <| WArgs.cons ?_
  refine we_post (k := 20) (t := c) 15 (aD.less (by decide)) rfl rfl rfl (hc.le L3) (by omega) (L3 _ _ h201) htri (fun _ => hsome) fun r2 c3 κ₄ le4 hE hr3 hr3' => WArgs.cons ?_
  have le4 := tab_le le4 (L3 _ _ h201) hE hsome
  refine WE.call <| WE.glob rfl (g397 _) <| call_with (.ref (k397 _)) <| WArgs.cons <| WE.name 14 rfl rfl <| WArgs.cons <| WE.bool <| WArgs.nil ?_
  refine walk_spec W 4 w (by omega) _ κ₄ q false _ (aD.less (by omega)) (hat.le (L3.trans le4)) (by omega) fun o2 κ₅ c4 le5 hr4 hr4' => WArgs.nil ⟨by show 2 ≤ sizeLine; decide, fun z2 hz2 => ?_⟩
  have l6 := PM.put_fresh hz2 (tupOf [PySem.Value.ref r2, .ref o2].toArray)
  refine WArgs.nil ⟨by show 2 ≤ sizeLine; decide, fun lw hlw => ?_⟩
  have l7 := PM.put_fresh hlw (listOf [PySem.Value.ref z1, .ref z2].toArray 0)
  exact h _ lw z1 z2 r1 o1 r2 o2 c1 c2 c3 c4 (((L3.trans le4).trans le5).trans (l6.trans l7)) (PM.put_self ..) (l7 _ _ (l6 _ _ (le5 _ _ (le4 _ _ hz1')))) (l7 _ _ (PM.put_self ..))
    (l7 _ _ (l6 _ _ (le5 _ _ (le4 _ _ (l1 _ _ (le2 _ _ hr1')))))) (l7 _ _ (l6 _ _ (le5 _ _ (le4 _ _ (l1 _ _ hr2'))))) (l7 _ _ (l6 _ _ (le5 _ _ hr3'))) (l7 _ _ (l6 _ _ hr4'))
/-- one turn over rows, others -/
theorem law8c1 (aD : AOk A 40) {ws us : List Tr} (pr : Pr W.w.params κ ws us) {r o : Addr} {mr mo : Nat} (hr : κ r = some (listOf ((us.map Tr.addr).map PySem.Value.ref).toArray mr)) (ho : κ o = some (listOf ((ws.map Tr.addr).map PySem.Value.ref).toArray mo))
    (h : ∀ κ', κ.le κ' → Q .next (LR sv told at_ tree down up part node one late k above text shape model copy ways (some (.ref r)) (some (.ref o)) way leaf) κ') :
    WX W A (envL L) (LR sv told at_ tree down up part node one late k above text shape model copy ways (some (.ref r)) (some (.ref o)) way leaf) body82 κ Q := by
  have hl := pr.tw.len
  have hlu := pr.len
  have s1 : ((us.map Tr.addr).map PySem.Value.ref).toArray.size = us.length := by simp
  have s2 : ((ws.map Tr.addr).map PySem.Value.ref).toArray.size = ws.length := by simp
  refine WX.cons <| WS.if <| WT.bool <| WAll.or_cons <| WT.cmp <| WE.call <| WE.blt rfl (gLen _) rfl (by decide) <| call_with .builtin <| WArgs.cons <| WE.name 17 rfl rfl <| WArgs.nil <| t_len hr (by omega) fun t1 => WE.call <| WE.blt rfl (gLen _) rfl (by decide) <| call_with .builtin <| WArgs.cons <| WE.name 18 rfl rfl <| WArgs.nil <| t_len ho (by omega) fun t2 => t_ne ?_
  rw [s1, s2, hl, show ((us.length : Int) != (us.length : Int)) = false by simp]
  refine Wp.truthyBool <| pick_f <| WAll.or_cons <| WT.cmp ?_
  refine we_comp 1 (kx := .local) (cl := [("rows", L + 4), ("others", L + 5)]) [none, none, some (.ref o), some (.ref r)] rfl rfl ⟨rfl, rfl, rfl⟩ rfl (by decide) (by decide) (.inl ⟨rfl, rfl⟩) ?_ ?_
  · intro L' R' fr j y kk u hy hj hu
    match j with
    | 0 => cases hu
    | 1 => cases hu
    | 2 =>
      have hy' : some (("others" : Str), NameKind.cell) = some (y, kk) := hy
      cases hy'; cases hu
      exact cap_cell (fr.rd 18 _ _ _ rfl rfl) rfl rfl rfl
    | 3 =>
      have hy' : some (("rows" : Str), NameKind.cell) = some (y, kk) := hy
      cases hy'; cases hu
      exact cap_cell (fr.rd 17 _ _ _ rfl rfl) rfl rfl rfl
    | j + 4 => cases hu
  refine WE.call <| WE.blt rfl rfl rfl (by decide) <| call_with .type <| WArgs.cons <| WE.call <| WE.blt rfl (gLen _) rfl (by decide) <| call_with .builtin <| WArgs.cons <| WE.name 17 rfl rfl <| WArgs.nil <| t_len hr (by omega) fun t3 => WArgs.nil <| t_range fun rg tr ur vr hrg => ?_
  rw [s1]
  have l1 := PM.put_fresh hrg (rangeOf us.length tr ur vr)
  have hrg' : (κ.put rg (rangeOf us.length tr ur vr)) rg = _ := PM.put_self ..
  generalize κ.put rg (rangeOf us.length tr ur vr) = κ₁ at l1 hrg'
  refine ⟨us.length, fun j v => ∃ t, v = .int (j : Int) t, [rg], fun _ => rangeOf us.length tr ur vr, fun j ys κ' => κ₁.le κ' ∧ ys = [], ?_⟩
  refine ⟨.range aD.hh rg us.length (by omega) tr ur vr, by rw [show sizeLine = 16777216 by decide]; omega, ⟨.rfl, rfl⟩, fun j ys κ' hI b hb => by rw [List.mem_singleton.mp hb]; exact hI.1 _ _ hrg', ?_, ?_⟩
  · rintro L' j v ys κ' hj ⟨tj, rfl⟩ ⟨hle, rfl⟩
    have Lk := l1.trans hle
    obtain ⟨w, hw⟩ : ∃ w, ws[j]? = some w := ⟨_, List.getElem?_eq_getElem (by omega)⟩
    obtain ⟨u, hu, htw⟩ := pr.tw.right j w hw
    have mu := List.mem_of_getElem? hu
    have mw := List.mem_of_getElem? hw
    obtain ⟨qu, au⟩ := pr.au u mu
    obtain ⟨qw, aw⟩ := pr.aw w mw
    have gu : ((us.map Tr.addr).map PySem.Value.ref).toArray[j]? = some (.ref u.addr) := by rw [List.getElem?_toArray, List.getElem?_map, List.getElem?_map, hu]; rfl
    have gw : ((ws.map Tr.addr).map PySem.Value.ref).toArray[j]? = some (.ref w.addr) := by rw [List.getElem?_toArray, List.getElem?_map, List.getElem?_map, hw]; rfl
    have hne : u.addr ≠ w.addr := fun e => pr.dj u mu w mw u.addr (by rw [Tr.pre_eq]; exact .head _) (by rw [e, Tr.pre_eq]; exact .head _)
    obtain ⟨ou, hou, hcu⟩ := objsOf (au.le Lk) u.addr (by rw [Tr.pre_eq]; exact .head _)
    obtain ⟨ow, how, hcw⟩ := objsOf (aw.le Lk) w.addr (by rw [Tr.pre_eq]; exact .head _)
    obtain ⟨k1, k2, k3⟩ := pr.ok u mu
    obtain ⟨k4, k5, k6⟩ := pr.okw w mw
    refine tests1 <| WT.bool <| WAll.or_cons <| WT.cmp <| WE.sub <| WE.name 3 rfl rfl <| WE.name 1 rfl rfl <| t_item (Lk _ _ hr) (by omega) gu <| WE.sub <| WE.name 2 rfl rfl <| WE.name 1 rfl rfl <| t_item (Lk _ _ ho) (by omega) gw <| t_is hou how hcu ?_
    rw [show (u.addr == w.addr) = false by simpa using hne]
    refine Wp.truthyBool <| pick_f <| WAll.or_cons <| WT.not <| WT.cmp <| WE.sub <| WE.name 3 rfl rfl <| WE.name 1 rfl rfl <| t_item (Lk _ _ hr) (by omega) gu <| WE.sub <| WE.name 2 rfl rfl <| WE.name 1 rfl rfl <| t_item (Lk _ _ ho) (by omega) gw ?_
    refine eq_spec 4 u w (by omega) (aD.less (by omega)) (au.le Lk) (aw.le Lk) k1 k4 (by omega) (by omega) (pr.dj u mu w mw) fun κ₂ le2 => ?_
    rw [show PyData.eqv u.shp w.shp = true by rw [htw.shp]; exact SeqAt.eqv_refl _ (Tr.shp_lay k1)]
    exact Wp.truthyBool <| pick_f <| WAll.or_nil <| pick_f ⟨hle.trans le2, rfl⟩
  · rintro ys κ₂ D mm ⟨hle, rfl⟩ hD _
    have l2 := PM.put_fresh hD (listOf ([] : List PySem.Value).toArray mm)
    have hD' : (κ₂.put D (listOf ([] : List PySem.Value).toArray mm)) D = _ := PM.put_self ..
    generalize κ₂.put D (listOf ([] : List PySem.Value).toArray mm) = κ₃ at l2 hD'
    refine WE.list <| WArgs.nil ⟨by show 0 ≤ sizeLine; decide, fun e he => ?_⟩
    have l3 := PM.put_fresh he (listOf ([] : List PySem.Value).toArray 0)
    refine neNil (k := 10) (aD.less (by decide)) (l3 _ _ hD') (PM.put_self ..) <| Wp.truthyBool <| pick_f <| WAll.or_cons <| WT.cmp <| WE.call <| WE.glob rfl (gLost _) <| call_with (.ref (kLost _)) <| WArgs.cons <| WE.name 17 rfl rfl <| WArgs.nil ?_
    have L3 := ((l1.trans hle).trans l2).trans l3
    refine lost_spec (k := 10) (aD.less (by decide)) (L3 _ _ hr) (by simp; omega) (fun a ha => ?_) fun rr mr κ₄ le4 hrr hrr' => WE.list <| WArgs.nil ⟨by show 0 ≤ sizeLine; decide, fun e2 he2 => ?_⟩
    · obtain ⟨u, mu, rfl⟩ := List.mem_map.mp ha
      obtain ⟨qu, au⟩ := pr.au u mu
      have := (pr.ok u mu).2.1
      exact ⟨u, qu, rfl, au.le L3, by omega⟩
    · have l5 := PM.put_fresh he2 (listOf ([] : List PySem.Value).toArray 0)
      exact neNil (k := 10) (aD.less (by decide)) (l5 _ _ hrr') (PM.put_self ..) <| Wp.truthyBool <| pick_f <| WAll.or_nil <| pick_f <| WX.nil <| WX.nil <| h _ ((L3.trans le4).trans l5)
end
end Mine
end
section
open PySem PySem.W PySem.Calls PyProof.Rows PySem.SeqAt
set_option maxRecDepth 100000
set_option maxHeartbeats 1000000
set_option linter.unusedVariables false
namespace Mine
theorem Tr.pre_in {t u : Tr} (h : u ∈ t.subs) : ∀ a ∈ u.pre, a ∈ t.pre := fun a ha => by
  rw [← Tr.subs_pre] at ha ⊢
  obtain ⟨w, hw, rfl⟩ := List.mem_map.mp ha
  exact List.mem_map.mpr ⟨w, Tr.subs_trans h hw, rfl⟩
theorem psubs_len (t : Tr) : t.psubs.length = t.pre.length := by
  have := congrArg List.length (Tr.psubs_post t)
  rw [List.length_map, Tr.post_len] at this
  exact this
/-- a tree and its copy -/
structure Cp (w c : Tr) : Prop where
  tw : Tr.Twin w c
  okw : w.ok
  htw : w.ht ≤ 3
  lenw : w.pre.length ≤ 40
  dj : ∀ a ∈ c.pre, a ∉ w.pre
theorem Cp.okc {w c : Tr} (h : Cp w c) : c.ok := h.tw.ok h.okw
theorem Cp.htc {w c : Tr} (h : Cp w c) : c.ht ≤ 3 := by have := h.tw.ht; have := h.htw; omega
theorem Cp.lenc {w c : Tr} (h : Cp w c) : c.pre.length ≤ 40 := by have := h.tw.ht; have := h.lenw; omega
theorem Cp.pr {w c : Tr} (h : Cp w c) {P : Params} {κ : PM} {q : Option Addr} (hw : At P κ w q) (hc : At P κ c none) : Pr P κ w.subs c.subs :=
  ⟨h.tw.subs.1, fun u hu => hc.sub u hu, fun u hu => hw.sub u hu, fun u hu => ⟨Tr.ok_sok (Tr.ok_sub hu h.okc), Nat.le_trans (Tr.pre_len_sub hu) h.lenc, Nat.le_trans (Tr.ht_in hu) h.htc⟩,
    fun u hu => ⟨Tr.ok_sok (Tr.ok_sub hu h.okw), Nat.le_trans (Tr.pre_len_sub hu) h.lenw, Nat.le_trans (Tr.ht_in hu) h.htw⟩, fun u hu v hv a ha hb => h.dj a (Tr.pre_in hu a ha) (Tr.pre_in hv a hb), by rw [subs_len]; exact h.lenc⟩
theorem Cp.pr2 {w c : Tr} (h : Cp w c) {P : Params} {κ : PM} {q : Option Addr} (hw : At P κ w q) (hc : At P κ c none) : Pr P κ w.psubs c.psubs :=
  have p := h.pr hw hc
  ⟨h.tw.subs.2, fun u hu => p.au u (Tr.psubs_mem hu), fun u hu => p.aw u (Tr.psubs_mem hu), fun u hu => p.ok u (Tr.psubs_mem hu), fun u hu => p.okw u (Tr.psubs_mem hu), fun u hu v hv => p.dj u (Tr.psubs_mem hu) v (Tr.psubs_mem hv), by rw [psubs_len]; exact h.lenc⟩
section
variable {W : Wd} {A : Around} {L : Addr} {κ : PM} {Q : Flow → Loc → PM → Prop} {sv told at_ tree down up part node one late k above text shape model copy ways rows others way leaf : Option PySem.Value}
/-- for rows, others in ways -/
theorem law8c (aD : AOk A 40) {w c : Tr} {q : Option Addr} (C : Cp w c) (hw : At W.w.params κ w q) (hc : At W.w.params κ c none) {lw z1 z2 r1 o1 r2 o2 : Addr} {m1 m2 m3 m4 : Nat} (hlw : κ lw = some (listOf #[PySem.Value.ref z1, .ref z2] 0)) (h1 : κ z1 = some (tupOf #[PySem.Value.ref r1, .ref o1])) (h2 : κ z2 = some (tupOf #[PySem.Value.ref r2, .ref o2]))
    (hr1 : κ r1 = some (listOf (c.pre.map PySem.Value.ref).toArray m1)) (ho1 : κ o1 = some (listOf (w.pre.map PySem.Value.ref).toArray m2)) (hr2 : κ r2 = some (listOf (c.post.map PySem.Value.ref).toArray m3)) (ho2 : κ o2 = some (listOf (w.post.map PySem.Value.ref).toArray m4))
    (h : ∀ κ' rows others, κ.le κ' → Q .next (LR sv told at_ tree down up part node one late k above text shape model copy (some (.ref lw)) rows others way leaf) κ') :
    WS W A (envL L) (LR sv told at_ tree down up part node one late k above text shape model copy (some (.ref lw)) rows others way leaf) (exec (b8 2) (envL L)) κ Q := by
  refine ws_forLT (xs := #[PySem.Value.ref z1, .ref z2]) (l := lw) (m := 0) aD.hh (fun i ρ κ' => (∃ rows others, ρ = LR sv told at_ tree down up part node one late k above text shape model copy (some (.ref lw)) rows others way leaf) ∧ κ.le κ') (WE.name 16 rfl rfl ⟨rfl, ⟨_, _, rfl⟩, .rfl⟩) (fun i ρ κ' hI => hI.2 _ _ hlw) ?_ ?_ ?_
  · intro i v hv
    match i with
    | 0 => exact ⟨z1, by simpa using hv.symm⟩
    | 1 => exact ⟨z2, by simpa using hv.symm⟩
    | i + 2 => simp at hv
  · rintro i v ρ κ' hv ⟨⟨rw0, ot0, rfl⟩, hle⟩
    match i with
    | 0 =>
      have : PySem.Value.ref z1 = v := by simpa using hv
      subst this
      refine ws_tup aD.hh (hle _ _ h1) rfl <| ws_order <| WS.bindN 17 rfl (.inr rfl) <| ws_order <| WS.bindN 18 rfl (.inr rfl) <| ws_order_nil ?_
      exact law8c1 aD ((C.pr hw hc).le hle) (by rw [Tr.subs_pre]; exact hle _ _ hr1) (by rw [Tr.subs_pre]; exact hle _ _ ho1) fun κ₂ le2 => ⟨⟨_, _, rfl⟩, hle.trans le2⟩
    | 1 =>
      have : PySem.Value.ref z2 = v := by simpa using hv
      subst this
      refine ws_tup aD.hh (hle _ _ h2) rfl <| ws_order <| WS.bindN 17 rfl (.inr rfl) <| ws_order <| WS.bindN 18 rfl (.inr rfl) <| ws_order_nil ?_
      exact law8c1 aD ((C.pr2 hw hc).le hle) (by rw [Tr.psubs_post]; exact hle _ _ hr2) (by rw [Tr.psubs_post]; exact hle _ _ ho2) fun κ₂ le2 => ⟨⟨_, _, rfl⟩, hle.trans le2⟩
    | i + 2 => simp at hv
  · rintro ρ κ' ⟨⟨rw0, ot0, rfl⟩, hle⟩
    exact h _ _ _ hle
/-- the copy is equal, and has no parent -/
theorem law8d (aD : AOk A 40) {w c : Tr} {q : Option Addr} (C : Cp w c) (hw : At W.w.params κ w q) (hc : At W.w.params κ c none)
    (h : ∀ κ', κ.le κ' → Q .next (LR sv told at_ tree down up part node one late k above text shape (some (.ref w.addr)) (some (.ref c.addr)) ways rows others way leaf) κ') :
    WS W A (envL L) (LR sv told at_ tree down up part node one late k above text shape (some (.ref w.addr)) (some (.ref c.addr)) ways rows others way leaf) (exec (b8 3) (envL L)) κ Q := by
  obtain ⟨f, i, pf⟩ := hc.own
  have hht := C.htw
  have hht2 := C.htc
  have hl := C.lenw
  have hl2 := C.lenc
  refine WS.if <| WT.bool <| WAll.or_cons <| WT.cmp <| WE.attr <| WE.name 15 rfl rfl <| getParent i pf <| WE.none <| t_isNotNone <| Wp.truthyBool <| pick_f <| WAll.or_cons <| WT.not <| WT.cmp <| WE.name 15 rfl rfl <| WE.name 14 rfl rfl ?_
  refine eq_spec 4 c w (by omega) (aD.less (by omega)) hc hw (Tr.ok_sok C.okc) (Tr.ok_sok C.okw) (by omega) (by omega) C.dj fun κ₁ le1 => ?_
  rw [show PyData.eqv c.shp w.shp = true by rw [C.tw.shp]; exact SeqAt.eqv_refl _ (Tr.shp_lay (Tr.ok_sok C.okc))]
  refine Wp.truthyBool <| pick_f <| WAll.or_cons <| WT.cmp <| WE.call <| WE.blt rfl (gStr _) rfl (by decide) <| call_with .type <| WArgs.cons <| WE.name 15 rfl rfl <| WArgs.nil <| str_spec 4 c (by omega) (aD.less (by omega)) (hc.le le1) C.okc (by omega) fun κ₂ tk2 le2 => ?_
  refine WE.call <| WE.blt rfl (gStr _) rfl (by decide) <| call_with .type <| WArgs.cons <| WE.name 14 rfl rfl <| WArgs.nil <| str_spec 4 w (by omega) (aD.less (by omega)) (hw.le (le1.trans le2)) C.okw (by omega) fun κ₃ tk3 le3 => t_neStr ?_
  rw [Twin.txt C.tw, show (c.txt != c.txt) = false by simp]
  exact Wp.truthyBool <| pick_f <| WAll.or_nil <| pick_f <| WX.nil <| h _ ((le1.trans le2).trans le3)
theorem t_itemT2 {value slice : PySem.Expr} {l : Addr} {xs : Array PySem.Value} {u : Tok} {Q : PySem.Value → PM → Prop} {x : PySem.Value} (hl : κ l = some (tupOf xs)) (hx : xs[0]? = some x) (h : Q x κ)
    (hs : subscripted slice false (.ref l) (.int 0 u) = operate [.ref l, .int 0 u] (getItem (.ref l) (.int 0 u)) := by with_unfolding_all rfl) : Wp W A T1 (subscriptTail value slice (.ref l) (.int 0 u)) κ Q := fun R s _ _ S => by
  have hT : IsTup s.heap l xs := ⟨_, S.k _ _ hl, rfl, _, rfl⟩
  exact subscriptTail_builtinR hT.typeIs slot_tuple_getitem.lookup (getItem_tuple (Q := fun r s' => r = x ∧ ∃ κ', Sat κ' R s'.heap ∧ Fwd s s' ∧ Q r κ') (j := 0) hT (by decide) (by decide) (by have := (Array.getElem?_eq_some_iff.mp hx).1; exact seqIndex_of (by omega) (by omega)) hx ⟨rfl, κ, S, .of, h⟩) hs
/-- rows = ways[0][0] -/
theorem law8e (aD : AOk A 40) {lw z1 z2 r1 o1 : Addr} (hlw : κ lw = some (listOf #[PySem.Value.ref z1, .ref z2] 0)) (h1 : κ z1 = some (tupOf #[PySem.Value.ref r1, .ref o1]))
    (h : Q .next (LR sv told at_ tree down up part node one late k above text shape model copy (some (.ref lw)) (some (.ref r1)) others way leaf) κ) :
    WS W A (envL L) (LR sv told at_ tree down up part node one late k above text shape model copy (some (.ref lw)) rows others way leaf) (exec (b8 4) (envL L)) κ Q := by
  exact WS.assign 17 rfl (.inr rfl) <| WE.sub <| WE.sub <| WE.name 16 rfl rfl <| WE.int fun t1 => t_item0 hlw rfl <| WE.int fun t2 => t_itemT2 h1 rfl h
/-- one, way = .. -/
theorem law8f (aD : AOk A 40) {lt la r1 : Addr} {xs : Array PySem.Value} {m m1 K : Nat} {c : Tr} (hlen : c.pre.length ≤ 40) (hr : κ r1 = some (listOf (c.pre.map PySem.Value.ref).toArray m1)) (hl : κ lt = some (listOf xs m)) (hx : Ints xs) (hne : 0 < xs.size) (hz : xs.size ≤ 1000) (hc : Cnt κ la K) (hK : K ≤ 900) (h1 : lt ≠ la)
    (h : ∀ κ' u wy tw, u ∈ c.subs → 0 ≤ wy → wy < 4 → But la κ κ' → Cnt κ' la (K + 2) → Q .next (LR sv (some (.ref lt)) (some (.ref la)) tree down up part node (some (.ref u.addr)) late k above text shape model copy ways (some (.ref r1)) others (some (.int wy tw)) leaf) κ') :
    WS W A (envL L) (LR sv (some (.ref lt)) (some (.ref la)) tree down up part node one late k above text shape model copy ways (some (.ref r1)) others way leaf) (exec (b8 5) (envL L)) κ Q := by
  have hsz : (c.pre.map PySem.Value.ref).toArray.size = c.pre.length := by simp
  have hp : 0 < c.pre.length := by rw [Tr.pre_eq]; simp
  have hr1 : r1 ≠ la := fun e => by
    obtain ⟨k, tk, mm, hla, _⟩ := hc
    rw [e, hla] at hr; cases hpre : c.pre with
    | nil => rw [hpre] at hp; simp at hp
    | cons a r => rw [hpre] at hr; simp at hr
  refine ws_swapped (names := ["one", "way"]) aD.hh rfl <| WE.tuple <| WArgs.cons <| WE.sub <| WE.name 17 rfl rfl <| WE.call <| WE.glob rfl (gDrawn _) <| call_with (.ref (kDrawn _)) <| WArgs.cons <| WE.name 1 rfl rfl <| WArgs.cons <| WE.name 2 rfl rfl <| WArgs.cons ?_
  refine WE.call <| WE.blt rfl (gLen _) rfl (by decide) <| call_with .builtin <| WArgs.cons <| WE.name 17 rfl rfl <| WArgs.nil <| t_len hr (by omega) fun tl => WArgs.nil ?_
  refine we_drawn aD hl hx hne hz hc h1 (by omega) (by rw [hsz]; omega) fun r tr κ₁ r0 r1' b hc' => ?_
  rw [hsz] at r1'
  obtain ⟨i, rfl⟩ := Int.eq_ofNat_of_zero_le r0
  have hs := subs_len c
  have hi : i < c.subs.length := by omega
  have hx' : (c.pre.map PySem.Value.ref).toArray[i]? = some (.ref (c.subs[i]).addr) := by
    rw [← Tr.subs_pre]; simp [hi]
  refine t_itemI (by omega) (b _ _ hr1 hr) (by omega) hx' <| WArgs.cons <| WE.call <| WE.glob rfl (gDrawn _) <| call_with (.ref (kDrawn _)) <| WArgs.cons <| WE.name 1 rfl rfl <| WArgs.cons <| WE.name 2 rfl rfl <| WArgs.cons <| WE.int fun t4 => WArgs.nil ?_
  refine we_drawn aD (b _ _ h1 hl) hx hne hz hc' h1 (by omega) (by decide) fun wy tw κ₂ w0 w1 b2 hc2 => WArgs.nil ⟨by show 2 ≤ sizeLine; decide, fun z hz => ⟨z, _, rfl, PM.put_self .., rfl, ?_⟩⟩
  have l3 := PM.put_fresh hz (tupOf [PySem.Value.ref (c.subs[i]).addr, .int wy tw].toArray)
  exact ws_order <| ws_bindName 19 rfl (.inl rfl) <| ws_order <| ws_bindName 8 rfl (.inl rfl) <| ws_order_nil <| h _ c.subs[i] wy tw (List.getElem_mem hi) w0 w1 ((b.trans b2).le l3) (hc2.but l3)
end
end Mine
end
section
open PySem PySem.W PySem.Calls PyProof.Rows PySem.SeqAt
set_option maxRecDepth 100000
set_option maxHeartbeats 1000000
set_option linter.unusedVariables false
namespace Mine
theorem Tr.Sm.setTy (i : Int) (u : Tr) : Sm u (u.setTy i) := by
  cases u <;> exact ⟨Eq.refl _, id, Nat.le_refl _, fun _ h => h, Nat.le_refl _, Eq.refl _, fun _ h => h⟩
theorem Tr.Sm.setPre (p : Str) (u : Tr) : Sm u (u.setPre p) := by
  cases u <;> exact ⟨Eq.refl _, id, Nat.le_refl _, fun _ h => h, Nat.le_refl _, Eq.refl _, fun _ h => h⟩
theorem Tr.Sm.setVal {x : Str} (hx : PyData.strOk x = true) (u : Tr) : Sm u (u.setVal x) := by
  cases u
  · exact ⟨Eq.refl _, fun _ => hx, Nat.le_refl _, fun _ h => h, Nat.le_refl _, Eq.refl _, fun _ h => h⟩
  · exact .rfl _
mutual
theorem ds_nodup : ∀ {t u : Tr}, u ∈ t.subs → t.ds.Nodup → u.ds.Nodup
  | .leaf .., u, h, nd => by simp [Tr.subs] at h; subst h; exact nd
  | .node a d l ty ch, u, h, nd => by
    simp only [Tr.subs, List.mem_cons] at h
    rcases h with rfl | h
    · exact nd
    · simp only [Tr.ds, List.nodup_cons] at nd; exact dsL_nodup h nd.2
theorem dsL_nodup : ∀ {ts : List Tr} {u : Tr}, u ∈ Tr.subsL ts → (Tr.dsL ts).Nodup → u.ds.Nodup
  | t :: r, u, h, nd => by
    simp only [Tr.subsL, List.mem_append] at h
    simp only [Tr.dsL, List.nodup_append] at nd
    rcases h with h | h
    · exact ds_nodup h nd.1
    · exact dsL_nodup h nd.2.1
end
theorem we_reverse2 {W : Wd} {A : Around} {env : Env} {ρ : Loc} {κ : PM} {pos apos : Pos} {o : Expr} {Q : PySem.Value → PM → Prop} {pl : Sem Bool} (h : WE W A env ρ o κ fun v κ₁ => ∃ l xs n, v = .ref l ∧ κ₁ l = some (listOf xs n) ∧ xs.size ≤ 1000000 ∧ ∀ m, Q .none (κ₁.put l (listOf xs.reverse m)))
    (he : eval (.Call (.Attribute o "reverse" apos) [] [] pos) env = (do let ov ← eval o env; standAt apos.atName; let (f, first) ← holding [ov] (getMethod ov "reverse" pl); callWith pos f first (backTo pos (starEach [] env)) []) := by rfl) : WE W A env ρ (.Call (.Attribute o "reverse" apos) [] [] pos) κ Q :=
  WE.meth (pl := pl) (Wp.mono h fun v κ₁ q => by
    obtain ⟨l, xs, n, rfl, hl, hz, hq⟩ := q
    refine t_meth F.slot_list_reverse (by rfl) hl fun R s b _ S => ?_
    have h1 : IsL s.heap l xs n := S.k _ _ hl
    exact P.reverse_list h1 ⟨_, S.upd hl (Heap.SameBut.update ..) (h1.update _), .of, hq _⟩ (by rw [show sizeLine = 16777216 by decide]; omega)) he
/-- one write to the copy -/
theorem At.put1 {P : Params} {κ κ' : PM} {c u : Tr} {name : Str} {v : PySem.Value} {g : Tr → Tr} (hc : At P κ c none) (nd : c.ds.Nodup) (hu : u ∈ c.subs) (hp : Put1 P u.dct name v κ κ') (hn : name ∈ u.nms) (hga : ∀ w, (g w).addr = w.addr)
    (hw : ∀ p, At P κ u p → u.ds.Nodup → ∃ f, Inst P κ u.cls u.nms u.addr u.dct f ∧ Writes P κ u f name v (g u) p) : At P κ' (c.updD u.dct g) none := by
  obtain ⟨es, n, n', tk, h1, rfl⟩ := hp
  refine At.updD (Off.rfl.put h1 rfl (.head _)) hga hc fun w q hw' e hat => ?_
  have := Tr.dct_inj nd hw' hu e
  subst this
  obtain ⟨f, i, wr⟩ := hw q hat (ds_nodup hu nd)
  exact wr _ (Put1.inst ⟨es, n, n', tk, h1, rfl⟩ i hn)
theorem atL_head {P : Params} {κ : PM} {t : Tr} {r : List Tr} {p : Addr} (h : AtL P κ (t :: r) p) : At P κ t (some p) := by
  unfold AtL at h; exact h.1
theorem Only.ofBut {la : Addr} {κ κ' : PM} {F : List Addr} (h : But la κ κ') (hm : la ∈ F) : Only F κ κ' := fun u o hn e => h u o (fun q => hn (q ▸ hm)) e
section
variable {W : Wd} {A : Around} {L : Addr} {κ : PM} {Q : Flow → Loc → PM → Prop} {sv told at_ tree down up part node one late k above text shape model copy ways rows others way leaf : Option PySem.Value}
/-- the change of the copy -/
theorem law8g (aD : AOk A 40) {lt la : Addr} {xs : Array PySem.Value} {m K : Nat} {c u : Tr} {wy : Int} {tw : Tok} (hcat : At W.w.params κ c none) (hok : c.ok) (hht : c.ht ≤ 3) (hlen : c.pre.length ≤ 40) (nd : c.ds.Nodup) (nl : c.ls.Nodup) (hu : u ∈ c.subs) (hl : κ lt = some (listOf xs m)) (hx : Ints xs) (hne : 0 < xs.size) (hz : xs.size ≤ 1000) (hc : Cnt κ la K) (hK : K ≤ 900) (h1 : lt ≠ la) (hds : la ∉ c.ds) (hls : la ∉ c.ls)
    (h : ∀ κ' c', Only (la :: (c.ds ++ c.ls)) κ κ' → At W.w.params κ' c' none → Tr.Sm c c' → Cnt κ' la (K + 1) → Q .next (LR sv (some (.ref lt)) (some (.ref la)) tree down up part node (some (.ref u.addr)) late k above text shape model copy ways rows others (some (.int wy tw)) leaf) κ') :
    WS W A (envL L) (LR sv (some (.ref lt)) (some (.ref la)) tree down up part node (some (.ref u.addr)) late k above text shape model copy ways rows others (some (.int wy tw)) leaf) (exec (b8 6) (envL L)) κ Q := by
  obtain ⟨q, hq⟩ := hcat.sub u hu
  have hud := ds_nodup hu nd
  have hut := Tr.ht_in hu
  have hul := Tr.pre_len_sub hu
  obtain ⟨f, i, pf, wf, ⟨tty, ety⟩, _, _, _, wty, wlf⟩ := hq.mod hud
  have hdF : u.dct ∈ c.ds := Tr.ds_in hu _ (dct_mem u)
  have cntK : ∀ {κ'}, Only (c.ds ++ c.ls) κ κ' → Cnt κ' la (K + 1) := fun {κ'} o => by
    obtain ⟨k0, t0, m0, e0, hk0⟩ := hc
    exact ⟨k0, t0, m0, o _ _ (by simp [hds, hls]) e0, by omega⟩
  have big : ∀ {κ'}, Only (c.ds ++ c.ls) κ κ' → Only (la :: (c.ds ++ c.ls)) κ κ' := fun o => o.mono fun b hb => .tail _ hb
  have hnm : u.nms.length ≤ 100 := by
    cases u
    · show KL.length ≤ 100; decide
    · show KN.length ≤ 100; decide
  refine WS.if <| WT.cmp <| WE.name 19 rfl rfl <| WE.int fun t1 => t_eq <| Wp.truthyBool ?_
  by_cases e0 : wy = 0
  · rw [show (wy == 0) = true by simpa using e0]
    refine pick_t <| WX.cons <| WS.setattr <| WE.binop <| WE.attr <| WE.name 8 rfl rfl <| getPrefix 4 u (by omega) (aD.less (by omega)) hq (Tr.ok_sub hu hok) (by omega) fun p tp hp => WE.str fun t2 => t_addStr (by omega) (by decide) fun t3 => WE.name 8 rfl rfl ?_
    have hup : ∀ v ∈ u.subs, Up W.w.params κ (c.ds ++ c.ls) (0 + 1 + c.ht) v.addr := fun v hv => At.up hcat (fun e he => by simp [he]) (.inl rfl) v (Tr.subs_trans hu hv)
    refine setPrefix (F := c.ds ++ c.ls) (n := 0 + 1 + c.ht) 4 u (by omega) (aD.less (by omega)) hq (by omega) hup (fun e he => by simp [Tr.ds_in hu e he]) (fun _ => WX.nil <| h κ c .rfl hcat (.rfl _) (cntK .rfl)) fun w κ₁ κ' f' hw hwc hi hput hon => WX.nil ?_
    obtain ⟨hws, hwl⟩ := Tr.head_sub hw
    have hwc2 := Tr.subs_trans hu hws
    refine h κ' _ (big hon) (At.put1 (g := fun v => v.setPre (p ++ " ")) (At.chg hwc hcat) nd hwc2 hput ?_ (fun v => by cases v <;> rfl) fun r hr hn => ?_) (Tr.Sm.updD (Tr.Sm.setPre _) c) (cntK hon)
    · cases w with
      | leaf => show ("_prefix" : Str) ∈ KL; decide
      | node => cases hwl
    · obtain ⟨f2, i2, _, _, _, _, _, _, _, wl⟩ := hr.mod hn
      exact ⟨f2, i2, (wl hwl).2 _ _⟩
  rw [show (wy == 0) = false by simpa using e0]
  refine pick_f <| WX.cons <| WS.if <| WT.cmp <| WE.name 19 rfl rfl <| WE.int fun t1 => t_eq <| Wp.truthyBool ?_
  by_cases e1 : wy = 1
  · rw [show (wy == 1) = true by simpa using e1]
    have hm : ("type" : Str) ∈ u.nms := by cases u <;> simp only [Tr.nms, KL, KN] <;> decide
    obtain ⟨ty0, ety⟩ : ∃ ty0, f "type" = some (.int ty0 tty) := ⟨_, ety⟩
    refine pick_t <| WX.cons <| WS.setattr <| WE.binop <| WE.attr <| WE.name 8 rfl rfl <| i.own (ownT hm) ety rfl <| WE.int fun t2 => t_add fun t3 => WE.name 8 rfl rfl ?_
    refine i.set1 (setT hm) hm hnm fun κ' hput => WX.nil <| WX.nil ?_
    have hon : Only (c.ds ++ c.ls) κ κ' := hput.only (by simp [hdF])
    refine h κ' _ (big hon) (At.put1 (g := fun v => v.setTy (ty0 + 3)) hcat nd hu hput hm (fun v => by cases v <;> rfl) fun r hr hn => ?_) (Tr.Sm.updD (Tr.Sm.setTy _) c) (cntK hon)
    obtain ⟨f2, i2, _, _, _, _, _, _, wt, _⟩ := hr.mod hn
    exact ⟨f2, i2, wt _ _⟩
  rw [show (wy == 1) = false by simpa using e1]
  refine pick_f <| WX.cons <| WS.if <| WT.value <| WE.call <| WE.blt rfl rfl rfl (by decide) <| call_with .builtin <| WArgs.cons <| WE.name 8 rfl rfl <| WArgs.cons <| WE.glob rfl (gLeaf _) <| WArgs.nil <| t_isLeaf hq <| Wp.truthyBool ?_
  cases hlf : u.isLeaf with
  | true =>
    have hm : ("value" : Str) ∈ u.nms := by
      cases u with
      | leaf => show ("value" : Str) ∈ KL; decide
      | node => cases hlf
    refine pick_t <| WX.cons <| WS.setattr <| WE.sub <| WE.str fun t2 => WE.call <| WE.glob rfl (gDrawn _) <| call_with (.ref (kDrawn _)) <| WArgs.cons <| WE.name 1 rfl rfl <| WArgs.cons <| WE.name 2 rfl rfl <| WArgs.cons <| WE.int fun t3 => WArgs.nil ?_
    refine we_drawn aD hl hx hne hz hc h1 (by omega) (by decide) fun r tr κ₁ r0 r1 b hc' => t_strItem r0 r1 (by decide) fun t4 => WE.name 8 rfl rfl ?_
    obtain ⟨k0, t0, m0, e0, hk0⟩ := hc
    have hc1 : At W.w.params κ₁ c none := At.off (b.offInt e0) (fun _ _ q => nomatch q) hcat
    have hq1 : At W.w.params κ₁ u q := At.off (b.offInt e0) (fun _ _ q => nomatch q) hq
    obtain ⟨f1, i1, _⟩ := hq1.mod hud
    refine i1.set1 (setT hm) hm hnm fun κ' hput => WX.nil <| WX.nil <| WX.nil ?_
    have hon : Only (la :: (c.ds ++ c.ls)) κ₁ κ' := hput.only (by simp [hdF])
    refine h κ' _ ((Only.ofBut b (.head _)).trans hon) (At.put1 (g := fun v => v.setVal (Txt.item "abc" r)) hc1 nd hu hput hm (fun v => by cases v <;> rfl) fun r hr hn => ?_) (Tr.Sm.updD (Tr.Sm.setVal (itemOk r0 r1)) c) ?_
    · obtain ⟨f2, i2, _, _, _, _, _, _, _, wl⟩ := hr.mod hn
      exact ⟨f2, i2, (wl hlf).1 _ _⟩
    · obtain ⟨k2, t2, m2, e2, hk2⟩ := hc'
      exact ⟨k2, t2, m2, (hput.only (F := c.ds ++ c.ls) (by simp [hdF])) _ _ (by simp [hds, hls]) e2, hk2⟩
  | false =>
    cases u with
    | leaf => cases hlf
    | node a d l ty ch =>
    have hq' := hq
    unfold At at hq'
    obtain ⟨⟨f2, i2, F2⟩, kids⟩ := hq'
    obtain ⟨mm, hli⟩ := F2.li
    have hlF : l ∈ c.ls := Tr.ls_in hu _ (by simp [Tr.ls])
    have hchl := lenL_le ch
    simp only [Tr.pre, List.length_cons] at hul
    refine pick_f <| WX.cons <| WS.if <| WT.cmp <| WE.name 19 rfl rfl <| WE.int fun t1 => t_eq <| Wp.truthyBool ?_
    by_cases e2 : wy = 2
    · rw [show (wy == 2) = true by simpa using e2]
      refine pick_t <| WX.cons <| WS.exprS <| we_reverse2 <| WE.attr <| WE.name 8 rfl rfl <| i2.own (ownN (by decide)) F2.ch rfl ⟨l, _, mm, rfl, hli, by simp; omega, fun m2 => WX.nil <| WX.nil <| WX.nil <| WX.nil ?_⟩
      have er : (((ch.map Tr.addr).map PySem.Value.ref).toArray).reverse = ((ch.reverse.map Tr.addr).map PySem.Value.ref).toArray := by simp
      rw [er]
      have hon : Only (c.ds ++ c.ls) κ (κ.put l (listOf ((ch.reverse.map Tr.addr).map PySem.Value.ref).toArray m2)) := Only.rfl.put (by simp [hlF])
      refine h _ (c.updL l Tr.revG) (big hon) (At.relist hcat nl hu List.reverse Tr.revG (fun _ _ _ _ _ => rfl) (fun v => by cases v <;> rfl) (fun c x hx => List.mem_reverse.mp hx) (fun a b e => by rw [List.map_reverse, List.map_reverse, e]) (fun e => by rw [e]; rfl) rfl) (Tr.Sm.updL Tr.Sm.revG c) (cntK hon)
    rw [show (wy == 2) = false by simpa using e2]
    refine pick_f <| WX.cons <| WS.if <| WT.cmp <| WE.attr <| WE.name 8 rfl rfl <| i2.own (ownN (by decide)) F2.ch rfl <| WE.list <| WArgs.nil ⟨by show 0 ≤ sizeLine; decide, fun e he => ?_⟩
    have l1 := PM.put_fresh he (listOf ([] : List PySem.Value).toArray 0)
    have he' : (κ.put e (listOf ([] : List PySem.Value).toArray 0)) e = _ := PM.put_self ..
    generalize κ.put e (listOf ([] : List PySem.Value).toArray 0) = κ₁ at l1 he'
    have hon1 : Only (c.ds ++ c.ls) κ κ₁ := fun b o _ e => l1 _ _ e
    cases ch with
    | nil => exact neNil (k := 10) (aD.less (by decide)) (l1 _ _ hli) he' <| Wp.truthyBool <| pick_f <| WX.nil <| WX.nil <| WX.nil <| WX.nil <| WX.nil <| h κ₁ c (big hon1) (hcat.le l1) (.rfl _) (cntK hon1)
    | cons c0 r =>
      refine t_neLen (by have := aD.hu; omega) (l1 _ _ hli) he' (by simp) <| Wp.truthyBool <| pick_t <| WX.cons <| WS.exprS <| WE.meth <| WE.sub <| WE.attr <| WE.name 8 rfl rfl <| i2.le l1 |>.own (ownN (by decide)) F2.ch rfl <| WE.int fun t2 => t_item0 (l1 _ _ hli) (x := .ref c0.addr) rfl ?_
      obtain ⟨fc, ic, _⟩ := ((atL_head kids).le l1).own
      have hml : methOk W.w.params c0.cls "remove" 121 = true := by
        cases c0
        · exact mthL' (by decide)
        · exact mthN' (by decide)
      have hmn : ("remove" : Str) ∉ c0.nms := by cases c0 <;> simp only [Tr.nms, KL, KN] <;> decide
      refine ic.method hml hmn <| call_with0 (.ref (keepF (by decide))) ?_
      refine remove_spec (F := c.ds ++ c.ls) (n := 4) (aD.less (by decide)) (hcat.le l1) nd nl (by omega) hu (fun κ₂ c2 h2 sm v hv => ?_) (fun e he => by simp [he]) (fun e he => by simp [he]) fun v κ₂ hon hc2 => WX.nil <| WX.nil <| WX.nil <| WX.nil <| WX.nil ?_
      · have := sm.ht
        exact (At.up h2 (fun e he => by simp [sm.ds e he]) (.inl rfl) (n := 0) v hv).le (by omega)
      · exact h κ₂ _ (big (hon1.trans hon)) hc2 (Tr.Sm.updL Tr.Sm.tailG c) (cntK (hon1.trans hon))
end
end Mine
end
section
open PySem PySem.W PySem.Calls PyProof.Rows PySem.SeqAt
set_option maxRecDepth 100000
set_option maxHeartbeats 1000000
set_option linter.unusedVariables false
namespace Mine
section
variable {W : Wd} {A : Around} {L : Addr} {κ : PM} {Q : Flow → Loc → PM → Prop} {sv told at_ tree down up part node one late k above text shape model copy ways rows others way leaf : Option PySem.Value}
/-- equality and the shape agree -/
theorem law8h (aD : AOk A 40) {w c : Tr} {q : Option Addr} (hw : At W.w.params κ w q) (hc : At W.w.params κ c none) (kw : w.sok) (kc : c.sok) (hhw : w.ht ≤ 3) (hhc : c.ht ≤ 3) (lw : w.pre.length ≤ 40) (lc : c.pre.length ≤ 40) (dj : ∀ a ∈ c.pre, a ∉ w.pre)
    (h : ∀ κ', κ.le κ' → Q .next (LR sv told at_ tree down up part node one late k above text shape (some (.ref w.addr)) (some (.ref c.addr)) ways rows others way leaf) κ') :
    WS W A (envL L) (LR sv told at_ tree down up part node one late k above text shape (some (.ref w.addr)) (some (.ref c.addr)) ways rows others way leaf) (exec (b8 7) (envL L)) κ Q := by
  refine WS.if <| WT.bool <| WAll.or_cons <| WT.cmp <| WE.cmp <| WE.name 15 rfl rfl <| WE.name 14 rfl rfl ?_
  refine eq_spec 4 c w (by omega) (aD.less (by omega)) hc hw kc kw (by omega) (by omega) dj fun κ₁ le1 => ?_
  refine WE.cmp <| WE.call <| WE.glob rfl (gShape _) <| call_with (.ref (kShape _)) <| WArgs.cons <| WE.name 15 rfl rfl <| WArgs.nil ?_
  refine shape_spec 4 c (by omega) (aD.less (by omega)) (hc.le le1) (by omega) fun v2 κ₂ le2 hv2 => ?_
  refine WE.call <| WE.glob rfl (gShape _) <| call_with (.ref (kShape _)) <| WArgs.cons <| WE.name 14 rfl rfl <| WArgs.nil ?_
  refine shape_spec 4 w (by omega) (aD.less (by omega)) (hw.le (le1.trans le2)) (by omega) fun v3 κ₃ le3 hv3 => ?_
  have L3 := (le1.trans le2).trans le3
  refine t_eqData (n := 10) (aD.less (by decide)) (hv2.le le3) hv3 (Tr.shp_shaped kc (by omega)) (Tr.shp_shaped kw (by omega)) <| t_neBool ?_
  rw [show (!(PyData.eqv c.shp w.shp == PyData.eqv c.shp w.shp)) = false by simp]
  refine Wp.truthyBool <| pick_f <| WAll.or_cons <| WT.cmp <| WE.cmp <| WE.name 15 rfl rfl <| WE.name 14 rfl rfl ?_
  refine ne_spec (aD.less (by omega)) (hc.le L3) (hw.le L3) kc kw (by omega) (by omega) dj fun κ₄ le4 => ?_
  refine WE.cmp <| WE.name 15 rfl rfl <| WE.name 14 rfl rfl ?_
  refine eq_spec 4 c w (by omega) (aD.less (by omega)) (hc.le (L3.trans le4)) (hw.le (L3.trans le4)) kc kw (by omega) (by omega) dj fun κ₅ le5 => t_eqBool ?_
  rw [show ((!PyData.eqv c.shp w.shp) == PyData.eqv c.shp w.shp) = false by cases PyData.eqv c.shp w.shp <;> rfl]
  exact Wp.truthyBool <| pick_f <| WAll.or_nil <| pick_f <| WX.nil <| h _ ((L3.trans le4).trans le5)
/-- the tree itself is as it was -/
theorem law8i (aD : AOk A 40) {t : Tr} {ld : Addr} {cd : Nat} {tk : Tok} {shv : PySem.Value} (hat : At W.w.params κ t none) (hok : t.ok) (hht : t.ht ≤ 3) (hlen : t.pre.length ≤ 40) (hld : κ ld = some (listOf (t.pre.map PySem.Value.ref).toArray cd)) (hsv : RdK κ shv t.shp)
    (h : ∀ κ', κ.le κ' → Q .next (LR sv told at_ (some (.ref t.addr)) (some (.ref ld)) up part node one late k above (some (.str t.txt tk)) (some shv) model copy ways rows others way leaf) κ') :
    WS W A (envL L) (LR sv told at_ (some (.ref t.addr)) (some (.ref ld)) up part node one late k above (some (.str t.txt tk)) (some shv) model copy ways rows others way leaf) (exec (b8 8) (envL L)) κ Q := by
  have hk := Tr.ok_sok hok
  refine WS.if <| WT.bool <| WAll.or_cons <| WT.cmp <| WE.call <| WE.blt rfl (gStr _) rfl (by decide) <| call_with .type <| WArgs.cons <| WE.name 3 rfl rfl <| WArgs.nil <| str_spec 4 t (by omega) (aD.less (by omega)) hat hok (by omega) fun κ₁ tk1 le1 => WE.name 12 rfl rfl <| t_neStr ?_
  rw [show (t.txt != t.txt) = false by simp]
  refine Wp.truthyBool <| pick_f <| WAll.or_cons <| WT.cmp <| WE.call <| WE.glob rfl (gShape _) <| call_with (.ref (kShape _)) <| WArgs.cons <| WE.name 3 rfl rfl <| WArgs.nil ?_
  refine shape_spec 4 t (by omega) (aD.less (by omega)) (hat.le le1) (by omega) fun v2 κ₂ le2 hv2 => WE.name 13 rfl rfl ?_
  have L2 := le1.trans le2
  refine t_neData (n := 10) (aD.less (by decide)) hv2 (hsv.le L2) (Tr.shp_shaped hk (by omega)) (Tr.shp_shaped hk (by omega)) ?_
  rw [SeqAt.eqv_refl _ (Tr.shp_lay hk)]
  refine Wp.truthyBool <| pick_f <| WAll.or_cons <| WT.cmp <| WE.call <| WE.glob rfl (gLost _) <| call_with (.ref (kLost _)) <| WArgs.cons <| WE.name 4 rfl rfl <| WArgs.nil ?_
  refine lost_spec (k := 10) (aD.less (by decide)) (L2 _ _ hld) (by omega) (fun a ha => ?_) fun rr mr κ₄ le4 hrr hrr' => WE.list <| WArgs.nil ⟨by show 0 ≤ sizeLine; decide, fun e2 he2 => ?_⟩
  · rw [← Tr.subs_pre] at ha
    obtain ⟨u, mu, rfl⟩ := List.mem_map.mp ha
    obtain ⟨qu, au⟩ := hat.sub u mu
    have := Tr.pre_len_sub mu
    exact ⟨u, qu, rfl, au.le L2, by omega⟩
  · have l5 := PM.put_fresh he2 (listOf ([] : List PySem.Value).toArray 0)
    exact neNil (k := 10) (aD.less (by decide)) (l5 _ _ hrr') (PM.put_self ..) <| Wp.truthyBool <| pick_f <| WAll.or_nil <| pick_f <| WX.nil <| h _ ((L2.trans le4).trans l5)
/-- one turn -/
theorem law8t (aD : AOk A 40) {t w : Tr} {lt la ld lu : Addr} {xs : Array PySem.Value} {m cd cu K : Nat} {ps : Array PySem.Value} {tk : Tok} {shv : PySem.Value} (M : LM W.w.params κ lt ld lu xs m cd cu t ps) (F : Fx xs t ps) (hcn : Cnt κ la K) (hK : K ≤ 800) (n1 : lt ≠ la) (n2 : ld ≠ la) (n3 : lu ≠ la) (hsv : RdK (κ.butL [la]) shv t.shp) (hw : w ∈ t.subs)
    (h : ∀ κ' one copy ways rows others way, But la κ κ' → Cnt κ' la (K + 3) → Q .next (LR sv (some (.ref lt)) (some (.ref la)) (some (.ref t.addr)) (some (.ref ld)) up part node one late k above (some (.str t.txt tk)) (some shv) (some (.ref w.addr)) copy ways rows others way leaf) κ') :
    WX W A (envL L) (LR sv (some (.ref lt)) (some (.ref la)) (some (.ref t.addr)) (some (.ref ld)) up part node one late k above (some (.str t.txt tk)) (some shv) (some (.ref w.addr)) copy ways rows others way leaf) body8 κ Q := by
  obtain ⟨q, aw⟩ := M.tr.sub w hw
  have hokw := Tr.ok_sub hw F.ok
  have hhw : w.ht ≤ 3 := Nat.le_trans (Tr.ht_in hw) F.ht
  have hlw : w.pre.length ≤ 40 := Nat.le_trans (Tr.pre_len_sub hw) F.len
  have hcn0 := hcn
  obtain ⟨kk, tkk, mm, hla, hkk⟩ := hcn
  refine WX.cons <| law8a aD aw hokw hhw hlw fun κ₁ c le1 hc1 new tw => ?_
  have C : Cp w c := ⟨tw, hokw, hhw, hlw, fun a ha hb => by
    obtain ⟨_, _, e⟩ := aw.has.2.2 a hb
    rw [new.fa a ha] at e; cases e⟩
  refine WX.cons <| law8b aD (aw.le le1) hc1 hhw hlw C.lenc (le1 _ _ M.tab) F.tri F.full fun κ₂ lway z1 z2 r1 o1 r2 o2 m1 m2 m3 m4 le2 g1 g2 g3 g4 g5 g6 g7 => ?_
  refine WX.cons <| law8c aD C (aw.le (le1.trans le2)) (hc1.le le2) g1 g2 g3 g4 g5 g6 g7 fun κ₃ rws ots le3 => ?_
  have L3 := (le1.trans le2).trans le3
  refine WX.cons <| law8d aD C (aw.le L3) (hc1.le (le2.trans le3)) fun κ₄ le4 => ?_
  have L4 := L3.trans le4
  have hc4 := hc1.le ((le2.trans le3).trans le4)
  refine WX.cons <| law8e aD (le4 _ _ (le3 _ _ g1)) (le4 _ _ (le3 _ _ g2)) ?_
  have M4 := M.le L4
  refine WX.cons <| law8f aD C.lenc (le4 _ _ (le3 _ _ g4)) M4.lt F.isI F.pos F.small (hcn0.but L4) (by omega) n1 fun κ₅ u wy twy hu w0 w1 b5 hcn5 => ?_
  have hds : la ∉ c.ds := fun e => by rw [new.fd _ e] at hla; cases hla
  have hls : la ∉ c.ls := fun e => by rw [new.fl _ e] at hla; cases hla
  have M5 := M4.but b5 (hcn0.but L4) n1 n2 n3
  have hc5 : At W.w.params κ₅ c none := At.off (b5.offInt (L4 _ _ hla)) (fun _ _ q => nomatch q) hc4
  refine WX.cons <| law8g aD hc5 C.okc C.htc C.lenc new.ds new.ls hu M5.lt F.isI F.pos F.small hcn5 (by omega) n1 hds hls fun κ₆ c' on6 hc6 sm hcn6 => ?_
  have B6 : But la κ κ₆ := fun b o hb e => on6 b o (by
    simp only [List.mem_cons, List.mem_append, not_or]
    exact ⟨hb, (fun z => by rw [new.fd _ z] at e; cases e), (fun z => by rw [new.fl _ z] at e; cases e)⟩) (b5 _ _ hb (L4 _ _ e))
  have hw6 : At W.w.params κ₆ w q := At.off (B6.offInt hla) (fun _ _ q => nomatch q) aw
  have ht6 := sm.ht
  have hl6 := sm.len
  have htc := C.htc
  have hlc := C.lenc
  have ea : c'.addr = c.addr := sm.ad
  rw [← ea]
  refine WX.cons <| law8h aD hw6 hc6 (Tr.ok_sok hokw) (sm.ok (Tr.ok_sok C.okc)) hhw (by omega) hlw (by omega) (fun a ha => C.dj a (sm.pre a ha)) fun κ₇ le7 => ?_
  have M7 := (M.but B6 hcn0 n1 n2 n3).le le7
  have hsv7 : RdK κ₇ shv t.shp := hsv.le fun b o e => by
    obtain ⟨e1, e2⟩ := PM.butL_get e
    exact le7 _ _ (B6 _ _ (by simpa using e1) e2)
  refine WX.cons <| law8i aD M7.tr F.ok F.ht F.len M7.ld hsv7 fun κ₈ le8 => WX.nil ?_
  exact h κ₈ _ _ _ _ _ _ ((B6.le le7).le le8) ((hcn6.but le7).but le8)
/-- for model in (tree, part) -/
theorem law8 (aD : AOk A 40) {t u : Tr} {lt la ld lu : Addr} {xs : Array PySem.Value} {m cd cu K : Nat} {ps : Array PySem.Value} {tk : Tok} {shv : PySem.Value} (M : LM W.w.params κ lt ld lu xs m cd cu t ps) (F : Fx xs t ps) (hcn : Cnt κ la K) (hK : K ≤ 700) (n1 : lt ≠ la) (n2 : ld ≠ la) (n3 : lu ≠ la) (hsv : RdK (κ.butL [la]) shv t.shp) (hu : u ∈ t.subs)
    (h : ∀ κ' one model copy ways rows others way, But la κ κ' → Q .next (LR sv (some (.ref lt)) (some (.ref la)) (some (.ref t.addr)) (some (.ref ld)) up (some (.ref u.addr)) node one late k above (some (.str t.txt tk)) (some shv) model copy ways rows others way leaf) κ') :
    WS W A (envL L) (LR sv (some (.ref lt)) (some (.ref la)) (some (.ref t.addr)) (some (.ref ld)) up (some (.ref u.addr)) node one late k above (some (.str t.txt tk)) (some shv) model copy ways rows others way leaf) (exec (stAt 8) (envL L)) κ Q := by
  refine ws_for <| WE.tuple <| WArgs.cons <| WE.name 3 rfl rfl <| WArgs.cons <| WE.name 6 rfl rfl <| WArgs.nil ⟨by show 2 ≤ sizeLine; decide, fun z hz => ?_⟩
  have l0 := PM.put_fresh hz (tupOf [PySem.Value.ref t.addr, .ref u.addr].toArray)
  have hcn0 := hcn
  obtain ⟨kk, tkk, mm, hla, hkk⟩ := hcn
  have hzl : z ≠ la := fun e => by subst e; rw [hz] at hla; cases hla
  refine ⟨2, fun i v => (#[PySem.Value.ref t.addr, .ref u.addr] : Array PySem.Value)[i]? = some v, [z], fun _ => tupOf #[PySem.Value.ref t.addr, .ref u.addr],
    fun i ρ κ' => (∃ one model copy ways rows others way, ρ = LR sv (some (.ref lt)) (some (.ref la)) (some (.ref t.addr)) (some (.ref ld)) up (some (.ref u.addr)) node one late k above (some (.str t.txt tk)) (some shv) model copy ways rows others way leaf) ∧ But la κ κ' ∧ Cnt κ' la (K + 3 * i) ∧ κ' z = some (tupOf #[PySem.Value.ref t.addr, .ref u.addr]), ?_⟩
  refine ⟨.tuple aD.hh z _, ⟨⟨one, model, copy, ways, rows, others, way, rfl⟩, But.ofLe l0, hcn0.but l0, PM.put_self ..⟩, fun i ρ κ' hI b hb => by rw [List.mem_singleton.mp hb]; exact hI.2.2.2, ?_, fun ρ κ' hI => ?_⟩
  · rintro i v ρ κ' hi hv ⟨⟨o1, o2, o3, o4, o5, o6, o7, rfl⟩, hB, hC, hz'⟩
    refine WS.bindN 14 rfl (.inl rfl) ?_
    have M' := M.but hB hcn0 n1 n2 n3
    have hsv' : RdK (κ'.butL [la]) shv t.shp := hsv.le fun b o e => by
      obtain ⟨e1, e2⟩ := PM.butL_get e
      exact PM.butL_some (hB _ _ (by simpa using e1) e2) e1
    obtain ⟨w, hw, rfl⟩ : ∃ w, w ∈ t.subs ∧ v = PySem.Value.ref w.addr := by
      match i, hi, hv with
      | 0, _, hv => exact ⟨t, Tr.self_subs t, by simpa using hv.symm⟩
      | 1, _, hv => exact ⟨u, hu, by simpa using hv.symm⟩
    exact law8t aD M' F hC (by omega) n1 n2 n3 hsv' hw fun κ₂ a1 a2 a3 a4 a5 a6 hB2 hC2 => ⟨⟨a1, _, a2, a3, a4, a5, a6, rfl⟩, hB.trans hB2, hC2, hB2 _ _ hzl hz'⟩
  · obtain ⟨⟨o1, o2, o3, o4, o5, o6, o7, rfl⟩, hB, _, _⟩ := hI
    exact h κ' _ _ _ _ _ _ _ hB
end
end Mine
end
section
open PySem PySem.W PySem.Calls PyProof.Rows PySem.SeqAt
set_option maxRecDepth 100000
set_option maxHeartbeats 1000000
set_option linter.unusedVariables false
namespace Mine
section
variable {W : Wd} {A : Around} {L : Addr} {κ : PM} {Q : Flow → Loc → PM → Prop} {sv told at_ tree down up part node one late k above text shape model copy ways rows others way leaf : Option PySem.Value}
/-- leaf = Leaf(1, text) -/
theorem law9 (aD : AOk A 40) {x : Str} {tk : Tok}
    (h : ∀ κ' a d f, κ.le κ' → κ a = none → Inst W.w.params κ' 376 KL a d f → Q .next (LR sv told at_ tree down up part node one late k above (some (.str x tk)) shape model copy ways rows others way (some (.ref a))) κ') :
    WS W A (envL L) (LR sv told at_ tree down up part node one late k above (some (.str x tk)) shape model copy ways rows others way leaf) (exec (stAt 9) (envL L)) κ Q :=
  WS.assign 20 rfl (.inl rfl) <| WE.call <| WE.glob rfl (gLeaf _) <| call_with (.ref (kLeaf _)) <| WArgs.cons <| WE.int fun t1 => WArgs.cons <| WE.name 12 rfl rfl <| WArgs.nil <| Wp.ofCd <| leaf_call0 (n := 10) (aD.less (by decide)) (by decide) (by decide) h
/-- a leaf is no node -/
theorem law10 (aD : AOk A 40) {t : Tr} {a d : Addr} {f : Str → Option PySem.Value} (hat : At W.w.params κ t none) (hlf : t.isLeaf = false) (i : Inst W.w.params κ 376 KL a d f) (hne : a ≠ t.addr)
    (h : Q (.ret (.bool true)) (LR sv told at_ (some (.ref t.addr)) down up part node one late k above text shape model copy ways rows others way (some (.ref a))) κ) :
    WS W A (envL L) (LR sv told at_ (some (.ref t.addr)) down up part node one late k above text shape model copy ways rows others way (some (.ref a))) (exec (stAt 10) (envL L)) κ Q := by
  obtain ⟨g, j, _⟩ := hat.own
  have hc : t.cls = 296 := by cases t with
    | leaf => cases hlf
    | node => rfl
  have n1 : (Tr.leaf a d 1 "" "").cls ≠ t.cls := by rw [hc]; show (376 : Addr) ≠ 296; decide
  have n2 : t.cls ≠ (Tr.leaf a d 1 "" "").cls := Ne.symm n1
  have hs : subIn (KF W.w.params) (.ref t.cls) (.ref 376) = some false := by rw [hc]; exact subNL _
  refine WS.ret <| WE.and <| WE.unary <| WE.cmp <| WE.name 20 rfl rfl <| WE.name 3 rfl rfl ?_
  refine rc_diff (by have := aD.hu; omega) i j (eqL _) (eqT _ t) n1 hs hne ?_
  refine ne56 (t := .leaf a d 1 "" "") (u := t) (n := 10) (aD.less (by decide)) i j n1 ⟨rfl, .rfl, ?_⟩
  refine ne56 (t := t) (u := .leaf a d 1 "" "") (n := 10) (aD.less (by decide)) j i n2 ⟨rfl, .rfl, ?_⟩
  refine t_notBool <| Wp.truthyBool <| pick_t <| WE.and1 <| WE.cmp <| WE.name 20 rfl rfl <| WE.name 3 rfl rfl ?_
  have a1 : AOk A.in1 20 := (aD.less (m := 21) (by decide)).in1
  refine rcne_diff (by have := a1.hu; omega) i j (eqL _) (neL _) (eqT _ t) (neT _ t) n1 hs hne ?_
  refine ne56 (t := .leaf a d 1 "" "") (u := t) (n := 10) (a1.less (by decide)) i j n1 ⟨rfl, .rfl, ?_⟩
  exact ne56 (t := t) (u := .leaf a d 1 "" "") (n := 10) (a1.less (by decide)) j i n2 ⟨rfl, .rfl, h⟩
end
/-- law(script) -/
theorem law_spec {W : Wd} {A : Around} {κ : PM} {Q : PySem.Value → PM → Prop} {sl : Addr} {zs : Array PySem.Value} {ms : Nat} (a : AOk A 41) (hso : RdO W κ sl (listOf zs ms)) (hs : 0 < zs.size → κ sl = some (listOf zs ms)) (hx : Ints zs) (hz : zs.size ≤ 1000) (h201 : κ 201 = some (tabObj #[]))
    (h : ∀ κ' ps, (κ.butL [201]).le κ' → κ' 201 = some (tabObj ps) → TriplesOk ps.toList → Q (.bool true) κ') : Wp W A T1 (PySem.call (.ref 417) [.ref sl]) κ Q := by
  refine Wp.ofCd (Cd.defC rec417 a rfl (LR (some (.ref sl)) none none none none none none none none none none none none none none none none none none none none) rfl (by kernel_rfl) rfl (by decide) fun L => ?_)
  have aD : AOk (A.deeper (callEnvC rec417.fd L 417)) 40 := a.deeper _
  generalize A.deeper (callEnvC rec417.fd L 417) = AD at aD
  have a20 : AOk AD 20 := aD.less (by decide)
  refine WX.cons <| law0 aD.hh hso hs hx hz fun κ₁ lt la xs m t0 le1 hlt hxs hpos hsm hla hla0 n1 => ?_
  refine WX.cons <| law1 a20 hlt hxs hpos hsm hla n1 fun κ₂ t T => ?_
  have h201' : κ₁ 201 = some (tabObj #[]) := le1 _ _ h201
  have l201 : la ≠ 201 := fun e => by rw [e, h201] at hla0; cases hla0
  have h201₂ : κ₂ 201 = some (tabObj #[]) := T.but _ _ (Ne.symm l201) h201'
  have hsz : t.pre.length ≤ 40 := T.sz
  obtain ⟨k', t', m', hla2, hk'⟩ := T.cnt
  have hk' : k' ≤ 107 := Nat.le_trans hk' (by show 0 + costM 3 ≤ 107; decide)
  refine WX.cons <| law2 a20 T.at_ (by omega) (T.top rfl) h201₂ fun κ₃ ld lu cd cu ps le3 hld0 hlu0 hld hlu htab htri hfull => ?_
  have n2 : ld ≠ la := fun e => by rw [e, hla2] at hld0; cases hld0
  have n3 : lu ≠ la := fun e => by rw [e, hla2] at hlu0; cases hlu0
  have keep3 : ∀ u o, u ≠ 201 → κ₂ u = some o → κ₃ u = some o := fun u o hu e => le3 _ _ (PM.butL_some e (by simpa using hu))
  have lt201 : lt ≠ 201 := fun e => by rw [e, h201'] at hlt; cases hlt
  have M : LM W.w.params κ₃ lt ld lu xs m cd cu t ps := ⟨keep3 _ _ lt201 (T.but _ _ n1 hlt), hld, hlu, (T.at_.kp (kp_tab h201₂)).le le3, htab⟩
  have ndp : t.pre.Nodup := pre_nodup T.at_ T.new.ds
  have F : Fx xs t ps := ⟨hxs, hpos, hsm, T.ok, T.ht, hsz, ndp, htri, hfull⟩
  have hc3 : Cnt κ₃ la 107 := ⟨k', t', m', keep3 _ _ l201 hla2, hk'⟩
  refine WX.cons <| law3 a20 M F hc3 (by decide) n1 n2 n3 fun κ₄ u hu b4 hc4 M4 => ?_
  refine WX.cons <| law4 a20 M4.tr hu hsz T.ht M4.tab htri hfull fun κ₅ nd5 le5 => ?_
  have M5 := M4.le le5
  refine WX.cons <| law5 a20 M5.tr hsz M5.ld M5.lu fun κ₆ ll cl ts le6 hll hts => ?_
  have M6 := M5.le le6
  refine WX.cons <| law6 a20 M6.tr ndp hsz M6.ld hll hts fun κ₇ nd7 kk7 ab7 le7 => ?_
  have M7 := M6.le le7
  refine WX.cons <| law7 aD M7.tr T.ok T.ht hsz (((hc4.but le5).but le6).but le7) fun κ₈ tk shv le8 hsv => ?_
  have M8 := M7.le le8
  refine WX.cons <| law8 aD M8 F ((((hc4.but le5).but le6).but le7).but le8) (by decide) n1 n2 n3 hsv hu fun κ₉ o1 o2 o3 o4 o5 o6 o7 b9 => ?_
  have M9 := M8.but b9 ((((hc4.but le5).but le6).but le7).but le8) n1 n2 n3
  refine WX.cons <| law9 aD fun κ₁₀ x dx fx le10 hx0 hi => ?_
  have M10 := M9.le le10
  have hne : x ≠ t.addr := fun e => by
    obtain ⟨_, _, e2⟩ := M9.tr.has.2.2 t.addr (by rw [Tr.pre_eq]; exact .head _)
    rw [e, e2] at hx0; cases hx0
  refine WX.cons <| law10 aD M10.tr (T.top rfl) hi hne ?_
  refine h κ₁₀ ps (fun b o e => ?_) M10.tab htri
  obtain ⟨e1, e2⟩ := PM.butL_get e
  have e1 : b ≠ 201 := by simpa using e1
  have hbl : b ≠ la := fun z => by rw [z, hla0] at e2; cases e2
  exact le10 _ _ (b9 _ _ hbl (le8 _ _ (le7 _ _ (le6 _ _ (le5 _ _ (b4 _ _ hbl (keep3 _ _ e1 (T.but _ _ hbl (le1 _ _ e2)))))))))
end Mine
end
section
open PySem PySem.W PySem.Calls PyProof.Rows PySem.SeqAt
set_option maxRecDepth 100000
set_option maxHeartbeats 1000000
set_option linter.unusedVariables false
namespace Mine
/-- what the law's call begins with, but X -/
noncomputable def wdOf (w : World) (h : Heap) (X : List Addr) (mg mb : Str → Option PySem.Value) (g : h.Ns mainGlobals mg) (b : h.Ns builtinsNs mb) (hb : ∀ x : Str, x ≠ "__name__" → mb x = bootBuiltins x) (nl : h.NoLimit)
    (bm : ∃ bm ob, mg "__builtins__" = some (.ref bm) ∧ bm ≠ builtinsNs ∧ h.get? bm = some ob ∧ ob.cls = .type "module" ∧ ob.dict = some builtinsNs ∧ ob.data = .plain) (KX : (KF w.params).In h)
    (hXK : ∀ a ∈ X, (KF w.params).lookup a = none) (hX : ∀ a ∈ X, ∀ o, h.get? a = some o → (∀ es n, o.data ≠ .dict es n) ∧ o.data ≠ .plain) : Wd where
  w := w
  kB := fun a => if a ∈ X then none else h.get? a
  K := fun a o e => by
    have : a ∉ X := fun m => by rw [hXK a m] at e; cases e
    rw [if_neg this]; exact KX a o e
  mb := mb
  blt := by
    obtain ⟨o, es, ep, h1, h2, h3, h4⟩ := b
    exact ⟨o, es, ep, by rw [if_neg fun m => (hX _ m o h1).1 _ _ h2]; exact h1, h2, h3, h4⟩
  mbs := hb
  nolimit := by
    obtain ⟨mc, ⟨o, es, ep, h1, h2, h3, h4⟩, h5⟩ := nl
    exact ⟨o, es, ep, by rw [if_neg fun m => (hX _ m o h1).1 _ _ h2]; exact h1, h2, h3, by rw [h4]; exact h5⟩
  top := h.objs.size
  low := fun a o e => by
    by_cases m : a ∈ X
    · rw [if_pos m] at e; cases e
    · rw [if_neg m] at e; exact Heap.lt_size e
  bmod := by
    obtain ⟨bm, ob, e1, e2, e3, e4, e5, e6⟩ := bm
    have hn : nsIn (KF w.params) mainGlobals "__builtins__" = some (some (.ref 4)) := by kernel_rfl
    have := mg_of KX g hn
    rw [e1] at this; cases this
    exact ⟨4, ob, hn, e2, by rw [if_neg fun m => (hX _ m ob e3).2 e6]; exact e3, e4, e5, e6⟩
theorem noLists (P : Params) : ((KF P).all fun q => match q.2.cls, q.2.data with
  | .type "list", .seq xs _ => xs.isEmpty
  | _, _ => true) = true := by kernel_rfl
theorem no201 (P : Params) : (KF P).lookup 201 = none := by kernel_rfl
theorem hd205 (P : Params) : codeHdIn (KF P) 205 201 = true := by kernel_rfl
theorem law417 (P : Params) : nsIn (KF P) mainGlobals "law" = some (some (.ref 417)) := by kernel_rfl
theorem lookup_in {K : Frag} {a : Addr} {o : Obj} (h : K.lookup a = some o) : (a, o) ∈ K := by
  induction K with
  | nil => cases h
  | cons p r ih =>
    rw [List.lookup_cons] at h
    split at h
    · rename_i e
      cases h
      have : a = p.1 := by simpa using e
      subst this; exact .head _
    · exact .tail _ (ih h)
/-- the parts of memory -/
def inX (h : Heap) (X : List Addr) : PM := fun a => if a ∈ X then h.get? a else none
theorem fin_core {w : World} {s : Shared} {mg mb : Str → Option PySem.Value} (g : s.heap.Ns mainGlobals mg) (b : s.heap.Ns builtinsNs mb) (hb : ∀ x : Str, x ≠ "__name__" → mb x = bootBuiltins x) (nl : s.heap.NoLimit)
    (bm : ∃ bm ob, mg "__builtins__" = some (.ref bm) ∧ bm ≠ builtinsNs ∧ s.heap.get? bm = some ob ∧ ob.cls = .type "module" ∧ ob.dict = some builtinsNs ∧ ob.data = .plain) (KX : (KF w.params).In s.heap)
    (h201 : s.heap.get? 201 = some (tabObj #[])) {sl : Addr} {vs : List PySem.Value} (hs : s.heap.get? sl = some (listOf vs.toArray 0)) (hi : Ints vs.toArray) (hz : vs.length ≤ 1000) {A : Around} (hA : AOk A 41)
    {Q : PySem.Value → Shared → Prop} {E : PySem.Value → Shared → Prop}
    (h : ∀ s' ps, (∀ a o, a ≠ 201 → s.heap.get? a = some o → s'.heap.get? a = some o) → s'.heap.get? 201 = some (tabObj ps) → Fwd s s' → Q (.bool true) s') :
    wpAny (model PW w) A (PySem.call (.ref 417) [.ref sl]) Q E s := by
  have n201 : sl ≠ 201 := fun e => by rw [e, h201] at hs; simp at hs
  have run : ∀ X : List Addr, 201 ∈ X → (∀ a ∈ X, a = 201 ∨ a = sl) → (∀ a ∈ X, (KF w.params).lookup a = none) → (sl ∈ X ∨ ((KF w.params).lookup sl = some (listOf vs.toArray 0) ∧ vs = [])) → wpAny (model PW w) A (PySem.call (.ref 417) [.ref sl]) Q E s := by
    intro X m201 hX hXK hsl
    have hXd : ∀ a ∈ X, ∀ o, s.heap.get? a = some o → (∀ es n, o.data ≠ .dict es n) ∧ o.data ≠ .plain := fun a ha o e => by
      rcases hX a ha with rfl | rfl
      · rw [h201] at e; cases e; exact ⟨fun _ _ => by simp, by simp⟩
      · rw [hs] at e; cases e; exact ⟨fun _ _ => by simp, by simp⟩
    let W := wdOf w s.heap X mg mb g b hb nl bm KX hXK hXd
    have S : Sat (inX s.heap X) W.kB s.heap := by
      refine ⟨fun a o e => ?_, fun a o e => ?_, fun a o e => ?_⟩
      · unfold inX at e; split at e
        · exact e
        · cases e
      · show s.heap.get? a = some o
        have e' : (if a ∈ X then none else s.heap.get? a) = some o := e
        split at e'
        · cases e'
        · exact e'
      · show (if a ∈ X then none else s.heap.get? a) = none
        unfold inX at e
        split at e
        · rename_i m; rw [if_pos m]
        · cases e
    have k201 : inX s.heap X 201 = some (tabObj #[]) := by unfold inX; rw [if_pos m201]; exact h201
    have kO : RdO W (inX s.heap X) sl (listOf vs.toArray 0) := by
      rcases hsl with m | ⟨e, _⟩
      · exact .inl (by unfold inX; rw [if_pos m]; exact hs)
      · exact .inr e
    have kS : 0 < vs.toArray.size → inX s.heap X sl = some (listOf vs.toArray 0) := fun hp => by
      rcases hsl with m | ⟨_, e⟩
      · unfold inX; rw [if_pos m]; exact hs
      · rw [e] at hp; simp at hp
    have main := law_spec (W := W) hA kO kS hi (by simpa using hz) k201 (Q := fun v κ' => v = .bool true ∧ ((inX s.heap X).butL [201]).le κ' ∧ ∃ ps, κ' 201 = some (tabObj ps)) fun κ' ps le e _ => ⟨rfl, le, ps, e⟩
    refine main.seq (R := W.kB) (fun _ _ e => e) trivial S fun v κ' s' S' F ⟨hv, le, ps, hps⟩ => ?_
    subst hv
    refine h s' ps (fun a o ha e => ?_) (S'.k _ _ hps) F
    by_cases m : a ∈ X
    · exact S'.k _ _ (le _ _ (PM.butL_some (by unfold inX; rw [if_pos m]; exact e) (by simpa using ha)))
    · exact S'.r _ _ (show (if a ∈ X then none else s.heap.get? a) = some o by rw [if_neg m]; exact e)
  cases hk : (KF w.params).lookup sl with
  | none =>
    refine run [201, sl] (.head _) (fun a ha => by simpa using ha) (fun a ha => ?_) (.inl (by simp))
    rcases (by simpa using ha : a = 201 ∨ a = sl) with rfl | rfl
    · exact no201 _
    · exact hk
  | some o =>
    have ho := KX _ _ hk
    rw [hs] at ho; cases ho
    refine run [201] (.head _) (fun a ha => .inl (by simpa using ha)) (fun a ha => by rw [List.mem_singleton.mp ha]; exact no201 _) (.inr ⟨hk, ?_⟩)
    have := List.all_eq_true.mp (noLists w.params) _ (lookup_in hk)
    simpa using this
end Mine
end
section
open PySem PySem.W PySem.Calls PyProof.Rows PySem.SeqAt
set_option maxRecDepth 100000
set_option maxHeartbeats 1000000
set_option linter.unusedVariables false
namespace Mine
abbrev RW2 : RowW := PySem.Challenge.rw_ag5006_02.row.toRowW
theorem ints_arr {vs : List PySem.Value} {ns : List Int} (h : IntsAre vs ns) : Ints vs.toArray := fun i hi => by
  have hl := ints_len h
  have hi' : i < ns.length := by simpa [← hl] using hi
  obtain ⟨t, e⟩ := ints_get h (List.getElem?_eq_getElem hi')
  exact ⟨_, t, by rw [List.getElem?_toArray]; exact e⟩
theorem callerRoom : AOk callerA 41 := ⟨rfl, by show 1 + claimMargin + 41 < 690; decide, by show 4 + 50 * 41 < cLine; decide⟩
theorem fin_walk {p : Program} {loose : List Str} {mean : ExcName → Option PySem.Value} {w : World} {s₀ s₁ : Shared} {mg mb : Str → Option PySem.Value} (T : Top p loose mean mg mb s₁.heap) (KX : (KF w.params).In s₁.heap) (h201 : s₁.heap.get? 201 = some (tabObj #[])) (hg : s₁.gens = #[])
    {a : Addr} (hmg : mg "law" = some (.ref a)) {args : List WData} {vals : List PySem.Value} {as : List Addr} (hpre : RW2.claim.pre args = true) (hlay : WData.layableAll args = true)
    (hrd : ReadsAllW RW2.records (classAt s₀.heap) s₁.heap vals args as) (hwl : WellAll w.params s₁.heap vals args) (hlo : ∀ a ∈ as, (a == sysModules) = false) :
    wpAny (model RW2.prog w) callerA (PySem.call (.ref a) vals) (fun v s' => GoodWG RW2.claim (classAt s₀.heap) (ExcName.means s₀.heap) args s₁ (.ok (.ret v)) s')
        (fun e s' => GoodWG RW2.claim (classAt s₀.heap) (ExcName.means s₀.heap) args s₁ (.error e) s') s₁ := by
  have ha := mg_of KX T.g (law417 w.params)
  rw [hmg] at ha; cases ha
  wrow_args hpre hlay hrd hwl hlo
  rename_i ns _ _ _ _ _ _ _ sl vs _ hL _ hw _ hI _ hlen _
  simp only [ofPy] at hw
  cases hw with
  | list hobj hws =>
  rename_i vs' 
  obtain ⟨o, ho, _, n, hd⟩ := hL
  rw [hobj] at ho; cases ho
  have e : vs' = vs := by simp at hd; exact hd.1
  subst e
  have hlen2 := ints_len hI
  refine fin_core T.g T.b T.builtins T.nolimit T.bmain KX h201 hobj (ints_arr hI) (by omega) callerRoom fun s' ps hk hps F => ?_
  refine ⟨.inl ⟨.bool true, .bool true, [], rfl, fun cls => rfl, ?_, (by wrow_post), fun _ => ⟨List.nodup_nil, fun a ha => nomatch ha⟩⟩, ⟨fun b o e => ?_, fun b o e => ?_⟩, F.os, F.bare (.of_eq hg)⟩
  · exact .bool true
  · by_cases q : b = 201
    · subst q
      rw [h201] at e; cases e
      have hd5 := codeHd_of_K KX (hd205 w.params)
      exact .inr (.inl ⟨(hd5.tab h201).isCodeTable, rfl, #[], ps, rfl, by rw [Array.empty_append]; exact hps⟩)
    · exact .inl (hk b o q e)
  · by_cases q : b = 201
    · subst q; exact ⟨_, hps⟩
    · exact ⟨o, hk b o q e⟩
end Mine
end
open PySem PySem.W PyProof.Rows
set_option maxRecDepth 100000 in
set_option maxHeartbeats 8000000 in
theorem PySem.Challenge.cw_ag5006_02_holds : PySem.Challenge.rw_ag5006_02.Holds := by
  w_on
  o_law
  o_head (kmHook Mine.hd.heap_39 [2, 3, 15, 17, 18, 20, 21, 29, 30, 31, 32, 33, 36, 38, 39, 41, 42, 50, 52, 53, 55, 56, 57, 59, 60, 62, 63, 64, 65, 67,     68, 70, 71, 72, 74, 75, 77, 78, 79, 81, 82, 84, 85, 86, 88, 89, 91, 92, 93, 95, 96, 98, 99, 100, 102, 103, 105, 106,     107, 109, 110, 112, 113, 114, 115, 117, 118, 120, 121, 122, 124, 125, 127, 128, 129, 130, 132, 133, 135, 136, 137,     138, 140, 141, 143, 144, 145, 147, 148, 150, 151, 152, 154, 155, 157, 158, 159, 160, 161, 162, 163, 166, 173, 174,     176, 177, 179, 180, 181, 183, 184, 186, 187, 188, 190, 191, 193, 194, 195, 198, 199, 200, 202, 203, 205, 206, 207,     209, 210, 212, 213, 214, 216, 217, 219, 220, 223, 225, 226, 228, 229, 230, 231, 233, 234, 236, 237, 238, 240, 241,     243, 244, 245, 247, 248, 250, 251, 252, 254, 255, 257, 258, 259, 261, 262, 264, 265, 266, 268, 269, 271, 272, 273,     275, 276, 278, 279, 280, 282, 283, 285, 286, 287, 289, 290, 292, 293, 294, 295, 296, 299, 306, 307, 308, 310, 311,     313, 314, 315, 317, 318, 320, 321, 322, 324, 325, 327, 328, 329, 331, 332, 334, 335, 336, 338, 339, 341, 342, 343,     345, 346, 348, 349, 350, 352, 353, 355, 356, 357, 359, 360, 362, 363, 366, 368, 369, 371, 372, 373, 374, 375, 376,     379, 381, 382, 384, 385, 386, 389, 390, 391, 393, 394, 396, 397, 398, 401, 402, 403, 406, 407, 408, 411, 412, 413,     416, 417] (fun _ => by kernel_rfl) [201])
  (case hw => w_witness2)
  intro w s₀ s₁ mg mb G Y fa o pm cd doc dV kV ho hd hcd hD hmg hg args vals as hpre hlay hrd hwl hlo
  exact Mine.fin_walk G.T (km_in_of Y) (km_tabs_of Y 201 (.head _)) hg hmg hpre hlay hrd hwl hlo
