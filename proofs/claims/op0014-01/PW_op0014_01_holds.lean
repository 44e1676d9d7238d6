import PyProof.Rows.All
import Wide.All
import OpenK.AllK
import Wide.FinOn
import KE.KxBytes
import KE.KxDecode
import KE.KRevSl
import PySem.Challenge.RW_op0014_01
set_option Elab.async false
section
open PySem PySem.W PyProof.Rows
set_option Elab.async false
set_option maxRecDepth 100000
set_option maxHeartbeats 8000000
namespace Mine
theorem said : PySem.Challenge.rw_op0014_01.wellSaid = true := by
  rw [PySem.W.Fast.te9446332074065402090]
  kernel_rfl
def view : Program := { PySem.Challenge.pw_op0014_01 with main := { PySem.Challenge.pw_op0014_01.main with body := [0, 2, 3, 4, 5, 6, 8, 11, 12, 14, 15, 16, 17, 18, 19].filterMap fun i => PySem.Challenge.pw_op0014_01.main.body[i]? } }
def loose : List Str := ["_tuplegetter", "Mismatch", "_Mismatch", "_deduplicate"]
set_option hygiene false in
local macro_rules | `(tactic| o_law) => `(tactic| refine holds_law Mine.said fun said => ?_)
set_option hygiene false in
local macro_rules | `(tactic| o_head $H) => `(tactic| (refine holds_open (q := Mine.view) (loose := Mine.loose) (Xt := fun s => xlAt Mine.view [] s && recOk (RowW.records (OpenRow.toRowW PySem.Challenge.rw_op0014_01.row)) s) (XP := XL Mine.view []) (Yf := Hook.obs $H) (Ya := Hook.val $H) (YP := Hook.says $H) (N := 3748) ?hl (Hook.of $H) (Hook.keeps $H) (fun s e => xl_of s (Bool.and_eq_true_iff.mp e).1) XL.keeps (by rfl) (by rfl) (by rfl) (fun s e => recFacts_of (Bool.and_eq_true_iff.mp e).2) (by rfl) (by first | assumption | decide +kernel) (by decide +kernel) ⟨rfl, rfl, rfl, rfl, rfl, by decide +kernel⟩ ?hw ?hc; (case hl => intro w; delta openEnds fencedOpening topFrom openGood; rw [PySem.W.Fast.te10274390034422433532, PySem.W.Fast.te1435165496053646825, PySem.W.Fast.te14289696077712309145, PySem.W.Fast.te14082659384304107361, PySem.W.Fast.te8920871248978507458, PySem.W.Fast.te5923862056798008813, PySem.W.Fast.te3247288618530077131, PySem.W.Fast.te821141287760084731, PySem.W.Fast.te4187177175401517315, PySem.W.Fast.te14364793385576792824]; kernel_rfl)))
open_top hd for PySem.Challenge.rw_op0014_01
end Mine
end

section
open PySem PySem.W PyProof.Rows PySem.Calls
set_option Elab.async false
set_option autoImplicit false
set_option linter.unusedVariables false
namespace Mine

/-! ## heaps that stay -/
def frS (frs : List Env) : List Addr := frs.filterMap (·.frame)

def SameF (S : List Addr) (h h' : Heap) : Prop :=
  ∀ a o, h.get? a = some o → (a ∉ S → h'.get? a = some o) ∧ ∃ sl, h'.get? a = some { o with slots := sl }

theorem SameF.of_all {S : List Addr} {h h' : Heap} (k : ∀ a o, h.get? a = some o → h'.get? a = some o) : SameF S h h' :=
  fun a o e => ⟨fun _ => k a o e, o.slots, k a o e⟩
theorem SameF.refl (S : List Addr) (h : Heap) : SameF S h h := .of_all fun _ _ e => e
theorem SameF.trans {S : List Addr} {h₁ h₂ h₃ : Heap} (x : SameF S h₁ h₂) (y : SameF S h₂ h₃) : SameF S h₁ h₃ := fun a o e => by
  obtain ⟨x1, sl, x2⟩ := x a o e
  refine ⟨fun n => (y a o (x1 n)).1 n, ?_⟩
  obtain ⟨_, sl', y2⟩ := y a _ x2
  exact ⟨sl', y2⟩
theorem SameF.mono {S T : List Addr} {h h' : Heap} (x : SameF S h h') (hs : ∀ a ∈ S, a ∈ T) : SameF T h h' :=
  fun a o e => ⟨fun n => (x a o e).1 fun m => n (hs a m), (x a o e).2⟩
theorem SameF.push {S : List Addr} {h h' : Heap} (x : SameF S h h') (o : Obj) : SameF S h (h'.push o) :=
  x.trans (.of_all fun _ _ e => Heap.get?_push_of_some o e)
/-- a frame that the heap did not have: it is no matter -/
theorem SameF.drop {S : List Addr} {L : Addr} {h h' : Heap} (x : SameF (L :: S) h h') (hL : h.get? L = none) : SameF S h h' :=
  fun a o e => ⟨fun n => (x a o e).1 fun m => (List.mem_cons.mp m).elim (fun q => by rw [q, hL] at e; cases e) n, (x a o e).2⟩

def Kp (S : List Addr) (s s' : Shared) : Prop := ∃ h' tk, s' = { s with heap := h', toks := tk } ∧ SameF S s.heap h'
theorem Kp.refl (S : List Addr) (s : Shared) : Kp S s s := ⟨s.heap, s.toks, rfl, .refl S _⟩
theorem Kp.trans {S : List Addr} {s₁ s₂ s₃ : Shared} (x : Kp S s₁ s₂) (y : Kp S s₂ s₃) : Kp S s₁ s₃ := by
  obtain ⟨h, tk, rfl, e⟩ := x
  obtain ⟨h', tk', rfl, e'⟩ := y
  exact ⟨h', tk', rfl, e.trans e'⟩
theorem Kp.tok {S : List Addr} {s s' : Shared} (x : Kp S s s') (t : Nat) : Kp S s { s' with toks := t } := by
  obtain ⟨h, tk, rfl, e⟩ := x
  exact ⟨h, t, rfl, e⟩
theorem Kp.tok1 (S : List Addr) (s : Shared) (t : Nat) : Kp S s { s with toks := t } := ⟨s.heap, t, rfl, .refl S _⟩
theorem Kp.push1 (S : List Addr) (s : Shared) (o : Obj) : Kp S s { s with heap := s.heap.push o } := ⟨_, s.toks, rfl, (SameF.refl S _).push o⟩
theorem Kp.all {S : List Addr} {s : Shared} {h' : Heap} {tk : Nat} (k : ∀ a o, s.heap.get? a = some o → h'.get? a = some o) : Kp S s { s with heap := h', toks := tk } := ⟨h', tk, rfl, .of_all k⟩
theorem Kp.all' {S : List Addr} {s : Shared} {h' : Heap} (k : ∀ a o, s.heap.get? a = some o → h'.get? a = some o) : Kp S s { s with heap := h' } := ⟨h', s.toks, rfl, .of_all k⟩
theorem Kp.of_keeps {S : List Addr} {s s' : Shared} (x : Keeps s s') : Kp S s s' := by
  obtain ⟨h, tk, rfl, e⟩ := x
  exact ⟨h, tk, rfl, .of_all e⟩
theorem Kp.same {S : List Addr} {s s' : Shared} (x : Kp S s s') : SameF S s.heap s'.heap := by
  obtain ⟨h, tk, rfl, e⟩ := x
  exact e
theorem Kp.get {S : List Addr} {s s' : Shared} (x : Kp S s s') {a : Addr} {o : Obj} (e : s.heap.get? a = some o) (n : a ∉ S) : s'.heap.get? a = some o := (x.same a o e).1 n

/-! ## value predicates -/
structure VP where
  ok : (Addr → Prop) → Heap → Value → Prop
  st : ∀ {W W' : Addr → Prop} {h h' : Heap} {v : Value}, ok W h v → (∀ a o, h.get? a = some o → ¬ W a → ¬ W' a ∧ h'.get? a = some o) → ok W' h' v

def vNone : VP := ⟨fun _ _ v => v = .none, fun h _ => h⟩
def vBool (b : Bool) : VP := ⟨fun _ _ v => v = .bool b, fun h _ => h⟩
def vInt (n : Int) : VP := ⟨fun _ _ v => ∃ t, v = .int n t, fun h _ => h⟩
def vRef (a : Addr) : VP := ⟨fun _ _ v => v = .ref a, fun h _ => h⟩
def vIs (u : Value) : VP := ⟨fun _ _ v => v = u, fun h _ => h⟩
/-- a text, by its codes: bytes (m) or a str -/
def txV (m : Bool) (l : List Nat) (t : Tok) : Value := if m then .bytes (l.map UInt8.ofNat).toArray t else .str ⟨l.toArray⟩ t
def vTx (m : Bool) (l : List Nat) : VP := ⟨fun _ _ v => (∀ c ∈ l, c < 128) ∧ ∃ t, v = txV m l t, fun h _ => h⟩

theorem Paired.mono {α β : Type} {F G : α → β → Prop} : ∀ {l₁ : List α} {l₂ : List β}, Paired F l₁ l₂ → (∀ a b, F a b → G a b) → Paired G l₁ l₂
  | _, _, .nil, _ => .nil
  | _, _, .cons h r, k => .cons (k _ _ h) (Paired.mono r k)
theorem Paired.get {α β : Type} {F : α → β → Prop} : ∀ {l₁ : List α} {l₂ : List β}, Paired F l₁ l₂ → ∀ {i : Nat} {b : β}, l₂[i]? = some b → ∃ a, l₁[i]? = some a ∧ F a b
  | _, _, .nil, i, b, e => by simp at e
  | _, _, .cons (a := a) h r, 0, b, e => ⟨a, rfl, by cases (by simpa using e : _ = b); exact h⟩
  | _, _, .cons h r, i + 1, b, e => by simpa using Paired.get r (i := i) (by simpa using e)
theorem Paired.get' {α β : Type} {F : α → β → Prop} : ∀ {l₁ : List α} {l₂ : List β}, Paired F l₁ l₂ → ∀ {i : Nat} {a : α}, l₁[i]? = some a → ∃ b, l₂[i]? = some b ∧ F a b
  | _, _, .nil, i, b, e => by simp at e
  | _, _, .cons (b := b) h r, 0, a, e => ⟨b, rfl, by cases (by simpa using e : _ = a); exact h⟩
  | _, _, .cons h r, i + 1, b, e => by simpa using Paired.get' r (i := i) (by simpa using e)
theorem Paired.app {α β : Type} {F : α → β → Prop} : ∀ {l₁ m₁ : List α} {l₂ m₂ : List β}, Paired F l₁ l₂ → Paired F m₁ m₂ → Paired F (l₁ ++ m₁) (l₂ ++ m₂)
  | _, _, _, _, .nil, k => k
  | _, _, _, _, .cons h r, k => .cons h (Paired.app r k)

def vList {α : Type} (R : α → VP) (l : List α) : VP :=
  ⟨fun W h v => l.length ≤ 1000 ∧ ∃ a vs, v = .ref a ∧ ¬ W a ∧ h.PlainList a (List.toArray vs) ∧ Paired (fun v x => (R x).ok W h v) vs l,
   fun {W W' h h' v} ⟨lm, a, vs, e, n, ⟨o, ho⟩, p⟩ k => ⟨lm, a, vs, e, (k a _ ho n).1, ⟨o, (k a _ ho n).2⟩, Paired.mono p fun _ x q => (R x).st q k⟩⟩
def vTup (Ps : List VP) : VP :=
  ⟨fun W h v => ∃ a vs, v = .ref a ∧ ¬ W a ∧ IsTup h a (List.toArray vs) ∧ Paired (fun v (P : VP) => P.ok W h v) vs Ps,
   fun {W W' h h' v} ⟨a, vs, e, n, ⟨o, ho, r⟩, p⟩ k => ⟨a, vs, e, (k a o ho n).1, ⟨o, (k a o ho n).2, r⟩, Paired.mono p fun _ P q => P.st q k⟩⟩
/-- an instance of the record class at 142 (Mismatch) -/
def vMM (Ps : List VP) : VP :=
  ⟨fun W h v => ∃ a vs, v = .ref a ∧ ¬ W a ∧ (∃ o, h.get? a = some o ∧ o.cls = .ref 142 ∧ o.dict = none ∧ ∃ n, o.data = .seq (List.toArray vs) n) ∧ Paired (fun v (P : VP) => P.ok W h v) vs Ps,
   fun {W W' h h' v} ⟨a, vs, e, n, ⟨o, ho, r⟩, p⟩ k => ⟨a, vs, e, (k a o ho n).1, ⟨o, (k a o ho n).2, r⟩, Paired.mono p fun _ P q => P.st q k⟩⟩
def vRange (x y : Int) : VP :=
  ⟨fun W h v => ∃ a t u z, v = .ref a ∧ ¬ W a ∧ IsRange h a x y 1 t u z,
   fun {W W' h h' v} ⟨a, t, u, z, e, n, ho⟩ k => ⟨a, t, u, z, e, (k a _ ho n).1, (k a _ ho n).2⟩⟩

/-! ## frames and names -/
structure Gd (w : World) (hb : Heap) (mg mb : Str → Option Value) : Prop where
  kin : (hd.heap_1 w.params).In hb
  g : hb.Ns mainGlobals mg
  b : hb.Ns builtinsNs mb
  nolimit : hb.NoLimit
  bb : ∀ x : Str, x ≠ "__name__" → mb x = bootBuiltins x

structure Rm (n : Nat) (frs : List Env) (A : Around) : Prop where
  hh : A.handled = none
  fr : A.frames = some frs
  dp : A.depth + 2 * n < recursionLimit
  un : A.units + 100 * n + 100 < cLine

structure EnvOk (env : Env) : Prop where
  kind : env.scope.kind = .function
  glob : env.globals = mainGlobals
  blt : env.builtins = builtinsNs
  inj : ∀ x y c, env.cells.lookup x = some c → env.cells.lookup y = some c → x = y
  nl : ∀ x c, env.cells.lookup x = some c → env.kindOf x ≠ some .local

def NameOk (env : Env) (x : Str) : Prop :=
  env.kindOf x = some .local ∨ ((env.kindOf x = some .cell ∨ env.kindOf x = some .free) ∧ ∃ c, env.cells.lookup x = some c)

structure FS (env : Env) (μ : Str → Option Value) (h : Heap) : Prop where
  ns : ∃ m, h.Ns env.locals m ∧ ∀ x, env.kindOf x = some .local → m x = μ x
  cell : ∀ x c, env.cells.lookup x = some c → h.IsCell c (μ x)

theorem Ns.sameF {S : List Addr} {h h' : Heap} {a : Addr} {m : Str → Option Value} (x : h.Ns a m) (k : SameF S h h') : h'.Ns a m := by
  obtain ⟨o, es, ep, ho, hd, r⟩ := x
  obtain ⟨_, sl, e⟩ := k a o ho
  exact ⟨_, es, ep, e, hd, r⟩
theorem IsCell.sameF {S : List Addr} {h h' : Heap} {a : Addr} {v : Option Value} (x : h.IsCell a v) (k : SameF S h h') : h'.IsCell a v := by
  obtain ⟨o, ho, hd⟩ := x
  obtain ⟨_, sl, e⟩ := k a o ho
  exact ⟨_, e, hd⟩
theorem FS.sameF {S : List Addr} {env : Env} {μ : Str → Option Value} {h h' : Heap} (x : FS env μ h) (k : SameF S h h') : FS env μ h' :=
  ⟨let ⟨m, a, b⟩ := x.ns; ⟨m, Ns.sameF a k, b⟩, fun y c e => IsCell.sameF (x.cell y c e) k⟩

structure St (hb : Heap) (W : Addr → Prop) (frs : List Env) (s : Shared) : Prop where
  stay : hb.StaysIn s.heap
  ff : s.heap.FunFrames hb frs
  wd : ∀ a, W a → ∃ o, s.heap.get? a = some o
  wn : ∀ a, W a → hb.get? a = none
  wf : ∀ a ∈ frS frs, W a
structure Ok (hb : Heap) (W : Addr → Prop) (frs : List Env) (env : Env) (σ : List (Str × VP)) (s : Shared) : Prop extends St hb W frs s where
  wl : W env.locals
  wc : ∀ x c, env.cells.lookup x = some c → W c
  eo : EnvOk env
  nm : ∃ μ, FS env μ s.heap ∧ ∀ x P, σ.lookup x = some P → NameOk env x ∧ ∃ v, μ x = some v ∧ P.ok W s.heap v

section
variable {hb : Heap} {W : Addr → Prop} {frs : List Env} {env : Env} {σ : List (Str × VP)} {s s' : Shared}

theorem stay_kp {frs : List Env} (st : hb.StaysIn s.heap) (ff : s.heap.FunFrames hb frs) (k : SameF (frS frs) s.heap s'.heap) : hb.StaysIn s'.heap :=
  fun b o e => (k b o (st b o e)).1 fun m => by rw [(ff.mem m).1] at e; cases e
theorem ff_kp {S : List Addr} {h h' : Heap} (ff : h.FunFrames hb frs) (k : SameF S h h') : h'.FunFrames hb frs :=
  ff.of_keeps fun b o e _ => let ⟨_, sl, e'⟩ := k b o e; ⟨_, e', rfl⟩

theorem VP.kp {P : VP} {S : List Addr} {h h' : Heap} {v : Value} (x : P.ok W h v) (k : SameF S h h') (wf : ∀ a ∈ S, W a) : P.ok W h' v :=
  P.st x fun a o e n => ⟨n, (k a o e).1 fun m => n (wf a m)⟩

theorem St.kp (x : St hb W frs s) (k : Kp (frS frs) s s') : St hb W frs s' where
  stay := stay_kp x.stay x.ff k.same
  ff := ff_kp x.ff k.same
  wd := fun a ha => let ⟨o, e⟩ := x.wd a ha; let ⟨_, sl, e'⟩ := k.same a o e; ⟨_, e'⟩
  wn := x.wn
  wf := x.wf
theorem Ok.kp (x : Ok hb W frs env σ s) (k : Kp (frS frs) s s') : Ok hb W frs env σ s' where
  toSt := x.toSt.kp k
  wl := x.wl
  wc := x.wc
  eo := x.eo
  nm := by
    obtain ⟨μ, f, r⟩ := x.nm
    exact ⟨μ, f.sameF k.same, fun y P e => ⟨(r y P e).1, let ⟨v, e1, e2⟩ := (r y P e).2; ⟨v, e1, VP.kp e2 k.same x.wf⟩⟩⟩
theorem VP.kp' {P : VP} {v : Value} (x : P.ok W s.heap v) (o : St hb W frs s) (k : Kp (frS frs) s s') : P.ok W s'.heap v := VP.kp x k.same o.wf
theorem St.fresh (x : St hb W frs s) : ¬ W s.heap.objs.size := fun h => let ⟨o, e⟩ := x.wd _ h; absurd (Heap.lt_size e) (Nat.lt_irrefl _)
end

end Mine
end

section
open PySem PySem.W PyProof.Rows PySem.Calls
set_option Elab.async false
set_option autoImplicit false
set_option linter.unusedVariables false
namespace Mine

def Ev (prog : Program) (w : World) (hb : Heap) (n : Nat) (env : Env) (σ : List (Str × VP)) (e : Expr) (P : VP) : Prop :=
  ∀ (W : Addr → Prop) (frs : List Env) (A : Around) (s : Shared) (E : Value → Shared → Prop), Rm n frs A → Ok hb W frs env σ s →
    wpAny (model prog w) A (eval e env) (fun v s' => Kp (frS frs) s s' ∧ P.ok W s'.heap v) E s
def Tr (prog : Program) (w : World) (hb : Heap) (n : Nat) (env : Env) (σ : List (Str × VP)) (e : Expr) (b : Bool) : Prop :=
  ∀ (W : Addr → Prop) (frs : List Env) (A : Around) (s : Shared) (E : Value → Shared → Prop), Rm n frs A → Ok hb W frs env σ s →
    wpAny (model prog w) A (isTrue e env (eval e env)) (fun c s' => Kp (frS frs) s s' ∧ c = b) E s
def EvL (prog : Program) (w : World) (hb : Heap) (n : Nat) (env : Env) (σ : List (Str × VP)) (pos : Pos) (es : List Expr) (Ps : List VP) : Prop :=
  ∀ (W : Addr → Prop) (frs : List Env) (A : Around) (s : Shared) (E : Value → Shared → Prop), Rm n frs A → Ok hb W frs env σ s →
    wpAny (model prog w) A (spliced (backTo pos (starEach es env))) (fun vs s' => Kp (frS frs) s s' ∧ Paired (fun v (P : VP) => P.ok W s'.heap v) vs Ps) E s
/-- an operation of two values -/
def Op2 (prog : Program) (w : World) (hb : Heap) (n : Nat) (f : Value → Value → Sem Value) (P Q T : VP) : Prop :=
  ∀ (W : Addr → Prop) (frs : List Env) (A : Around) (s : Shared) (E : Value → Shared → Prop) (v u : Value), Rm n frs A → St hb W frs s → P.ok W s.heap v → Q.ok W s.heap u →
    wpAny (model prog w) A (f v u) (fun z s' => Kp (frS frs) s s' ∧ T.ok W s'.heap z) E s
/-- a call of a value -/
def Cl (prog : Program) (w : World) (hb : Heap) (n : Nat) (f : Value) (Ps : List VP) (T : VP) : Prop :=
  ∀ (W : Addr → Prop) (frs : List Env) (A : Around) (s : Shared) (E : Value → Shared → Prop) (vs : List Value), Rm n frs A → St hb W frs s → Paired (fun v (P : VP) => P.ok W s.heap v) vs Ps →
    wpAny (model prog w) A (call f vs) (fun z s' => Kp (frS frs) s s' ∧ T.ok W s'.heap z) E s

section
variable {prog : Program} {w : World} {hb : Heap} {n : Nat} {env : Env} {σ : List (Str × VP)} {mg mb : Str → Option Value}

theorem pmono {S : List Addr} {h h' : Heap} {W : Addr → Prop} {vs : List Value} {Ps : List VP} (x : Paired (fun v (P : VP) => P.ok W h v) vs Ps) (k : SameF S h h') (wf : ∀ a ∈ S, W a) :
    Paired (fun v (P : VP) => P.ok W h' v) vs Ps := Paired.mono x fun _ P q => VP.kp q k wf
theorem pmonoR {α : Type} {R : α → VP} {S : List Addr} {h h' : Heap} {W : Addr → Prop} {vs : List Value} {l : List α} (x : Paired (fun v a => (R a).ok W h v) vs l) (k : SameF S h h') (wf : ∀ a ∈ S, W a) :
    Paired (fun v a => (R a).ok W h' v) vs l := Paired.mono x fun _ a q => VP.kp q k wf

theorem Rm.le {n m : Nat} {frs : List Env} {A : Around} (x : Rm n frs A) (h : m ≤ n) : Rm m frs A :=
  ⟨x.hh, x.fr, by have := x.dp; lia, by have := x.un; lia⟩
theorem Ev.le {m : Nat} {e : Expr} {P : VP} (x : Ev prog w hb m env σ e P) (h : m ≤ n) : Ev prog w hb n env σ e P := fun W frs A s E r o => x W frs A s E (r.le h) o
theorem Tr.le {m : Nat} {e : Expr} {b : Bool} (x : Tr prog w hb m env σ e b) (h : m ≤ n) : Tr prog w hb n env σ e b := fun W frs A s E r o => x W frs A s E (r.le h) o

theorem Tr.conv {e : Expr} {b c : Bool} (x : Tr prog w hb n env σ e b) (h : b = c) : Tr prog w hb n env σ e c := h ▸ x
theorem Ev.conv {e : Expr} {P Q : VP} (x : Ev prog w hb n env σ e P) (h : P = Q) : Ev prog w hb n env σ e Q := h ▸ x

/-- names -/
theorem ev_name {x : Str} {pos : Pos} {P : VP} (h : σ.lookup x = some P) (hd : (x == ("__debug__" : Str)) = false := by decide) (hc : (x == ("__classdict__" : Str)) = false := by decide) : Ev prog w hb n env σ (.Name x pos) P :=
  fun W frs A s E r o => by
    obtain ⟨μ, f, k⟩ := o.nm
    obtain ⟨nk, v, e1, e2⟩ := k x P h
    refine wpAny_Name ?_ hd
    rcases nk with l | ⟨l | l, c, hc'⟩
    · obtain ⟨m, a, b⟩ := f.ns
      exact wpAny_loadName_local o.eo.kind l a ((b x l).trans e1) ⟨.refl _ _, e2⟩
    · exact wpAny_loadName_cell o.eo.kind l hc' (e1 ▸ f.cell x c hc') ⟨.refl _ _, e2⟩
    · exact wpAny_loadName_free o.eo.kind l hc' (e1 ▸ f.cell x c hc') ⟨.refl _ _, e2⟩ hc
theorem ev_int {i : Int} {k : Nat} {pos : Pos} : Ev prog w hb n env σ (.Constant (.int i) k pos) (vInt i) := fun W frs A s E r o =>
  wpAny_Constant_int ⟨.tok1 _ _ _, _, rfl⟩
theorem ev_bool {b : Bool} {k : Nat} {pos : Pos} : Ev prog w hb n env σ (.Constant (.bool b) k pos) (vBool b) := fun W frs A s E r o => fun _ _ _ => ⟨.refl _ _, rfl⟩
theorem ev_none {k : Nat} {pos : Pos} : Ev prog w hb n env σ (.Constant .none k pos) vNone := fun W frs A s E r o => fun _ _ _ => ⟨.refl _ _, rfl⟩
theorem ev_str {x : Str} {k : Nat} {pos : Pos} {l : List Nat} (h : x = ⟨l.toArray⟩) (hl : ∀ c ∈ l, c < 128) : Ev prog w hb n env σ (.Constant (.str x) k pos) (vTx false l) := fun W frs A s E r o =>
  Constant_str ⟨.tok1 _ _ _, hl, _, by rw [h]; rfl⟩
theorem ev_bytes {b : List UInt8} {k : Nat} {pos : Pos} {l : List Nat} (h : b = l.map UInt8.ofNat) (hl : ∀ c ∈ l, c < 128) : Ev prog w hb n env σ (.Constant (.bytes b) k pos) (vTx true l) := fun W frs A s E r o =>
  fun _ _ _ => ⟨.tok1 _ _ _, hl, _, by rw [h]; rfl⟩

theorem ev_bin {l r : Expr} {op : Operator} {pos : Pos} {P Q T : VP} (hl : Ev prog w hb n env σ l P) (hr : Ev prog w hb n env σ r Q) (ho : Op2 prog w hb n (binaryOp op) P Q T) : Ev prog w hb n env σ (.BinOp l op r pos) T :=
  fun W frs A s E rm o => wpAny_BinOp (wpAny_mono (hl W frs A s E rm o) (fun v s₁ ⟨k₁, p₁⟩ => wpAny_mono (hr W frs A s₁ E rm (o.kp k₁)) (fun u s₂ ⟨k₂, p₂⟩ =>
    wpAny_mono (ho W frs A s₂ E v u rm ((o.toSt.kp k₁).kp k₂) (VP.kp p₁ k₂.same o.wf) p₂) (fun z s₃ ⟨k₃, p₃⟩ => ⟨(k₁.trans k₂).trans k₃, p₃⟩) fun _ _ x => x) fun _ _ x => x) fun _ _ x => x)
theorem ev_cmp {l r : Expr} {op : CmpOp} {pos : Pos} {P Q T : VP} (hl : Ev prog w hb n env σ l P) (hr : Ev prog w hb n env σ r Q) (ho : Op2 prog w hb n (compareOp op) P Q T)
    (hm : behindInMarks op r = false := by with_unfolding_all rfl) : Ev prog w hb n env σ (.Compare l [op] [r] pos) T :=
  fun W frs A s E rm o => wpAny_Compare1 (wpAny_mono (hl W frs A s E rm o) (fun v s₁ ⟨k₁, p₁⟩ => wpAny_mono (hr W frs A s₁ E rm (o.kp k₁)) (fun u s₂ ⟨k₂, p₂⟩ =>
    wpAny_mono (ho W frs A s₂ E v u rm ((o.toSt.kp k₁).kp k₂) (VP.kp p₁ k₂.same o.wf) p₂) (fun z s₃ ⟨k₃, p₃⟩ => ⟨(k₁.trans k₂).trans k₃, p₃⟩) fun _ _ x => x) fun _ _ x => x) fun _ _ x => x) hm
theorem tr_cmp {l r : Expr} {op : CmpOp} {pos : Pos} {P Q : VP} {b : Bool} (hl : Ev prog w hb n env σ l P) (hr : Ev prog w hb n env σ r Q) (ho : Op2 prog w hb n (compareOp op) P Q (vBool b))
    (hm : behindInMarks op r = false := by with_unfolding_all rfl) : Tr prog w hb n env σ (.Compare l [op] [r] pos) b :=
  fun W frs A s E rm o => wpAny_isTrue_Compare1 (wpAny_mono (hl W frs A s E rm o) (fun v s₁ ⟨k₁, p₁⟩ => wpAny_mono (hr W frs A s₁ E rm (o.kp k₁)) (fun u s₂ ⟨k₂, p₂⟩ =>
    wpAny_mono (ho W frs A s₂ E v u rm ((o.toSt.kp k₁).kp k₂) (VP.kp p₁ k₂.same o.wf) p₂) (fun z s₃ ⟨k₃, p₃⟩ => by
      obtain rfl : z = .bool b := p₃
      exact wpAny_truthy_bool ⟨(k₁.trans k₂).trans k₃, rfl⟩) fun _ _ x => x) fun _ _ x => x) fun _ _ x => x) hm
theorem tr_and {x y : Expr} {pos : Pos} {b c : Bool} (hx : Tr prog w hb n env σ x b) (hy : b = true → Tr prog w hb n env σ y c) : Tr prog w hb n env σ (.BoolOp .And [x, y] pos) (b && c) :=
  fun W frs A s E rm o => isTrue_and (wpAny_mono (hx W frs A s E rm o) (fun v s₁ ⟨k₁, p₁⟩ => by
    subst p₁
    cases v with
    | false => exact ⟨k₁, rfl⟩
    | true => exact isTrue_and (wpAny_mono (hy rfl W frs A s₁ E rm (o.kp k₁)) (fun u s₂ ⟨k₂, p₂⟩ => by
        subst p₂
        cases u with
        | false => exact ⟨k₁.trans k₂, rfl⟩
        | true => exact isTrue_and_nil (s := s₂) (pos := pos) (whole := pure .none) ⟨k₁.trans k₂, rfl⟩) fun _ _ x => x)) fun _ _ x => x)

theorem tr_or {x y : Expr} {pos : Pos} {b c : Bool} (hx : Tr prog w hb n env σ x b) (hy : b = false → Tr prog w hb n env σ y c) : Tr prog w hb n env σ (.BoolOp .Or [x, y] pos) (b || c) :=
  fun W frs A s E rm o => isTrue_or (wpAny_mono (hx W frs A s E rm o) (fun v s₁ ⟨k₁, p₁⟩ => by
    subst p₁
    cases v with
    | true => exact ⟨k₁, rfl⟩
    | false => exact isTrue_or (wpAny_mono (hy rfl W frs A s₁ E rm (o.kp k₁)) (fun u s₂ ⟨k₂, p₂⟩ => by
        subst p₂
        cases u with
        | true => exact ⟨k₁.trans k₂, rfl⟩
        | false => exact isTrue_or_nil (s := s₂) (pos := pos) (whole := pure .none) ⟨k₁.trans k₂, rfl⟩) fun _ _ x => x)) fun _ _ x => x)
theorem tr_not {x : Expr} {pos : Pos} {b : Bool} (hx : Tr prog w hb n env σ x b) : Tr prog w hb n env σ (.UnaryOp .Not x pos) (!b) :=
  fun W frs A s E rm o => isTrue_not (wpAny_mono (hx W frs A s E rm o) (fun v s₁ ⟨k₁, p₁⟩ => ⟨k₁, by rw [p₁]⟩) fun _ _ x => x)

/-- the truth of a value -/
def Tv (prog : Program) (w : World) (hb : Heap) (P : VP) (b : Bool) : Prop :=
  ∀ (W : Addr → Prop) (frs : List Env) (A : Around) (s : Shared) (E : Value → Shared → Prop) (v : Value), St hb W frs s → P.ok W s.heap v →
    wpAny (model prog w) A (truthy v) (fun c s' => Kp (frS frs) s s' ∧ c = b) E s
theorem tv_bool {b : Bool} : Tv prog w hb (vBool b) b := fun W frs A s E v o p => by
  obtain rfl : v = .bool b := p
  exact wpAny_truthy_bool ⟨.refl _ _, rfl⟩
theorem tv_int {i : Int} : Tv prog w hb (vInt i) (i != 0) := fun W frs A s E v o ⟨t, p⟩ => by
  subst p
  exact PyProof.Rows.truthy_int ⟨.refl _ _, rfl⟩
theorem tv_list {α : Type} {R : α → VP} {l : List α} : Tv prog w hb (vList R l) (!l.isEmpty) := fun W frs A s E v o ⟨lm, a, vs, e, nw, pl, p⟩ => by
  subst e
  have hl := Paired.length p
  refine wpAny_truthy_list pl.isList (by simp only [List.size_toArray]; lia) ⟨.tok1 _ _ _, ?_⟩
  cases p <;> rfl

theorem tr_of {e : Expr} {P : VP} {b : Bool} (h : Ev prog w hb n env σ e P) (ht : Tv prog w hb P b)
    (he : isTrue e env (eval e env) = (do let v ← eval e env; standAt e.pos; holding [v] (truthy v)) := by rfl) : Tr prog w hb n env σ e b :=
  fun W frs A s E rm o => isTrue_plain (wpAny_mono (h W frs A s E rm o) (fun v s₁ ⟨k₁, p₁⟩ => wpAny_mono (ht W frs A s₁ E v (o.toSt.kp k₁) p₁) (fun c s₂ ⟨k₂, p₂⟩ => ⟨k₁.trans k₂, p₂⟩) fun _ _ x => x) fun _ _ x => x) he

theorem ev_if {t x y : Expr} {pos : Pos} {b : Bool} {P : VP} (ht : Tr prog w hb n env σ t b) (hx : b = true → Ev prog w hb n env σ x P) (hy : b = false → Ev prog w hb n env σ y P) : Ev prog w hb n env σ (.IfExp t x y pos) P :=
  fun W frs A s E rm o => wpAny_IfExp (wpAny_mono (ht W frs A s E rm o) (fun c s₁ ⟨k₁, p₁⟩ => by
    subst p₁
    cases c with
    | true => exact wpAny_mono (hx rfl W frs A s₁ E rm (o.kp k₁)) (fun v s₂ ⟨k₂, p₂⟩ => ⟨k₁.trans k₂, p₂⟩) fun _ _ x => x
    | false => exact wpAny_mono (hy rfl W frs A s₁ E rm (o.kp k₁)) (fun v s₂ ⟨k₂, p₂⟩ => ⟨k₁.trans k₂, p₂⟩) fun _ _ x => x) fun _ _ x => x)

theorem evl_nil {pos : Pos} : EvL prog w hb n env σ pos [] [] := fun W frs A s E rm o => args_nil ⟨.refl _ _, .nil⟩
theorem evl_cons {pos : Pos} {e : Expr} {es : List Expr} {P : VP} {Ps : List VP} (h : Ev prog w hb n env σ e P) (hr : EvL prog w hb n env σ pos es Ps)
    (he : starEach (e :: es) env = (false, eval e env) :: starEach es env := by rfl) : EvL prog w hb n env σ pos (e :: es) (P :: Ps) :=
  fun W frs A s E rm o => args_cons (wpAny_mono (h W frs A s E rm o) (fun v s₁ ⟨k₁, p₁⟩ => wpAny_mono (hr W frs A s₁ E rm (o.kp k₁)) (fun vs s₂ ⟨k₂, p₂⟩ => ⟨k₁.trans k₂, .cons (VP.kp p₁ k₂.same o.wf) p₂⟩) fun _ _ x => x) fun _ _ x => x) he

theorem vList_new {α : Type} {R : α → VP} {l : List α} {W : Addr → Prop} {frs : List Env} {s : Shared} {vs : List Value} (o : St hb W frs s) (lm : l.length ≤ 1000) (p : Paired (fun v x => (R x).ok W s.heap v) vs l) :
    Kp (frS frs) s { s with heap := s.heap.push { cls := .type "list", data := .seq vs.toArray } } ∧ (vList R l).ok W (s.heap.push { cls := .type "list", data := .seq vs.toArray }) (.ref s.heap.objs.size) :=
  ⟨.push1 _ _ _, lm, _, vs, rfl, o.fresh, ⟨0, Heap.get?_push_size _ rfl⟩, pmonoR p (Kp.push1 (frS frs) s _).same o.wf⟩
theorem vTup_new {Ps : List VP} {W : Addr → Prop} {frs : List Env} {s : Shared} {vs : List Value} (o : St hb W frs s) (p : Paired (fun v (P : VP) => P.ok W s.heap v) vs Ps) :
    Kp (frS frs) s { s with heap := s.heap.push { cls := .type "tuple", data := .seq vs.toArray } } ∧ (vTup Ps).ok W (s.heap.push { cls := .type "tuple", data := .seq vs.toArray }) (.ref s.heap.objs.size) :=
  ⟨.push1 _ _ _, _, vs, rfl, o.fresh, ⟨_, Heap.get?_push_size _ rfl, rfl, 0, rfl⟩, pmono p (Kp.push1 (frS frs) s _).same o.wf⟩

theorem Paired.map2 {α β γ : Type} {F : α → γ → Prop} {f : β → γ} : ∀ {l₁ : List α} {l₂ : List β}, Paired F l₁ (l₂.map f) → Paired (fun a b => F a (f b)) l₁ l₂
  | [], [], _ => .nil
  | [], _ :: _, h => by cases h
  | _ :: _, [], h => by cases h
  | _ :: _, _ :: _, .cons h r => .cons h (Paired.map2 r)

theorem ev_list {α : Type} {R : α → VP} {l : List α} {es : List Expr} {pos : Pos} (h : EvL prog w hb n env σ pos es (l.map R)) (lm : l.length ≤ 1000) : Ev prog w hb n env σ (.List es pos) (vList R l) :=
  fun W frs A s E rm o => PyProof.Rows.List_ (wpAny_mono (h W frs A s E rm o) (fun vs s₁ ⟨k₁, p₁⟩ => by
    have p := Paired.map2 p₁
    have := Paired.length p
    obtain ⟨k, q⟩ := vList_new (o.toSt.kp k₁) lm p
    exact wpAny_newList ⟨k₁.trans k, q⟩ (by rw [sizeLine_eq]; lia)) fun _ _ x => x)
theorem ev_tuple {Ps : List VP} {es : List Expr} {k : Nat} {pos : Pos} (h : EvL prog w hb n env σ pos es Ps) (lm : Ps.length ≤ 1000) : Ev prog w hb n env σ (.Tuple es k pos) (vTup Ps) :=
  fun W frs A s E rm o => PyProof.Rows.Tuple_ (wpAny_mono (h W frs A s E rm o) (fun vs s₁ ⟨k₁, p₁⟩ => by
    have := Paired.length p₁
    obtain ⟨k, q⟩ := vTup_new (o.toSt.kp k₁) p₁
    exact wpAny_newTuple ⟨k₁.trans k, q⟩ (by rw [sizeLine_eq]; lia)) fun _ _ x => x)
end
end Mine
end

section
open PySem PySem.W PyProof.Rows PySem.Calls
set_option Elab.async false
set_option autoImplicit false
set_option linter.unusedVariables false
namespace Mine
section
variable {prog : Program} {w : World} {hb : Heap} {n : Nat} {env : Env} {σ : List (Str × VP)} {mg mb : Str → Option Value}

/-! ## ints -/
theorem op_add_int {a b : Int} : Op2 prog w hb n (binaryOp .Add) (vInt a) (vInt b) (vInt (a + b)) := fun W frs A s E v u rm o ⟨t, p⟩ ⟨t', q⟩ => by
  subst p q; exact PyProof.Rows.add_int ⟨.tok1 _ _ _, _, rfl⟩
theorem op_sub_int {a b : Int} : Op2 prog w hb n (binaryOp .Sub) (vInt a) (vInt b) (vInt (a - b)) := fun W frs A s E v u rm o ⟨t, p⟩ ⟨t', q⟩ => by
  subst p q; exact PyProof.Rows.sub_int ⟨.tok1 _ _ _, _, rfl⟩
theorem op_mod_int {a b : Int} (h : b ≠ 0) : Op2 prog w hb n (binaryOp .Mod) (vInt a) (vInt b) (vInt (a.fmod b)) := fun W frs A s E v u rm o ⟨t, p⟩ ⟨t', q⟩ => by
  subst p q; exact PyProof.Rows.mod_int h ⟨.tok1 _ _ _, _, rfl⟩
theorem op_lt_int {a b : Int} : Op2 prog w hb n (compareOp .Lt) (vInt a) (vInt b) (vBool (decide (a < b))) := fun W frs A s E v u rm o ⟨t, p⟩ ⟨t', q⟩ => by
  subst p q; exact PyProof.Rows.lt_int ⟨.refl _ _, rfl⟩
theorem op_gt_int {a b : Int} : Op2 prog w hb n (compareOp .Gt) (vInt a) (vInt b) (vBool (decide (b < a))) := fun W frs A s E v u rm o ⟨t, p⟩ ⟨t', q⟩ => by
  subst p q; exact PyProof.Rows.gt_int ⟨.refl _ _, rfl⟩
theorem ev_neg {e : Expr} {pos : Pos} {a : Int} (h : Ev prog w hb n env σ e (vInt a)) : Ev prog w hb n env σ (.UnaryOp .USub e pos) (vInt (-a)) := fun W frs A s E rm o =>
  wpAny_UnaryOp (wpAny_mono (h W frs A s E rm o) (fun v s₁ ⟨k₁, t, p₁⟩ => by
    subst p₁
    exact PyProof.Rows.neg_int ⟨k₁.trans (.tok1 _ _ _), _, rfl⟩) fun _ _ x => x)

/-! ## equality -/
/-- two values compared by `eqBool`, by `==` and by `!=`, at any state -/
structure EqP (P Q : VP) (b : Bool) (d : Nat) : Prop where
  eq : ∀ (W : Addr → Prop) (A : Around) (s : Shared) (v u : Value), A.units + d < cLine → P.ok W s.heap v → Q.ok W s.heap u → SeqAt.EqAt A s v u b
  rc : ∀ (W : Addr → Prop) (A : Around) (s : Shared) (v u : Value), A.units + d < cLine → P.ok W s.heap v → Q.ok W s.heap u → SeqAt.RcAt A s v u b
  ne : ∀ (W : Addr → Prop) (A : Around) (s : Shared) (v u : Value), A.units + d < cLine → P.ok W s.heap v → Q.ok W s.heap u → SeqAt.RcNeAt A s v u (!b)

theorem EqP.conv {P Q : VP} {b c : Bool} {d : Nat} (h : EqP P Q b d) (e : b = c) : EqP P Q c d := e ▸ h
theorem EqP.le {P Q : VP} {b : Bool} {d d' : Nat} (h : EqP P Q b d) (e : d ≤ d') : EqP P Q b d' :=
  ⟨fun W A s v u hu => h.eq W A s v u (by lia), fun W A s v u hu => h.rc W A s v u (by lia), fun W A s v u hu => h.ne W A s v u (by lia)⟩

theorem eqP_int {a b : Int} : EqP (vInt a) (vInt b) (decide (a = b)) 0 :=
  ⟨fun W A s v u _ ⟨t, p⟩ ⟨t', q⟩ => by subst p q; exact SeqAt.EqAt.int_int a t b t', fun W A s v u _ ⟨t, p⟩ ⟨t', q⟩ => by subst p q; exact SeqAt.RcAt.int_int a t b t',
   fun W A s v u _ ⟨t, p⟩ ⟨t', q⟩ => by subst p q; exact fun prog w E Q h => PyProof.Rows.ne_int (by rw [show (a != b) = !decide (a = b) from by by_cases e : a = b <;> simp [e]]; exact h)⟩

theorem op_eq {P Q : VP} {b : Bool} {d : Nat} (h : EqP P Q b d) (hd : d ≤ 100) : Op2 prog w hb n (compareOp .Eq) P Q (vBool b) := fun W frs A s E v u rm o p q =>
  h.rc W A s v u (by have := rm.un; lia) p q prog w E _ ⟨.refl _ _, rfl⟩
theorem op_ne {P Q : VP} {b : Bool} {d : Nat} (h : EqP P Q b d) (hd : d ≤ 100) : Op2 prog w hb n (compareOp .NotEq) P Q (vBool (!b)) := fun W frs A s E v u rm o p q =>
  h.ne W A s v u (by have := rm.un; lia) p q prog w E _ ⟨.refl _ _, rfl⟩

/-- all pairs of R compare by a Bool relation e -/
theorem paired_get2 {α : Type} {R : α → VP} {W : Addr → Prop} {h : Heap} {vs : List Value} {l : List α} (p : Paired (fun v x => (R x).ok W h v) vs l) {j : Nat} (hj : j < vs.length) :
    ∃ hj' : j < l.length, (R l[j]).ok W h vs[j] := by
  have e : vs[j]? = some vs[j] := List.getElem?_eq_getElem hj
  obtain ⟨b, e1, e2⟩ := Paired.get' p e
  obtain ⟨hj', e3⟩ := List.getElem?_eq_some_iff.mp e1
  exact ⟨hj', e3 ▸ e2⟩

/-- lists compared item by item -/
def eqAll {α β : Type} (e : α → β → Bool) : List α → List β → Bool
  | [], [] => true
  | x :: xs, y :: ys => e x y && eqAll e xs ys
  | _, _ => false
theorem eqAll_len {α β : Type} {e : α → β → Bool} : ∀ {l : List α} {m : List β}, l.length ≠ m.length → eqAll e l m = false
  | [], [], h => absurd rfl h
  | [], _ :: _, _ => rfl
  | _ :: _, [], _ => rfl
  | x :: xs, y :: ys, h => by rw [eqAll, eqAll_len (by simpa using h)]; simp
theorem eqAll_range {α β : Type} {e : α → β → Bool} : ∀ {l : List α} {m : List β} (h : l.length = m.length) (f : Nat → Bool), (∀ j (h1 : j < l.length) (h2 : j < m.length), f j = e l[j] m[j]) → (List.range l.length).all f = eqAll e l m
  | [], [], _, _, _ => rfl
  | [], _ :: _, h, _, _ => by simp at h
  | _ :: _, [], h, _, _ => by simp at h
  | x :: xs, y :: ys, h, f, hf => by
    rw [List.length_cons, List.range_succ_eq_map, List.all_cons, List.all_map, eqAll, ← eqAll_range (by simpa using h) (f ∘ Nat.succ) (fun j h1 h2 => hf (j + 1) (by simpa using h1) (by simpa using h2)), hf 0 (by simp) (by simp)]
    rfl
theorem eqAll_decide {α : Type} [DecidableEq α] : ∀ {l m : List α}, eqAll (fun a b => decide (a = b)) l m = decide (l = m)
  | [], [] => by simp [eqAll]
  | [], _ :: _ => by simp [eqAll]
  | _ :: _, [] => by simp [eqAll]
  | x :: xs, y :: ys => by rw [eqAll, eqAll_decide]; by_cases h : x = y <;> simp [h]

theorem eqP_list' {α β : Type} {R : α → VP} {R' : β → VP} {e : α → β → Bool} {d : Nat} (h : ∀ a b, EqP (R a) (R' b) (e a b) d) (hr : ∀ (l : List α) (l' : List β) W (s : Shared) v, (vList R l).ok W s.heap v → (vList R' l').ok W s.heap v → eqAll e l l' = true)
    (l : List α) (l' : List β) : EqP (vList R l) (vList R' l') (eqAll e l l') (d + 1) := by
  have key : ∀ (W : Addr → Prop) (A : Around) (s : Shared) (v u : Value), A.units + (d + 1) < cLine → (vList R l).ok W s.heap v → (vList R' l').ok W s.heap u →
      ∃ a b, v = .ref a ∧ u = .ref b ∧ SeqAt.RcAt A s (.ref a) (.ref b) (eqAll e l l') ∧ SeqAt.RcNeAt A s (.ref a) (.ref b) (!eqAll e l l') := by
    rintro W A s v u hu ⟨lm, a, vs, rfl, nw, pl, p⟩ ⟨lm', b, us, rfl, nw', pl', p'⟩
    have e1 := Paired.length p
    have e2 := Paired.length p'
    refine ⟨a, b, rfl, rfl, ?_⟩
    by_cases hz : l.length = l'.length
    · have he : ∀ j (h1 : j < vs.toArray.size) (h2 : j < us.toArray.size), SeqAt.EqAt A.in1 s vs.toArray[j] us.toArray[j] ((fun j => if hx : j < l.length ∧ j < l'.length then e (l[j]'hx.1) (l'[j]'hx.2) else false) j) := by
        intro j h1 h2
        have h1' : j < vs.length := by simpa using h1
        have h2' : j < us.length := by simpa using h2
        obtain ⟨q1, q2⟩ := paired_get2 p h1'
        obtain ⟨q3, q4⟩ := paired_get2 p' h2'
        simp only [List.getElem_toArray, q1, q3, and_self, dif_pos]
        exact (h _ _).eq W A.in1 s _ _ (by show A.units + 1 + d < cLine; lia) q2 q4
      have hn : vs.toArray.size = us.toArray.size := by simp only [List.size_toArray]; lia
      have c1 := SeqAt.RcAt.lists pl.isList pl'.isList hn (by lia) he
      have c2 := SeqAt.RcNeAt.lists pl.isList pl'.isList hn (by lia) he
      have hr2 : (List.range vs.toArray.size).all (fun j => if hx : j < l.length ∧ j < l'.length then e (l[j]'hx.1) (l'[j]'hx.2) else false) = eqAll e l l' := by
        rw [List.size_toArray, e1]
        exact eqAll_range hz _ fun j h1 h2 => by simp [h1, h2]
      rw [hr2] at c1 c2
      exact ⟨c1, c2⟩
    · rw [eqAll_len hz]
      have hn : (vs.toArray.size != us.toArray.size) = true := by simp only [List.size_toArray, bne_iff_ne, ne_eq]; lia
      exact ⟨SeqAt.RcAt.lists_lengths pl.isList pl'.isList hn (by lia), SeqAt.RcNeAt.lists_lengths pl.isList pl'.isList hn (by lia)⟩
  refine ⟨fun W A s v u hu p q => ?_, fun W A s v u hu p q => ?_, fun W A s v u hu p q => ?_⟩
  · obtain ⟨a, b, rfl, rfl, h1, _⟩ := key W A s v u hu p q
    by_cases hab : a = b
    · subst hab
      rw [hr l l' W s _ p q]
      exact SeqAt.EqAt.same _
    · exact SeqAt.EqAt.of_refs hab h1
  · obtain ⟨a, b, rfl, rfl, h1, _⟩ := key W A s v u hu p q
    exact h1
  · obtain ⟨a, b, rfl, rfl, _, h1⟩ := key W A s v u hu p q
    exact h1

/-- a predicate family that tells its datum -/
def Inj {α : Type} (R : α → VP) : Prop := ∀ (W : Addr → Prop) (h : Heap) (v : Value) (a b : α), (R a).ok W h v → (R b).ok W h v → a = b
theorem inj_int : Inj vInt := fun W h v a b ⟨t, p⟩ ⟨u, q⟩ => by subst p; injection q
theorem inj_paired {α : Type} {R : α → VP} (hR : Inj R) {W : Addr → Prop} {h : Heap} : ∀ {vs : List Value} {l m : List α}, Paired (fun v x => (R x).ok W h v) vs l → Paired (fun v x => (R x).ok W h v) vs m → l = m
  | _, _, _, .nil, .nil => rfl
  | _, _, _, .cons h1 r1, .cons h2 r2 => by rw [hR _ _ _ _ _ h1 h2, inj_paired hR r1 r2]
theorem inj_list {α : Type} {R : α → VP} (hR : Inj R) : Inj (vList R) := fun W h v l m ⟨_, a, vs, p1, _, ⟨n, p2⟩, p3⟩ ⟨_, b, us, q1, _, ⟨n', q2⟩, q3⟩ => by
  subst p1
  injection q1 with q1
  subst q1
  rw [p2] at q2
  injection q2 with q2
  injection q2 with _ _ q2
  injection q2 with q2
  have : vs = us := by simpa using q2
  subst this
  exact inj_paired hR p3 q3
theorem eqP_list {α : Type} [DecidableEq α] {R : α → VP} {d : Nat} (hR : Inj R) (h : ∀ a b, EqP (R a) (R b) (decide (a = b)) d) (l m : List α) : EqP (vList R l) (vList R m) (decide (l = m)) (d + 1) :=
  eqAll_decide (l := l) (m := m) ▸ eqP_list' h (fun l l' W s v p q => by
    have := inj_list hR W s.heap v l l' p q
    subst this
    rw [eqAll_decide]; simp) l m

/-! ## in -/
noncomputable def dat {α : Type} [Inhabited α] (R : α → VP) (W : Addr → Prop) (h : Heap) (v : Value) : α := open Classical in if hx : ∃ a, (R a).ok W h v then hx.choose else default
theorem dat_eq {α : Type} [Inhabited α] {R : α → VP} (hR : Inj R) {W : Addr → Prop} {h : Heap} {v : Value} {a : α} (p : (R a).ok W h v) : dat R W h v = a := by
  have hx : ∃ a, (R a).ok W h v := ⟨a, p⟩
  unfold dat
  rw [dif_pos hx]
  exact hR W h v _ _ hx.choose_spec p
theorem paired_map {α : Type} [Inhabited α] {R : α → VP} (hR : Inj R) {W : Addr → Prop} {h : Heap} : ∀ {vs : List Value} {l : List α}, Paired (fun v x => (R x).ok W h v) vs l → vs.map (dat R W h) = l
  | _, _, .nil => rfl
  | _, _, .cons h1 r1 => by rw [List.map_cons, dat_eq hR h1, paired_map hR r1]
theorem paired_mem {α : Type} {R : α → VP} {W : Addr → Prop} {h : Heap} : ∀ {vs : List Value} {l : List α}, Paired (fun v x => (R x).ok W h v) vs l → ∀ v ∈ vs, ∃ x ∈ l, (R x).ok W h v
  | _, _, .cons h1 r1, _, .head _ => ⟨_, .head _, h1⟩
  | _, _, .cons h1 r1, v, .tail _ m => let ⟨x, hx, q⟩ := paired_mem r1 v m; ⟨x, .tail _ hx, q⟩

theorem list_any {α : Type} [Inhabited α] [DecidableEq α] {R : α → VP} (hR : Inj R) {d : Nat} (h : ∀ a b, EqP (R a) (R b) (decide (a = b)) d) {W : Addr → Prop} {A : Around} {s : Shared} {vs : List Value} {l : List α} {x : α} {u : Value}
    (hu : A.units + d < cLine) (p : Paired (fun v x => (R x).ok W s.heap v) vs l) (q : (R x).ok W s.heap u) :
    (∀ y, y ∈ vs.toArray → SeqAt.EqAt A s y u (decide (dat R W s.heap y = x))) ∧ vs.toArray.any (fun y => decide (dat R W s.heap y = x)) = decide (x ∈ l) ∧ vs.countP (fun y => decide (dat R W s.heap y = x)) = l.count x := by
  refine ⟨fun y hy => ?_, ?_, ?_⟩
  · obtain ⟨a, _, pa⟩ := paired_mem p y (by simpa using hy)
    rw [dat_eq hR pa]
    exact (h a x).eq W A s y u hu pa q
  · rw [← paired_map hR p]
    simp only [List.any_toArray, List.any_eq, List.mem_map]
    rw [decide_eq_decide]
    constructor
    · rintro ⟨y, hy, e⟩; exact ⟨y, hy, by simpa using e⟩
    · rintro ⟨y, hy, e⟩; exact ⟨y, hy, by simpa using e⟩
  · rw [← paired_map hR p, List.count, List.countP_map]
    congr 1

theorem op_in {α : Type} [Inhabited α] [DecidableEq α] {R : α → VP} (hR : Inj R) {d : Nat} (h : ∀ a b, EqP (R a) (R b) (decide (a = b)) d) (hd : d ≤ 90) (x : α) (l : List α) : Op2 prog w hb n (compareOp .In) (R x) (vList R l) (vBool (decide (x ∈ l))) :=
  fun W frs A s E v u rm o q ⟨_, a, vs, e, nw, pl, p⟩ => by
    subst e
    obtain ⟨h1, h2, _⟩ := list_any hR h (A := A.in1) (by show A.units + 1 + d < cLine; have := rm.un; lia) p q
    exact SeqAt.in_listAt _ pl.isList h1 ⟨.refl _ _, by rw [h2]; rfl⟩
theorem op_notIn {α : Type} [Inhabited α] [DecidableEq α] {R : α → VP} (hR : Inj R) {d : Nat} (h : ∀ a b, EqP (R a) (R b) (decide (a = b)) d) (hd : d ≤ 90) (x : α) (l : List α) : Op2 prog w hb n (compareOp .NotIn) (R x) (vList R l) (vBool (!decide (x ∈ l))) :=
  fun W frs A s E v u rm o q ⟨_, a, vs, e, nw, pl, p⟩ => by
    subst e
    obtain ⟨h1, h2, _⟩ := list_any hR h (A := A.in1) (by show A.units + 1 + d < cLine; have := rm.un; lia) p q
    exact SeqAt.notIn_listAt _ pl.isList h1 ⟨.refl _ _, by rw [h2]; rfl⟩
end
end Mine
end

section
open PySem PySem.W PyProof.Rows PySem.Calls
set_option Elab.async false
set_option autoImplicit false
set_option linter.unusedVariables false
namespace Mine
section
variable {prog : Program} {w : World} {hb : Heap} {n : Nat} {env : Env} {σ : List (Str × VP)} {W : Addr → Prop} {frs : List Env} {s : Shared}

theorem ff_of {h h' : Heap} (k : ∀ b o, h.get? b = some o → (∀ vs, o.data ≠ .fields vs) → ∃ o', h'.get? b = some o' ∧ ∀ vs, o'.data ≠ .fields vs) : ∀ {l : List Env}, h.FunFrames hb l → h'.FunFrames hb l
  | [], _ => trivial
  | env :: rest, ⟨hk, ⟨L, o, hf, hn, ho, hd⟩, hr⟩ => by
    obtain ⟨o', ho', hd'⟩ := k L o ho hd
    exact ⟨hk, ⟨L, o', hf, hn, ho', hd'⟩, ff_of k hr⟩

/-- names that may be stored -/
def StoreOk (env : Env) (x : Str) : Prop := env.kindOf x = some .local ∨ (env.kindOf x = some .cell ∧ ∃ c, env.cells.lookup x = some c)
theorem StoreOk.name {x : Str} (h : StoreOk env x) : NameOk env x := h.imp id fun ⟨a, b⟩ => ⟨.inl a, b⟩

/-- the places of the frame's own -/
def Own (env : Env) (z : Addr) : Prop := z = env.locals ∨ ∃ y, env.cells.lookup y = some z

theorem FS.own {μ : Str → Option Value} {h : Heap} (f : FS env μ h) {z : Addr} (hz : Own env z) : ∃ o, h.get? z = some o ∧ ∀ vs, o.data ≠ .fields vs := by
  rcases hz with rfl | ⟨y, hy⟩
  · obtain ⟨m, ⟨o, es, ep, ho, hd, _⟩, _⟩ := f.ns
    exact ⟨o, ho, fun vs q => by rw [hd] at q; cases q⟩
  · obtain ⟨o, ho, hd⟩ := f.cell y z hy
    exact ⟨o, ho, fun vs q => by rw [hd] at q; cases q⟩

/-- the places of some names -/
def OwnN (env : Env) (ns : List Str) (z : Addr) : Prop := z = env.locals ∨ ∃ y ∈ ns, env.cells.lookup y = some z
theorem OwnN.own {ns : List Str} {z : Addr} (h : OwnN env ns z) : Own env z := h.imp id fun ⟨y, _, e⟩ => ⟨y, e⟩

theorem store_ok {x : Str} {v : Value} {P : VP} {M : Model} {A : Around} {E : Value → Shared → Prop} {Q : Unit → Shared → Prop} (o : Ok hb W frs env σ s) (nk : StoreOk env x) (p : P.ok W s.heap v)
    (h : ∀ z h' tk, OwnN env [x] z → Heap.SameBut z s.heap h' → Ok hb W frs env ((x, P) :: σ) { s with heap := h', toks := tk } → Q () { s with heap := h', toks := tk }) :
    wpAny M A (storeName env x v) Q E s := by
  obtain ⟨μ, f, r⟩ := o.nm
  have fin : ∀ z h' tk, OwnN env [x] z → Heap.SameBut z s.heap h' → FS env (fun y => if y = x then some v else μ y) h' → Q () { s with heap := h', toks := tk } := by
    intro z h' tk hz' hs f'
    have hz := hz'.own
    have wz : W z := hz.elim (fun e => e ▸ o.wl) fun ⟨y, e⟩ => o.wc y z e
    have sk : ∀ a o', s.heap.get? a = some o' → ¬ W a → ¬ W a ∧ h'.get? a = some o' := fun a o' e na => ⟨na, (hs.2 a fun q => na (q ▸ wz)).trans e⟩
    refine h z h' tk hz' hs ⟨⟨?_, ?_, ?_, o.wn, o.wf⟩, o.wl, o.wc, o.eo, ?_⟩
    · exact fun b o' e => (hs.2 b fun q => by rw [q, o.wn z wz] at e; cases e).trans (o.stay b o' e)
    · refine ff_of (fun b o' e nf => ?_) o.ff
      by_cases hbz : b = z
      · subst hbz
        exact f'.own hz
      · exact ⟨o', (hs.2 b hbz).trans e, nf⟩
    · intro a ha
      by_cases haz : a = z
      · subst haz
        obtain ⟨o', e, _⟩ := f'.own hz
        exact ⟨o', e⟩
      · obtain ⟨o', e⟩ := o.wd a ha
        exact ⟨o', (hs.2 a haz).trans e⟩
    · refine ⟨_, f', fun y P' e => ?_⟩
      by_cases hy : y = x
      · subst hy
        rw [List.lookup_cons_self] at e
        cases e
        exact ⟨nk.name, v, by simp, P.st p sk⟩
      · rw [List.lookup_cons, beq_eq_false_iff_ne.mpr hy] at e
        obtain ⟨a, u, b, c⟩ := r y P' e
        exact ⟨a, u, by simp [hy, b], P'.st c sk⟩
  rcases nk with l | ⟨l, c, hc⟩
  · obtain ⟨m, hm, hmx⟩ := f.ns
    refine wpAny_storeName_local l hm (fun h' hn hs => fin env.locals h' _ (.inl rfl) hs ⟨⟨_, hn, fun y hy => ?_⟩, fun y c hc => ?_⟩) (by rw [o.eo.kind]; rfl)
    · by_cases hyx : y = x
      · simp [hyx]
      · simp [hyx, hmx y hy]
    · have hyx : y ≠ x := fun q => o.eo.nl y c hc (q ▸ l)
      have hcl : c ≠ env.locals := fun q => by
        obtain ⟨oc, e1, e2⟩ := f.cell y c hc
        obtain ⟨ol, es, ep, e3, e4, _⟩ := hm
        rw [q, e3] at e1; injection e1 with e1; subst e1
        rw [e4] at e2; cases e2
      simp only [hyx, if_false]
      exact (f.cell y c hc).sameBut hs hcl
  · refine wpAny_storeName_cell o.eo.kind l hc (f.cell x c hc) fun h' hc' hs => fin c h' _ (.inr ⟨x, .head _, hc⟩) hs ⟨?_, fun y c' hy => ?_⟩
    · obtain ⟨m, hm, hmx⟩ := f.ns
      have hcl : env.locals ≠ c := fun q => by
        obtain ⟨oc, e1, e2⟩ := f.cell x c hc
        obtain ⟨ol, es, ep, e3, e4, _⟩ := hm
        rw [← q, e3] at e1; injection e1 with e1; subst e1
        rw [e4] at e2; cases e2
      refine ⟨m, hm.sameBut hs hcl, fun y hy => ?_⟩
      have hyx : y ≠ x := fun q => by rw [q, l] at hy; cases hy
      simp [hyx, hmx y hy]
    · by_cases hyx : y = x
      · subst hyx
        rw [hc] at hy; cases hy
        simpa using hc'
      · simp only [hyx, if_false]
        exact (f.cell y c' hy).sameBut hs fun q => hyx (o.eo.inj y x c (q ▸ hy) hc)

/-- a change at places that are written and not the frame's own -/
theorem Ok.upd {h' : Heap} {tk : Nat} (o : Ok hb W frs env σ s) (Z : Addr → Prop) (hk : ∀ a ob, s.heap.get? a = some ob → ¬ Z a → h'.get? a = some ob) (hz : ∀ z, Z z → W z ∧ z ∉ frS frs ∧ ¬ Own env z ∧ ∃ ob, h'.get? z = some ob) :
    Ok hb W frs env σ { s with heap := h', toks := tk } := by
  have hb' : ∀ b o', hb.get? b = some o' → ¬ Z b := fun b o' e q => by rw [o.wn b (hz b q).1] at e; cases e
  refine ⟨⟨fun b o' e => hk b o' (o.stay b o' e) (hb' b o' e), ?_, fun a ha => ?_, o.wn, o.wf⟩, o.wl, o.wc, o.eo, ?_⟩
  · have : ∀ {l : List Env}, (∀ a ∈ frS l, a ∈ frS frs) → s.heap.FunFrames hb l → h'.FunFrames hb l := by
      intro l
      induction l with
      | nil => intro _ _; trivial
      | cons e rest ih =>
        rintro hsub ⟨h1, ⟨L, ob, h2, h3, h4, h5⟩, h6⟩
        have hm : ∀ a ∈ frS rest, a ∈ frS frs := fun a ha => hsub a (by unfold frS at ha ⊢; rw [List.filterMap_cons, h2]; exact .tail _ ha)
        have hL : L ∈ frS frs := hsub L (by unfold frS; rw [List.filterMap_cons, h2]; exact .head _)
        exact ⟨h1, ⟨L, ob, h2, h3, hk L ob h4 fun q => (hz L q).2.1 hL, h5⟩, ih hm h6⟩
    exact this (fun _ h => h) o.ff
  · by_cases hq : Z a
    · exact (hz a hq).2.2.2
    · obtain ⟨ob, e⟩ := o.wd a ha
      exact ⟨ob, hk a ob e hq⟩
  · obtain ⟨μ, f, r⟩ := o.nm
    refine ⟨μ, ⟨?_, fun y c hc => ?_⟩, fun y P e => ⟨(r y P e).1, ?_⟩⟩
    · obtain ⟨m, ⟨ob, es, ep, e, q⟩, hm⟩ := f.ns
      exact ⟨m, ⟨ob, es, ep, hk _ ob e fun q => (hz _ q).2.2.1 (.inl rfl), q⟩, hm⟩
    · obtain ⟨ob, e, q⟩ := f.cell y c hc
      exact ⟨ob, hk _ ob e fun q => (hz _ q).2.2.1 (.inr ⟨y, hc⟩), q⟩
    · obtain ⟨v, e1, e2⟩ := (r y P e).2
      exact ⟨v, e1, P.st e2 fun a ob q na => ⟨na, hk a ob q fun q' => na (hz a q').1⟩⟩

theorem Ok.sub {σ' : List (Str × VP)} (o : Ok hb W frs env σ s) (h : ∀ x P, σ'.lookup x = some P → σ.lookup x = some P) : Ok hb W frs env σ' s :=
  { toSt := o.toSt, wl := o.wl, wc := o.wc, eo := o.eo, nm := by obtain ⟨μ, f, r⟩ := o.nm; exact ⟨μ, f, fun x P e => r x P (h x P e)⟩ }

/-- more written places -/
theorem Ok.more {W' : Addr → Prop} (o : Ok hb W frs env σ s) (hW : ∀ a, W a → W' a) (hn : ∀ a, W' a → ¬ W a → s.heap.get? a = none → False)
    (hf : ∀ a, W' a → ¬ W a → hb.get? a = none) (hav : ∀ x P v, σ.lookup x = some P → P.ok W s.heap v → P.ok W' s.heap v) : Ok hb W' frs env σ s :=
  { stay := o.stay, ff := o.ff
    wd := fun a ha => by
      by_cases q : W a
      · exact o.wd a q
      · cases e : s.heap.get? a with
        | none => exact (hn a ha q e).elim
        | some ob => exact ⟨ob, rfl⟩
    wn := fun a ha => by
      by_cases q : W a
      · exact o.wn a q
      · exact hf a ha q
    wf := fun a ha => hW a (o.wf a ha), wl := hW _ o.wl, wc := fun x c e => hW c (o.wc x c e), eo := o.eo
    nm := by obtain ⟨μ, f, r⟩ := o.nm; exact ⟨μ, f, fun x P e => ⟨(r x P e).1, let ⟨v, e1, e2⟩ := (r x P e).2; ⟨v, e1, hav x P v e e2⟩⟩⟩ }
end
end Mine
end

section
open PySem PySem.W PyProof.Rows PySem.Calls
set_option Elab.async false
set_option autoImplicit false
set_option linter.unusedVariables false
namespace Mine

/-! ## closures and the blocks of comprehensions -/
def clAcc (cells : List (Str × Addr)) : List (Str × NameKind) → List (Str × Addr) → List (Str × Addr)
  | [], acc => acc
  | (x, k) :: r, acc => if k == .free then clAcc cells r ((x, (cells.lookup x).getD 0) :: acc) else clAcc cells r acc

theorem closure_go {env : Env} (f : Str × NameKind → List (Str × Addr) → Sem (ForInStep (List (Str × Addr))))
    (hf : ∀ x k cs, f (x, k) cs = if k == .free then (do let c ← cellOf env x; pure (.yield ((x, c) :: cs))) else pure (.yield cs)) :
    ∀ (names : List (Str × NameKind)) (acc : List (Str × Addr)), (∀ x ∈ names, x.2 = .free → ∃ c, env.cells.lookup x.1 = some c) → forIn names acc f = pure (clAcc env.cells names acc)
  | [], acc, _ => by rw [List.forIn_nil]; rfl
  | (x, k) :: r, acc, h => by
    rw [List.forIn_cons, hf]
    unfold clAcc
    by_cases hk : (k == .free) = true
    · rw [if_pos hk, if_pos hk]
      obtain ⟨c, hc⟩ := h (x, k) (.head _) (by simpa using hk)
      have hc' : env.cells.lookup x = some c := hc
      unfold cellOf
      rw [hc', ← closure_go f hf r _ fun y hy => h y (.tail _ hy)]
      rfl
    · rw [if_neg hk, if_neg hk, ← closure_go f hf r _ fun y hy => h y (.tail _ hy)]
      rfl

theorem closureFor_ok {scope : Scope} {env : Env} (h : ∀ x ∈ scope.names, x.2 = .free → ∃ c, env.cells.lookup x.1 = some c) : closureFor scope env = pure (clAcc env.cells scope.names []) := by
  have e := closure_go (env := env) (fun x cs => match x with | (name, kind) => if kind == NameKind.free then (do let c ← cellOf env name; pure (ForInStep.yield ((name, c) :: cs))) else pure (ForInStep.yield cs)) (fun x k cs => rfl) scope.names [] h
  unfold closureFor
  exact (congrArg (fun t : Sem (List (Str × Addr)) => t >>= fun r => pure r) e)

theorem clAcc_free {cells : List (Str × Addr)} {x : Str} : ∀ {names : List (Str × NameKind)} {acc : List (Str × Addr)}, (∀ c, acc.lookup x = some c → c = (cells.lookup x).getD 0) → ((x, NameKind.free) ∈ names ∨ (acc.lookup x).isSome = true) →
    (clAcc cells names acc).lookup x = some ((cells.lookup x).getD 0)
  | [], acc, h1, h2 => by
    rcases h2 with h2 | h2
    · cases h2
    · obtain ⟨c, hc⟩ := Option.isSome_iff_exists.mp h2
      show acc.lookup x = _
      rw [hc, h1 c hc]
  | (y, k) :: r, acc, h1, h2 => by
    unfold clAcc
    by_cases hk : (k == .free) = true
    · rw [if_pos hk]
      have hk' : k = .free := by simpa using hk
      by_cases hxy : x = y
      · subst hxy
        exact clAcc_free (fun c hc => by rw [List.lookup_cons_self] at hc; exact (Option.some.inj hc).symm) (.inr (by rw [List.lookup_cons_self]; rfl))
      · have e : ((y, (cells.lookup y).getD 0) :: acc).lookup x = acc.lookup x := by rw [List.lookup_cons, beq_eq_false_iff_ne.mpr hxy]
        refine clAcc_free (fun c hc => h1 c (e ▸ hc)) ?_
        rw [e]
        rcases h2 with h2 | h2
        · cases h2 with
          | head => exact absurd rfl hxy
          | tail _ m => exact .inl m
        · exact .inr h2
    · rw [if_neg hk]
      refine clAcc_free h1 ?_
      rcases h2 with h2 | h2
      · cases h2 with
        | head => exact absurd rfl hk
        | tail _ m => exact .inl m
      · exact .inr h2
theorem clAcc_not {cells : List (Str × Addr)} {x : Str} : ∀ {names : List (Str × NameKind)} {acc : List (Str × Addr)}, (x, NameKind.free) ∉ names → (clAcc cells names acc).lookup x = acc.lookup x
  | [], acc, h => rfl
  | (y, k) :: r, acc, h => by
    unfold clAcc
    by_cases hk : (k == .free) = true
    · rw [if_pos hk]
      have hk' : k = .free := by simpa using hk
      have hxy : x ≠ y := fun q => h (by rw [q, hk']; exact .head _)
      rw [clAcc_not fun m => h (.tail _ m), List.lookup_cons, beq_eq_false_iff_ne.mpr hxy]
    · rw [if_neg hk]
      exact clAcc_not fun m => h (.tail _ m)

theorem cellsFrom_app : ∀ (names : List (Str × NameKind)) (n : Nat) (acc : List (Str × Addr)), cellsFrom n names acc = cellsFrom n names [] ++ acc
  | [], n, acc => rfl
  | (x, k) :: r, n, acc => by
    unfold cellsFrom
    split
    · rw [cellsFrom_app r (n + 1) ((x, n) :: acc), cellsFrom_app r (n + 1) [(x, n)], List.append_assoc]; rfl
    · exact cellsFrom_app r n acc
theorem cellsFrom_mem : ∀ {names : List (Str × NameKind)} {n : Nat} {x : Str} {c : Addr}, (x, c) ∈ cellsFrom n names [] → (x, NameKind.cell) ∈ names ∧ n ≤ c
  | [], n, x, c, h => by cases h
  | (y, k) :: r, n, x, c, h => by
    unfold cellsFrom at h
    split at h
    · rename_i hk
      have hk' : k = .cell := by simpa using hk
      rw [cellsFrom_app] at h
      rcases List.mem_append.mp h with h | h
      · obtain ⟨a, b⟩ := cellsFrom_mem h
        exact ⟨.tail _ a, by omega⟩
      · rcases List.mem_cons.mp h with e | h
        · cases e; exact ⟨hk' ▸ .head _, Nat.le_refl _⟩
        · cases h
    · obtain ⟨a, b⟩ := cellsFrom_mem h
      exact ⟨.tail _ a, b⟩
theorem cellsFrom_has : ∀ {names : List (Str × NameKind)} {n : Nat} {x : Str}, (x, NameKind.cell) ∈ names → ∃ c, (cellsFrom n names []).lookup x = some c := by
  intro names n x h
  have : ((cellsFrom n names []).lookup x).isSome = true := by
    induction names generalizing n with
    | nil => cases h
    | cons p r ih =>
      obtain ⟨y, k⟩ := p
      unfold cellsFrom
      split
      · rw [cellsFrom_app, List.lookup_append]
        by_cases hxy : x = y
        · subst hxy
          cases hq : (cellsFrom (n + 1) r []).lookup x <;> simp [List.lookup_cons_self]
        · cases h with
          | head => exact absurd rfl hxy
          | tail _ m => have := ih (n := n + 1) m; obtain ⟨c, hc⟩ := Option.isSome_iff_exists.mp this; rw [hc]; rfl
      · rename_i hk
        cases h with
        | head => exact absurd rfl hk
        | tail _ m => exact ih m
  exact Option.isSome_iff_exists.mp this

def scopeOk (scope : Scope) : Bool := scope.kind == .function && scope.names.all fun p => scope.names.lookup p.1 == some p.2
theorem scopeOk.kind {scope : Scope} (h : scopeOk scope = true) : scope.kind = .function := by
  unfold scopeOk at h; simp only [Bool.and_eq_true] at h; simpa using h.1
theorem scopeOk.look {scope : Scope} (h : scopeOk scope = true) {x : Str} {k : NameKind} (m : (x, k) ∈ scope.names) : scope.names.lookup x = some k := by
  unfold scopeOk at h; simp only [Bool.and_eq_true, List.all_eq_true] at h; simpa using h.2 (x, k) m
theorem scopeOk.mem {scope : Scope} {x : Str} {k : NameKind} (m : scope.names.lookup x = some k) : (x, k) ∈ scope.names := mem_of_lookup m

theorem relabel_look {scope : Scope} {env : Env} {x : Str} : (relabel scope env).names.lookup x = (scope.names.lookup x).map fun k => if (k == NameKind.free && env.scope.kind == .function && env.kindOf x == some .cell) = true then NameKind.cell else k := by
  unfold relabel
  dsimp only
  induction scope.names with
  | nil => rfl
  | cons p r ih =>
    obtain ⟨y, k⟩ := p
    rw [List.map_cons]
    by_cases hxy : x = y
    · subst hxy
      rw [List.lookup_cons_self]
      by_cases hc : (k == NameKind.free && env.scope.kind == .function && env.kindOf x == some .cell) = true
      · simp only [hc, if_true, List.lookup_cons_self, Option.map_some]
      · rw [if_neg hc]; simp only [List.lookup_cons_self, Option.map_some]; rw [if_neg hc]
    · rw [show List.lookup x ((y, k) :: r) = List.lookup x r from by rw [List.lookup_cons, beq_eq_false_iff_ne.mpr hxy]]
      rw [← ih]
      by_cases hc : (k == NameKind.free && env.scope.kind == .function && env.kindOf y == some .cell) = true
      · simp only [hc, if_true, List.lookup_cons, beq_eq_false_iff_ne.mpr hxy]
      · rw [if_neg hc]; simp only [List.lookup_cons, beq_eq_false_iff_ne.mpr hxy]

/-- the block of a comprehension -/
def cE (scope : Scope) (env : Env) (C : Addr) : Env := compEnvC scope (cellsFrom (C + 1) scope.names (clAcc env.cells scope.names [])) C env

theorem cE_cells {scope : Scope} {env : Env} {C : Addr} (hs : scopeOk scope = true) {x : Str} {c : Addr} (h : (cE scope env C).cells.lookup x = some c) :
    ((x, NameKind.cell) ∈ scope.names ∧ (cellsFrom (C + 1) scope.names []).lookup x = some c) ∨ ((x, NameKind.free) ∈ scope.names ∧ c = (env.cells.lookup x).getD 0) := by
  have h' : (cellsFrom (C + 1) scope.names (clAcc env.cells scope.names [])).lookup x = some c := h
  rw [cellsFrom_app, List.lookup_append] at h'
  cases hq : (cellsFrom (C + 1) scope.names []).lookup x with
  | some c' =>
    rw [hq] at h'
    have : c' = c := Option.some.inj h'
    subst this
    exact .inl ⟨(cellsFrom_mem (mem_of_lookup hq)).1, rfl⟩
  | none =>
    rw [hq] at h'
    have h2 : (clAcc env.cells scope.names []).lookup x = some c := h'
    by_cases hf : (x, NameKind.free) ∈ scope.names
    · rw [clAcc_free (fun c hc => by cases hc) (.inl hf)] at h2
      exact .inr ⟨hf, (Option.some.inj h2).symm⟩
    · rw [clAcc_not hf] at h2
      cases h2
theorem cE_free {scope : Scope} {env : Env} {C : Addr} (hs : scopeOk scope = true) {x : Str} {c : Addr} (hf : scope.names.lookup x = some .free) (hc : env.cells.lookup x = some c) : (cE scope env C).cells.lookup x = some c := by
  show (cellsFrom (C + 1) scope.names (clAcc env.cells scope.names [])).lookup x = some c
  rw [cellsFrom_app, List.lookup_append]
  have : (cellsFrom (C + 1) scope.names []).lookup x = none := by
    cases hq : (cellsFrom (C + 1) scope.names []).lookup x with
    | none => rfl
    | some c' =>
      have := scopeOk.look hs (cellsFrom_mem (mem_of_lookup hq)).1
      rw [hf] at this; cases this
  rw [this, clAcc_free (fun c hc => by cases hc) (.inl (scopeOk.mem hf)), hc]
  rfl
end Mine
end

section
open PySem PySem.W PyProof.Rows PySem.Calls
set_option Elab.async false
set_option autoImplicit false
set_option linter.unusedVariables false
namespace Mine

theorem newFunctionEnv_comp {M : Model} {A : Around} {E : Value → Shared → Prop} {s : Shared} {scope : Scope} {globals : Addr} {cl : List (Str × Addr)} {qual : Str} {env : Env} {Q : Env → Shared → Prop}
    (h : Q (newEnv scope s.heap.objs.size globals (cellsFrom (s.heap.objs.size + 1) scope.names cl) qual none .none (some env) builtinsNs) { s with heap := pushCells (s.heap.push { cls := .type "dict", data := .dict #[] }) scope.names }) :
    wpAny M A (newFunctionEnv scope globals cl [] qual none .none (some env)) Q E s := by
  simp only [newFunctionEnv, Option.isSome_some, if_true]
  refine wpAny_bind (wpAny_alloc ?_)
  refine wpAny_bind (wpAny_layCells _ (fun name kind cells => by cases hkc : kind == NameKind.cell <;> simp [hkc]) _ _ _ _ ?_)
  rw [show ({ s with heap := s.heap.push { cls := .type "dict", data := .dict #[] } } : Shared).heap.objs.size = s.heap.objs.size + 1 from Heap.size_push ..]
  rw [List.forIn_nil]
  exact wpAny_bind (wpAny_pure (wpAny_pure h))

def restr (σ : List (Str × VP)) (scope : Scope) : List (Str × VP) := σ.filter fun p => scope.names.lookup p.1 == some .free
theorem restr_look {scope : Scope} {x : Str} {P : VP} : ∀ {σ : List (Str × VP)}, (restr σ scope).lookup x = some P → σ.lookup x = some P ∧ scope.names.lookup x = some .free
  | [], h => by cases h
  | (y, Q) :: r, h => by
    unfold restr at h
    rw [List.filter_cons] at h
    by_cases hxy : x = y
    · subst hxy
      split at h
      · rename_i hq
        rw [List.lookup_cons_self] at h ⊢
        exact ⟨h, by simpa using hq⟩
      · rename_i hq
        have := (restr_look (σ := r) h).2
        exact absurd (by simpa using this) hq
    · have e : List.lookup x ((y, Q) :: r) = List.lookup x r := by rw [List.lookup_cons, beq_eq_false_iff_ne.mpr hxy]
      rw [e]
      split at h
      · rw [List.lookup_cons, beq_eq_false_iff_ne.mpr hxy] at h
        exact restr_look (σ := r) h
      · exact restr_look h
def freeOk (env : Env) (σ : List (Str × VP)) (scope : Scope) : Bool := scope.names.all fun p => p.2 != .free || ((σ.lookup p.1).isSome && env.kindOf p.1 != some .local)

section
variable {prog : Program} {w : World} {hb : Heap} {n : Nat} {env : Env} {σ : List (Str × VP)} {W : Addr → Prop} {frs : List Env} {s s₃ : Shared} {scope : Scope}

theorem freeOk.cell (hf : freeOk env σ scope = true) (o : Ok hb W frs env σ s) : ∀ x ∈ scope.names, x.2 = .free → ∃ c, env.cells.lookup x.1 = some c := by
  intro x hx hk
  unfold freeOk at hf
  have := List.all_eq_true.mp hf x hx
  rw [hk] at this
  simp only [bne_self_eq_false, Bool.false_or, Bool.and_eq_true] at this
  obtain ⟨h1, h2⟩ := this
  obtain ⟨P, hP⟩ := Option.isSome_iff_exists.mp h1
  obtain ⟨μ, f, r⟩ := o.nm
  rcases (r x.1 P hP).1 with q | ⟨_, q⟩
  · rw [q] at h2; simp at h2
  · exact q

theorem dom_fresh (k : Kp (frS frs) s s₃) {a : Addr} (ha : s₃.heap.objs.size ≤ a) : s.heap.get? a = none := by
  cases e : s.heap.get? a with
  | none => rfl
  | some ob =>
    obtain ⟨_, sl, e'⟩ := k.same a ob e
    exact absurd (Heap.lt_size e') (Nat.not_lt.mpr ha)

theorem ok_comp (o : Ok hb W frs env σ s) (k : Kp (frS frs) s s₃) (hs : scopeOk scope = true) (hf : freeOk env σ scope = true) (X : Addr → Prop) (hX : ∀ a, X a → s.heap.get? a = none ∧ ∃ ob, s₃.heap.get? a = some ob) :
    Ok hb (fun a => W a ∨ X a ∨ Own (cE scope env s₃.heap.objs.size) a) frs (cE scope env s₃.heap.objs.size) (restr σ scope)
      { s₃ with heap := pushCells (s₃.heap.push { cls := .type "dict", data := .dict #[] }) scope.names } ∧
    (∀ a, Own (cE scope env s₃.heap.objs.size) a → W a ∨ s₃.heap.objs.size ≤ a) ∧
    (pushCells (s₃.heap.push { cls := .type "dict", data := .dict #[] }) scope.names).Ns s₃.heap.objs.size (fun _ => none) := by
  have o₃ := o.kp k
  have hkp : ∀ a ob, s₃.heap.get? a = some ob → (pushCells (s₃.heap.push { cls := .type "dict", data := .dict #[] }) scope.names).get? a = some ob := fun a ob e => pushCells_keeps _ _ _ _ (Heap.get?_push_of_some _ e)
  have ok := cellsFrom_ok scope.names (s₃.heap.push { cls := .type "dict", data := .dict #[] }) (s₃.heap.objs.size + 1) [] ⟨fun _ _ hm => (nomatch hm), List.Pairwise.nil⟩ (by rw [Heap.size_push]; exact Nat.le_refl _)
  rw [Heap.size_push] at ok
  have hfc := freeOk.cell hf o
  have hns : (pushCells (s₃.heap.push { cls := .type "dict", data := .dict #[] }) scope.names).Ns s₃.heap.objs.size (fun _ => none) := (Heap.Ns.new s₃.heap (.type "dict")).keeps (pushCells_keeps _ _)
  have own : ∀ a, Own (cE scope env s₃.heap.objs.size) a → W a ∨ (s₃.heap.objs.size ≤ a ∧ ∃ ob, (pushCells (s₃.heap.push { cls := .type "dict", data := .dict #[] }) scope.names).get? a = some ob) := by
    rintro a (rfl | ⟨y, hy⟩)
    · obtain ⟨ob, _, _, e, _⟩ := hns
      exact .inr ⟨Nat.le_refl _, ob, e⟩
    · rcases cE_cells hs hy with ⟨m, hl⟩ | ⟨m, hc⟩
      · obtain ⟨⟨ob, e, _⟩, hle⟩ := ok.empty y a (mem_of_lookup hl)
        exact .inr ⟨by omega, ob, e⟩
      · obtain ⟨c, hc'⟩ := hfc _ m rfl
        rw [hc'] at hc
        exact .inl (hc ▸ o.wc y c hc')
  have dom : ∀ a ob, s.heap.get? a = some ob → ¬ W a → ¬ (W a ∨ X a ∨ Own (cE scope env s₃.heap.objs.size) a) ∧ (pushCells (s₃.heap.push { cls := .type "dict", data := .dict #[] }) scope.names).get? a = some ob := by
    intro a ob e na
    have e₃ := (k.same a ob e).1 fun m => na (o.wf a m)
    refine ⟨?_, hkp a ob e₃⟩
    rintro (h | h | h)
    · exact na h
    · rw [(hX a h).1] at e; cases e
    · rcases own a h with h | ⟨h, _⟩
      · exact na h
      · exact absurd (Heap.lt_size e₃) (Nat.not_lt.mpr h)
  have hbn : ∀ a, s₃.heap.objs.size ≤ a → hb.get? a = none := fun a ha => by
    cases e : hb.get? a with
    | none => rfl
    | some ob => exact absurd (Heap.lt_size (o₃.stay a ob e)) (Nat.not_lt.mpr ha)
  refine ⟨⟨⟨fun b ob e => hkp b ob (o₃.stay b ob e), ff_of (fun b ob e nf => ⟨ob, hkp b ob e, nf⟩) o₃.ff, ?_, ?_, fun a ha => .inl (o.wf a ha)⟩, .inr (.inr (.inl rfl)), fun x c e => .inr (.inr (.inr ⟨x, e⟩)), ⟨(show scope.kind = .function from scopeOk.kind hs), o.eo.glob, o.eo.blt, ?_, ?_⟩, ?_⟩, ?_, hns⟩
  · rintro a (h | h | h)
    · obtain ⟨ob, e⟩ := o₃.wd a h; exact ⟨ob, hkp a ob e⟩
    · obtain ⟨ob, e⟩ := (hX a h).2; exact ⟨ob, hkp a ob e⟩
    · rcases own a h with h | ⟨_, h⟩
      · obtain ⟨ob, e⟩ := o₃.wd a h; exact ⟨ob, hkp a ob e⟩
      · exact h
  · rintro a (h | h | h)
    · exact o.wn a h
    · cases e : hb.get? a with
      | none => rfl
      | some ob => have := o.stay a ob e; rw [(hX a h).1] at this; cases this
    · rcases own a h with h | ⟨h, _⟩
      · exact o.wn a h
      · exact hbn a h
  · intro x y c hx hy
    rcases cE_cells hs hx with ⟨m, hl⟩ | ⟨m, hc⟩ <;> rcases cE_cells hs hy with ⟨m', hl'⟩ | ⟨m', hc'⟩
    · exact name_of_addr ok.apart (mem_of_lookup hl) (mem_of_lookup hl')
    · obtain ⟨c', e'⟩ := hfc _ m' rfl
      rw [e'] at hc'
      have hW := o₃.wd c (hc' ▸ o.wc y c' e')
      obtain ⟨ob, e⟩ := hW
      have := (ok.empty x c (mem_of_lookup hl)).2
      exact absurd (Heap.lt_size e) (Nat.not_lt.mpr (Nat.le_of_succ_le this))
    · obtain ⟨c', e'⟩ := hfc _ m rfl
      rw [e'] at hc
      have hW := o₃.wd c (hc ▸ o.wc x c' e')
      obtain ⟨ob, e⟩ := hW
      have := (ok.empty y c (mem_of_lookup hl')).2
      exact absurd (Heap.lt_size e) (Nat.not_lt.mpr (Nat.le_of_succ_le this))
    · obtain ⟨c1, e1⟩ := hfc _ m rfl
      obtain ⟨c2, e2⟩ := hfc _ m' rfl
      rw [e1] at hc; rw [e2] at hc'
      have h1 : c = c1 := hc
      have h2 : c = c2 := hc'
      exact o.eo.inj x y c (h1 ▸ e1) (h2 ▸ e2)
  · intro x c hx
    show (relabel scope env).names.lookup x ≠ some .local
    rw [relabel_look]
    rcases cE_cells hs hx with ⟨m, _⟩ | ⟨m, _⟩
    · rw [scopeOk.look hs m]; simp
    · rw [scopeOk.look hs m]; simp; split <;> simp
  · obtain ⟨μ, f, r⟩ := o.nm
    refine ⟨fun x => if scope.names.lookup x = some .free then μ x else none, ⟨⟨_, hns, fun x hx => ?_⟩, fun x c hx => ?_⟩, fun x P hx => ?_⟩
    · have hx' : (relabel scope env).names.lookup x = some .local := hx
      rw [relabel_look] at hx'
      by_cases hfr : scope.names.lookup x = some .free
      · rw [hfr] at hx'; simp at hx'; split at hx' <;> cases hx'
      · simp [hfr]
    · rcases cE_cells hs hx with ⟨m, hl⟩ | ⟨m, hc⟩
      · simp only [scopeOk.look hs m]
        exact (ok.empty x c (mem_of_lookup hl)).1
      · obtain ⟨c', e'⟩ := hfc _ m rfl
        have e'' : env.cells.lookup x = some c' := e'
        rw [e''] at hc
        have hcc : c = c' := hc
        subst hcc
        simp only [scopeOk.look hs m, if_true]
        obtain ⟨ob, e, q⟩ := IsCell.sameF (f.cell x c e'') k.same
        exact ⟨ob, hkp c ob e, q⟩
    · obtain ⟨h1, h2⟩ := restr_look hx
      obtain ⟨nk, v, e1, e2⟩ := r x P h1
      obtain ⟨c, hc⟩ := hfc _ (scopeOk.mem h2) rfl
      refine ⟨.inr ⟨?_, c, cE_free hs h2 hc⟩, v, by simp [h2, e1], P.st e2 dom⟩
      show (relabel scope env).names.lookup x = some .cell ∨ (relabel scope env).names.lookup x = some .free
      rw [relabel_look, h2]
      simp only [Option.map_some]
      split <;> simp
  · exact fun a ha => (own a ha).imp id fun h => h.1
end
end Mine
end

section
open PySem PySem.W PyProof.Rows PySem.Calls
set_option Elab.async false
set_option autoImplicit false
set_option linter.unusedVariables false
namespace Mine

/-! ## iterators -/
structure Itr (prog : Program) (w : World) (A : Around) (I : Addr) (fp : List Addr) (n : Nat) (P : Nat → Value → Prop) (S : Nat → Heap → Prop) : Prop extends Walks prog w A I fp [I] n P S where
  there : ∀ i h, S i h → ∃ o, h.get? I = some o
  lets : ∀ (t : Expr) (i : Nat) (s : Shared) (v : Value) (Q : Unit → Shared → Prop) (E : Value → Shared → Prop), S i s.heap → Q () s → wpAny (model prog w) A (letOwnedTupleGo t (.ref I) v) Q E s

theorem lets_of {prog : Program} {w : World} {A : Around} {s : Shared} {I : Addr} {o : Obj} {c : String} {vs : Array Value} {t : Expr} {v : Value} {Q : Unit → Shared → Prop} {E : Value → Shared → Prop}
    (ho : s.heap.get? I = some o) (hc : o.cls = .type c) (hn : (["enumerate", "zip", "dict_itemiterator", "dict_reverseitemiterator", "odict_iterator", "itertools.zip_longest", "itertools.pairwise"].contains c) = false) (hd : o.data = .fields vs)
    (h : Q () s) : wpAny (model prog w) A (letOwnedTupleGo t (.ref I) v) Q E s := by
  unfold letOwnedTupleGo
  split
  · cases v with
    | ref a =>
      refine wpAny_bind (wpAny_load ho ?_)
      rw [hc, hd]
      simp only [hn, Bool.false_and]
      exact wpAny_pure h
    | _ => exact wpAny_pure h
  · cases v with
    | ref a =>
      refine wpAny_bind (wpAny_load ho ?_)
      rw [hc, hd]
      simp only [hn, Bool.false_and]
      exact wpAny_pure h
    | _ => exact wpAny_pure h
  · exact wpAny_pure h

theorem Itr.list {prog : Program} {w : World} {A : Around} (hh : A.handled = none) (I ax : Addr) (hne : ax ≠ I) (items : Array Value) :
    Itr prog w A I [I, ax] items.size (fun i v => items[i]? = some v) (fun i h => h.IsListIter I ax i ∧ h.IsList ax items) :=
  { Walks.list hh I ax hne items with
    there := fun i h ⟨⟨o, e, _⟩, _⟩ => ⟨o, e⟩
    lets := fun t i s v Q E ⟨⟨o, e, hc, hd⟩, _⟩ hq => lets_of e hc (by decide) hd hq }
theorem Itr.range {prog : Program} {w : World} {A : Around} (hh : A.handled = none) (I : Addr) (a c : Int) (n : Nat) :
    Itr prog w A I [I] n (fun i v => i < n ∧ ∃ t, v = .int (a + i * c) t) (fun i h => IsRangeIter h I (a + (i : Nat) * c) ((n : Int) - (i : Nat)) c) :=
  { (Walks.range hh I a c n) with
    item := fun i s Q E hi st hQ => (Walks.range hh I a c n).item i s Q E hi st fun v h' tk p => hQ v h' tk ⟨hi, p⟩
    there := fun i h e => ⟨_, e⟩
    lets := fun t i s v Q E e hq => lets_of e rfl (by decide) rfl hq }

/-- what may be walked over -/
def IterP {α : Type} (prog : Program) (w : World) (hb : Heap) (P : VP) (xs : List α) (R : α → VP) : Prop :=
  ∀ (W : Addr → Prop) (frs : List Env) (A : Around) (s : Shared) (E : Value → Shared → Prop) (v : Value) (Q : Value → Shared → Prop), A.handled = none → St hb W frs s → P.ok W s.heap v →
    (∀ I fp Pt S h', Itr prog w A I fp xs.length Pt S → (∀ a o, s.heap.get? a = some o → h'.get? a = some o) → s.heap.get? I = none → (∀ b ∈ fp, b = I ∨ (¬ W b ∧ ∃ o, s.heap.get? b = some o)) → S 0 h' →
      (∀ i u, Pt i u → ∃ x, xs[i]? = some x ∧ (R x).ok W s.heap u) → Q (.ref I) { s with heap := h' }) →
    wpAny (model prog w) A (pyIter v) Q E s

theorem iterP_list {α : Type} {prog : Program} {w : World} {hb : Heap} {R : α → VP} {xs : List α} : IterP prog w hb (vList R xs) xs R := by
  rintro W frs A s E v Q hh o ⟨lm, a, vs, rfl, nw, pl, p⟩ h
  refine wpAny_pyIter_list pl.isList ?_
  have hne : a ≠ s.heap.objs.size := by
    obtain ⟨_, e⟩ := pl
    exact Nat.ne_of_lt (Heap.lt_size e)
  have hl := Paired.length p
  have it := Itr.list (prog := prog) (w := w) hh s.heap.objs.size a hne vs.toArray
  have hz : vs.toArray.size = xs.length := by rw [← hl]; simp
  rw [hz] at it
  refine h s.heap.objs.size _ _ _ _ it (fun a o e => Heap.get?_push_of_some _ e) ?_ ?_ ⟨⟨_, Heap.get?_push_size _ rfl, rfl, rfl⟩, pl.isList.push _⟩ ?_
  · cases e : s.heap.get? s.heap.objs.size with
    | none => rfl
    | some ob => exact absurd (Heap.lt_size e) (Nat.lt_irrefl _)
  · intro b hb
    rcases List.mem_cons.mp hb with rfl | hb
    · exact .inl rfl
    · rcases List.mem_cons.mp hb with rfl | hb
      · obtain ⟨_, e⟩ := pl; exact .inr ⟨nw, _, e⟩
      · cases hb
  · intro i u hu
    have hu' : vs[i]? = some u := by simpa using hu
    exact Paired.get' p hu'

/-- the ints of a range -/
def rangeL (a b : Int) : List Int := (List.range (b - a).toNat).map fun i : Nat => a + (i : Int)
theorem rangeL_len (a b : Int) : (rangeL a b).length = (b - a).toNat := by simp [rangeL]

theorem iterP_range {prog : Program} {w : World} {hb : Heap} {a b : Int} (h1 : -1000 ≤ a ∧ a ≤ 1000) (h2 : -1000 ≤ b ∧ b ≤ 1000) : IterP prog w hb (vRange a b) (rangeL a b) vInt := by
  rintro W frs A s E v Q hh o ⟨r, t, u, z, rfl, nw, hr⟩ h
  have hsz : Builtin.Range.rangeSize a b 1 = (((rangeL a b).length : Nat) : Int) := by
    rw [rangeL_len]
    unfold Builtin.Range.rangeSize
    rw [if_pos (by decide)]
    split <;> omega
  refine wpAny_pyIter_range hr (by
    unfold Builtin.Range.small
    rw [hsz, rangeL_len]
    simp only [Builtin.Range.rangeFitsLong, Bool.and_eq_true, decide_eq_true_eq, Bool.or_eq_true, beq_iff_eq]
    rw [if_pos (by decide)]
    simp only [Bool.and_eq_true, decide_eq_true_eq]
    omega) ?_
  have it := Itr.range (prog := prog) (w := w) hh s.heap.objs.size a 1 (rangeL a b).length
  refine h s.heap.objs.size _ _ _ _ it (fun a o e => Heap.get?_push_of_some _ e) ?_ ?_ ?_ ?_
  · cases e : s.heap.get? s.heap.objs.size with
    | none => rfl
    | some ob => exact absurd (Heap.lt_size e) (Nat.lt_irrefl _)
  · intro b hb
    exact .inl (List.mem_singleton.mp hb)
  · show IsRangeIter _ _ _ _ _
    rw [hsz]
    simpa using Heap.get?_push_size _ rfl
  · rintro i u ⟨hi, t, rfl⟩
    rw [rangeL_len] at hi
    refine ⟨a + (i : Int), ?_, t, by simp⟩
    unfold rangeL
    simp [hi]
end Mine
end

section
open PySem PySem.W PyProof.Rows PySem.Calls
set_option Elab.async false
set_option autoImplicit false
set_option linter.unusedVariables false
namespace Mine

def testsOf (ifs : List Expr) (env : Env) : Sem Bool := forIn ifs true fun c r => if r = true then do let ok ← isTrue c env (eval c env); pure (ForInStep.yield ok) else pure (ForInStep.yield r)
def compActK (elt : Expr) (gens : List Comprehension) (e : Expr) (d : Nat) (acc : Value) (env : Env) (k : Sem PySem.Fin) : Sem PySem.Fin :=
  match gens[d + 1]? with
  | some g' => eval g'.iter env >>= fun x => standAt g'.iter.pos >>= fun _ => foldedSetIterable g'.iter env x >>= fun x => holding [x] (pyIter x) >>= fun it => runOwn (.compStart e (d + 1) it acc env) env >>= fun _ => k
  | none => (eval elt env >>= fun x => call (.builtin "list.append") [acc, x] >>= fun _ => pure ()) >>= fun _ => k
/-- what a turn of the clause d does behind its tests -/
def ActW (prog : Program) (w : World) (A : Around) (elt : Expr) (gens : List Comprehension) (e : Expr) (d : Nat) (acc : Value) (env : Env) (Q : Shared → Prop) (E : Value → Shared → Prop) (s : Shared) : Prop :=
  match gens[d + 1]? with
  | some g' => wpAny (model prog w) A (eval g'.iter env) (fun x s₁ => wpAny (model prog w) A (foldedSetIterable g'.iter env x) (fun x s₂ => wpAny (model prog w) A (pyIter x) (fun it s₃ => wpAny (model prog w) A (runOwn (.compStart e (d + 1) it acc env) env) (fun _ s₄ => Q s₄) E s₃) E s₂) E s₁) E s
  | none => wpAny (model prog w) A (eval elt env) (fun x s₁ => wpAny (model prog w) A (call (.builtin "list.append") [acc, x]) (fun _ s₂ => Q s₂) E s₁) E s

theorem compTurn_eq {elt : Expr} {gens : List Comprehension} {scope : Scope} {pos : Pos} {d : Nat} {t iter : Expr} {ifs : List Expr} (hg : gens[d]? = some ⟨t, iter, ifs, 0⟩) (ha : ∀ g', gens[d + 1]? = some g' → g'.is_async = 0) (it acc : Value) (env : Env) :
    compTurn (.ListComp elt gens scope pos) d it acc env = (standAt iter.pos >>= fun _ => pyNext it >>= fun r => match r with
      | none => pure (.done .next)
      | some v => letOwnedTupleGo t it v >>= fun _ => assign t env v >>= fun _ => testsOf ifs env >>= fun ok =>
        if ok = true then compActK elt gens (.ListComp elt gens scope pos) d acc env (again (.compLoop (.ListComp elt gens scope pos) d it acc env)) else again (.compLoop (.ListComp elt gens scope pos) d it acc env)) := by
  unfold compTurn compActK
  simp only [hg]
  cases h : gens[d + 1]? with
  | none => rfl
  | some g' =>
    obtain ⟨t', i', f', a'⟩ := g'
    have : a' = 0 := ha _ h
    subst this
    rfl

section
variable {prog : Program} {w : World} {A : Around} {R : Result → Shared → Prop} {s : Shared}

/-- a loop of a comprehension, turn by turn -/
theorem comp_loop {elt : Expr} {gens : List Comprehension} {scope : Scope} {pos : Pos} {d : Nat} {t iter : Expr} {ifs : List Expr} {I : Addr} {acc : Value} {env : Env} {fp : List Addr} {n : Nat} {Pt : Nat → Value → Prop} {S : Nat → Heap → Prop}
    (hg : gens[d]? = some ⟨t, iter, ifs, 0⟩) (ha : ∀ g', gens[d + 1]? = some g' → g'.is_async = 0) (it : Itr prog w A I fp n Pt S) (K : Nat → Shared → Prop) (hst : ∀ i s, K i s → S i s.heap)
    (turn : ∀ i s v h' tk (E : Value → Shared → Prop), i < n → K i s → Pt i v → S (i + 1) h' → (∀ b o, b ≠ I → s.heap.get? b = some o → h'.get? b = some o) →
      wpAny (model prog w) A (assign t env v) (fun _ s₁ => wpAny (model prog w) A (testsOf ifs env) (fun ok s₂ => if ok = true then ActW prog w A elt gens (.ListComp elt gens scope pos) d acc env (K (i + 1)) E s₂ else K (i + 1) s₂) E s₁) E { s with heap := h', toks := tk })
    (fin : ∀ s h' tk, K n s → (∀ b o, b ≠ I → s.heap.get? b = some o → h'.get? b = some o) → R (.ok .next) { s with heap := h', toks := tk })
    (h : K 0 s) : codeAny (model prog w) A (.compLoop (.ListComp elt gens scope pos) d (.ref I) acc env) R s := by
  refine codeAny_loop rfl (fun k s => ∃ i, i ≤ n ∧ k = n - i ∧ K i s) (fun k s hI => ?_) n ⟨0, Nat.zero_le _, by lia, h⟩
  obtain ⟨i, hi, rfl, hK⟩ := hI
  show wpAny _ A ((compTurn (.ListComp elt gens scope pos) d (.ref I) acc env).onRaise (fun x => do noteFrame x env; theTreesLotGoes x)) _ _ s
  refine wpAny_noted ?_
  rw [compTurn_eq hg ha]
  refine wpAny_bind (wpAny_standAt (wpAny_bind ?_))
  by_cases hlt : i < n
  · refine it.item i s _ _ hlt (hst i s hK) fun v h' tk hp hS hk => ?_
    refine wpAny_bind (it.lets t (i + 1) _ v _ _ hS ?_)
    have hk' : ∀ b o, b ≠ I → s.heap.get? b = some o → h'.get? b = some o := fun b o hb e => hk b o (by simpa using hb) e
    refine wpAny_bind (wpAny_mono (turn i s v h' tk _ hlt hK hp hS hk') (fun _ s₁ h₁ => wpAny_bind (wpAny_mono h₁ (fun ok s₂ h₂ => ?_) fun _ _ x => x)) fun _ _ x => x)
    have ag : ∀ s', K (i + 1) s' → wpAny (model prog w) A (again (.compLoop (.ListComp elt gens scope pos) d (.ref I) acc env)) (fun fin s' => match fin with | .done f => R (.ok f) s' | .again c' => c' = .compLoop (.ListComp elt gens scope pos) d (.ref I) acc env ∧ ∃ m, m < n - i ∧ ∃ j, j ≤ n ∧ m = n - j ∧ K j s') (notedBy (model prog w) A env fun e s' => R (.error e) s') s' :=
      fun s' hs' => wpAny_pure ⟨rfl, n - (i + 1), by lia, i + 1, hlt, rfl, hs'⟩
    cases ok with
    | false =>
      simp only [Bool.false_eq_true, if_false] at h₂ ⊢
      exact ag s₂ h₂
    | true =>
      simp only [if_true] at h₂ ⊢
      unfold ActW at h₂
      unfold compActK
      cases hq : gens[d + 1]? with
      | none =>
        rw [hq] at h₂
        exact wpAny_bind (wpAny_bind (wpAny_mono h₂ (fun x s₃ h₃ => wpAny_bind (wpAny_mono h₃ (fun _ s₄ h₄ => wpAny_pure (ag s₄ h₄)) fun _ _ x => x)) fun _ _ x => x))
      | some g' =>
        rw [hq] at h₂
        exact wpAny_bind (wpAny_mono h₂ (fun x s₃ h₃ => wpAny_bind (wpAny_standAt (wpAny_bind (wpAny_mono h₃ (fun x s₄ h₄ => wpAny_bind (wpAny_holding (wpAny_mono h₄ (fun it s₅ h₅ => wpAny_bind (wpAny_mono h₅ (fun _ s₆ h₆ => ag s₆ h₆) fun _ _ x => x)) fun _ _ x => x))) fun _ _ x => x)))) fun _ _ x => x)
  · have : i = n := by lia
    subst this
    refine it.done s _ _ (hst i s hK) fun h' tk hk => wpAny_pure (fin s h' tk hK fun b o hb e => hk b o (by simpa using hb) e)
end
end Mine
end

section
open PySem PySem.W PyProof.Rows PySem.Calls
set_option Elab.async false
set_option autoImplicit false
set_option linter.unusedVariables false
namespace Mine

def Asg (prog : Program) (w : World) (hb : Heap) (n : Nat) (env : Env) (σ : List (Str × VP)) (t : Expr) (P : VP) (τ : List (Str × VP)) : Prop :=
  ∀ (W : Addr → Prop) (frs : List Env) (A : Around) (s : Shared) (E : Value → Shared → Prop) (v : Value), Rm n frs A → Ok hb W frs env σ s → P.ok W s.heap v →
    wpAny (model prog w) A (assign t env v) (fun _ s' => (∃ h' tk, s' = { s with heap := h', toks := tk } ∧ ∀ a o, s.heap.get? a = some o → ¬ OwnN env (τ.map (·.1)) a → h'.get? a = some o) ∧ Ok hb W frs env (τ ++ σ) s') E s
/-- the tests of a clause -/
def Trs (prog : Program) (w : World) (hb : Heap) (n : Nat) (env : Env) (σ : List (Str × VP)) (ifs : List Expr) (b : Bool) : Prop :=
  ∀ (W : Addr → Prop) (frs : List Env) (A : Around) (s : Shared) (E : Value → Shared → Prop), Rm n frs A → Ok hb W frs env σ s →
    wpAny (model prog w) A (testsOf ifs env) (fun c s' => Kp (frS frs) s s' ∧ c = b) E s

section
variable {prog : Program} {w : World} {hb : Heap} {n : Nat} {env : Env} {σ : List (Str × VP)} {scope : Scope}

theorem asg_name {x : Str} {pos : Pos} {P : VP} (h : StoreOk env x) : Asg prog w hb n env σ (.Name x pos) P [(x, P)] := fun W frs A s E v rm o p =>
  wpAny_assign_Name (store_ok o h p fun z h' tk hz hs o' => ⟨⟨h', tk, rfl, fun a ob e na => (hs.2 a fun q => na (q ▸ hz)).trans e⟩, o'⟩)
theorem trs_nil : Trs prog w hb n env σ [] true := fun W frs A s E rm o => wpAny_tests_nil ⟨.refl _ _, rfl⟩
theorem trs_one {c : Expr} {b : Bool} (h : Tr prog w hb n env σ c b) : Trs prog w hb n env σ [c] b := fun W frs A s E rm o => wpAny_tests_one (h W frs A s E rm o)

theorem comp_start {A : Around} {R : Result → Shared → Prop} {s : Shared} {elt : Expr} {gens : List Comprehension} {scope : Scope} {pos : Pos} {d : Nat} {t iter : Expr} {ifs : List Expr} {I : Addr} {acc : Value} {fp : List Addr} {m : Nat} {Pt : Nat → Value → Prop} {S : Nat → Heap → Prop}
    (hg : gens[d]? = some ⟨t, iter, ifs, 0⟩) (it : Itr prog w A I fp m Pt S) {i : Nat} (hS : S i s.heap)
    (h : codeAny (model prog w) A (.compLoop (.ListComp elt gens scope pos) d (.ref I) acc env) R s) : codeAny (model prog w) A (.compStart (.ListComp elt gens scope pos) d (.ref I) acc env) R s := by
  refine codeAny_of_tree ?_
  show wpAny _ _ ((compStart (.ListComp elt gens scope pos) d (.ref I) acc env).onRaise (fun x => do noteFrame x env; standAt theWindowsPlace)) _ _ s
  refine wpAny_notedAt ?_
  unfold compStart
  have hc : (clausesOf (.ListComp elt gens scope pos))[d]? = some ⟨t, iter, ifs, 0⟩ := hg
  simp only [hc]
  show wpAny _ _ (ask >>= _) _ _ s
  refine wpAny_bind (wpAny_askSetting (wpAny_ite ?_))
  split
  · first
      | exact wpAny_bind (wpAny_pure (wpAny_pure (And.intro rfl h)))
      | exact wpAny_pure (And.intro rfl h)
  · refine wpAny_bind (wpAny_rule ?_)
    refine wpAny_bind (wpAny_standAt (wpAny_bind (it.self i s _ _ hS (wpAny_pure (And.intro rfl h)))))

theorem take_succ_fm {α β : Type} {xs : List α} {p : α → Bool} {g : α → β} {i : Nat} {x : α} (h : xs[i]? = some x) : ((xs.take (i + 1)).filter p).map g = ((xs.take i).filter p).map g ++ (if p x then [g x] else []) := by
  rw [take_succ_filter p xs i x h, List.map_append]
  split <;> rfl
theorem take_fm_le {α β : Type} {xs : List α} {p : α → Bool} {g : α → β} (i : Nat) : (((xs.take i).filter p).map g).length ≤ ((xs.filter p).map g).length := by
  rw [List.length_map, List.length_map]
  exact ((List.take_sublist i xs).filter p).length_le

/-- the written places of a comprehension's block -/
def cW (W : Addr → Prop) (I D : Addr) (cenv : Env) : Addr → Prop := fun a => W a ∨ (a = I ∨ a = D) ∨ Own cenv a

theorem comp_body1 {α β : Type} {R : α → VP} {R' : β → VP} {xs : List α} {p : α → Bool} {g : α → β} {τ : α → List (Str × VP)} {elt t iter : Expr} {ifs : List Expr} {pos : Pos}
    (hs : scopeOk scope = true) (hf : freeOk env σ scope = true)
    (ha : ∀ C x, x ∈ xs → Asg prog w hb n (cE scope env C) (restr σ scope) t (R x) (τ x)) (hτ : ∀ x, ((τ x).all fun q => scope.names.lookup q.1 != some .free) = true)
    (ht : ∀ C x, x ∈ xs → Trs prog w hb n (cE scope env C) (τ x ++ restr σ scope) ifs (p x))
    (he : ∀ C x, x ∈ xs → p x = true → Ev prog w hb n (cE scope env C) (τ x ++ restr σ scope) elt (R' (g x)))
    (hτσ : ∀ x y P, (restr σ scope).lookup y = some P → (τ x ++ restr σ scope).lookup y = some P)
    (lm : ((xs.filter p).map g).length ≤ 1000)
    {W : Addr → Prop} {frs : List Env} {A : Around} {s₁ s₃ : Shared} {Rr : Result → Shared → Prop} (rm : Rm n frs A) (o₁ : Ok hb W frs env σ s₁) (k₃ : Kp (frS frs) s₁ s₃)
    {I D : Addr} {fp : List Addr} {Pt : Nat → Value → Prop} {S : Nat → Heap → Prop} (it : Itr prog w A I fp xs.length Pt S) (hI : s₁.heap.get? I = none) (hD : s₁.heap.get? D = none) (hID : I ≠ D)
    (hfp : ∀ b ∈ fp, b = I ∨ (¬ W b ∧ ∃ ob, s₁.heap.get? b = some ob)) (hS0 : S 0 s₃.heap) (hDo : s₃.heap.PlainList D [].toArray)
    (hPt : ∀ i u, Pt i u → ∃ x, xs[i]? = some x ∧ (R x).ok W s₁.heap u)
    (done : ∀ s' C, Kp (frS frs) s₁ s' → s₁.heap.get? C = none → (∃ m, s'.heap.Ns C m) → (vList R' ((xs.filter p).map g)).ok (fun a => W a ∨ a = C) s'.heap (.ref D) → C = s₃.heap.objs.size → Rr (.ok .next) s') :
    codeAny (model prog w) A (.compStart (.ListComp elt [⟨t, iter, ifs, 0⟩] scope pos) 0 (.ref I) (.ref D) (cE scope env s₃.heap.objs.size)) Rr { s₃ with heap := pushCells (s₃.heap.push { cls := .type "dict", data := .dict #[] }) scope.names } := by
  have hIo := it.there 0 _ hS0
  obtain ⟨oc, hown, hns⟩ := ok_comp o₁ k₃ hs hf (fun a => a = I ∨ a = D) (by
    rintro a (rfl | rfl)
    · exact ⟨hI, hIo⟩
    · obtain ⟨_, e⟩ := hDo; exact ⟨hD, _, e⟩)
  have hkp : ∀ a ob, s₃.heap.get? a = some ob → (pushCells (s₃.heap.push { cls := .type "dict", data := .dict #[] }) scope.names).get? a = some ob := fun a ob e => pushCells_keeps _ _ _ _ (Heap.get?_push_of_some _ e)
  have hC1 : ∀ a, s₃.heap.objs.size ≤ a → s₁.heap.get? a = none := fun a h => dom_fresh k₃ h
  have hlt : ∀ a ob, s₃.heap.get? a = some ob → a < s₃.heap.objs.size := fun a ob e => Heap.lt_size e
  have haC := ha s₃.heap.objs.size
  have htC := ht s₃.heap.objs.size
  have heC := he s₃.heap.objs.size
  generalize hC : s₃.heap.objs.size = C at *
  generalize hce : cE scope env C = cenv at *
  -- the places are apart
  have nWI : ¬ W I := fun q => by obtain ⟨ob, e⟩ := o₁.wd I q; rw [hI] at e; cases e
  have nWD : ¬ W D := fun q => by obtain ⟨ob, e⟩ := o₁.wd D q; rw [hD] at e; cases e
  have ltI : I < C := by obtain ⟨ob, e⟩ := hIo; exact hlt I ob e
  have ltD : D < C := by obtain ⟨_, e⟩ := hDo; exact hlt D _ e
  have nOI : ¬ Own cenv I := fun q => (hown I q).elim nWI fun h => absurd ltI (Nat.not_lt.mpr h)
  have nOD : ¬ Own cenv D := fun q => (hown D q).elim nWD fun h => absurd ltD (Nat.not_lt.mpr h)
  have nOf : ∀ b, ¬ W b → (∃ ob, s₁.heap.get? b = some ob) → ¬ Own cenv b := fun b nb ⟨ob, e⟩ q => (hown b q).elim nb fun h => by rw [hC1 b h] at e; cases e
  have dom1 : ∀ a ob, s₁.heap.get? a = some ob → ¬ W a → ¬ cW W I D cenv a := by
    rintro a ob e na (h | (rfl | rfl) | h)
    · exact na h
    · rw [hI] at e; cases e
    · rw [hD] at e; cases e
    · exact nOf a na ⟨ob, e⟩ h
  have nfr : ∀ a, ¬ W a → a ∉ frS frs := fun a na h => na (o₁.wf a h)
  refine comp_start (i := 0) rfl it (it.frame 0 _ _ hS0 fun b _ ob e => hkp b ob e) ?_
  refine comp_loop (n := xs.length) rfl (by intro g' h; simp at h) it
    (fun i s' => Kp (frS frs) s₁ s' ∧ Ok hb (cW W I D cenv) frs cenv (restr σ scope) s' ∧ S i s'.heap ∧ ∃ ys : List Value, s'.heap.PlainList D ys.toArray ∧ Paired (fun v z => (R' z).ok (cW W I D cenv) s'.heap v) ys (((xs.take i).filter p).map g))
    (fun i s' h => h.2.2.1) ?_ ?_ ⟨k₃.trans (Kp.all' hkp), oc, it.frame 0 _ _ hS0 fun b _ ob e => hkp b ob e, [], hDo.at fun ob e => hkp _ ob e, .nil⟩
  · rintro i s' v h' tk E hi ⟨k', oc', hS', ys, hacc, hp⟩ hpt hS1 hk
    obtain ⟨x, hx, hv⟩ := hPt i v hpt
    have hxm : x ∈ xs := List.mem_of_getElem? hx
    -- behind the iterator
    have oc2 : Ok hb (cW W I D cenv) frs cenv (restr σ scope) { s' with heap := h', toks := tk } :=
      oc'.upd (fun a => a = I) (fun a ob e na => hk a ob na e) (by rintro z rfl; exact ⟨.inr (.inl (.inl rfl)), nfr _ nWI, nOI, it.there _ _ hS1⟩)
    have kk2 : Kp (frS frs) s₁ { s' with heap := h', toks := tk } := by
      obtain ⟨h1, t1, rfl, e1⟩ := k'
      refine ⟨h', tk, rfl, fun a ob e => ?_⟩
      have hai : a ≠ I := fun q => by rw [q, hI] at e; cases e
      obtain ⟨q1, sl, q2⟩ := e1 a ob e
      exact ⟨fun nf => hk a ob hai (q1 nf), sl, hk a _ hai q2⟩
    have hv2 : (R x).ok (cW W I D cenv) h' v := (R x).st hv fun a ob e na => ⟨dom1 a ob e na, kk2.get e (nfr a na)⟩
    have acc2 : h'.PlainList D ys.toArray := hacc.at fun ob e => hk D ob hID.symm e
    have hp2 : Paired (fun v z => (R' z).ok (cW W I D cenv) h' v) ys (((xs.take i).filter p).map g) := Paired.mono hp fun _ z q => (R' z).st q fun a ob e na => ⟨na, hk a ob (fun q' => na (.inr (.inl (.inl q')))) e⟩
    refine wpAny_mono (haC x hxm _ frs A _ E v rm oc2 hv2) (fun _ s₄ h₄ => ?_) fun _ _ x => x
    obtain ⟨⟨h₄', tk₄, rfl, hk4⟩, oc4⟩ := h₄
    have nT : ∀ z, OwnN cenv ((τ x).map (·.1)) z → C ≤ z := by
      rintro z (rfl | ⟨y, hy, e⟩)
      · rw [← hce]; exact Nat.le_refl _
      · obtain ⟨q, hq, rfl⟩ := List.mem_map.mp hy
        have hnf := List.all_eq_true.mp (hτ x) q hq
        rw [← hce] at e
        rcases cE_cells hs e with ⟨m, hl⟩ | ⟨m, _⟩
        · have := (cellsFrom_mem (mem_of_lookup hl)).2; exact Nat.le_of_succ_le this
        · rw [scopeOk.look hs m] at hnf; simp at hnf
    have hk4' : ∀ a ob, h'.get? a = some ob → a < C → h₄'.get? a = some ob := fun a ob e hl => hk4 a ob e fun q => absurd hl (Nat.not_lt.mpr (nT a q))
    have lt1 : ∀ a ob, s₁.heap.get? a = some ob → a < C := fun a ob e => Nat.lt_of_not_le fun h => by rw [hC1 a h] at e; cases e
    have kk4 : Kp (frS frs) s₁ { s' with heap := h₄', toks := tk₄ } := by
      obtain ⟨h1, t1, e0, e1⟩ := kk2
      obtain ⟨h2, t2, rfl, _⟩ := k'
      refine ⟨h₄', tk₄, rfl, fun a ob e => ?_⟩
      injection e0 with e0
      subst e0
      obtain ⟨q1, sl, q2⟩ := e1 a ob e
      exact ⟨fun nf => hk4' a ob (q1 nf) (lt1 a ob e), sl, hk4' a _ q2 (lt1 a ob e)⟩
    have fpC : ∀ b ∈ fp, b < C ∧ b ≠ D ∧ b ∉ frS frs := fun b hb => by
      rcases hfp b hb with rfl | ⟨nb, ob, e⟩
      · exact ⟨ltI, hID, nfr _ nWI⟩
      · exact ⟨lt1 b ob e, (fun q => by rw [q, hD] at e; cases e), nfr b nb⟩
    have hS4 : S (i + 1) h₄' := it.frame _ _ _ hS1 fun b hb ob e => hk4' b ob e (fpC b hb).1
    have acc4 : h₄'.PlainList D ys.toArray := acc2.at fun ob e => hk4' D ob e ltD
    have hp4 : Paired (fun v z => (R' z).ok (cW W I D cenv) h₄' v) ys (((xs.take i).filter p).map g) := Paired.mono hp2 fun _ z q => (R' z).st q fun a ob e na => ⟨na, hk4 a ob e fun q' => na (.inr (.inr q'.own))⟩
    -- the tests
    refine wpAny_mono (htC x hxm _ frs A _ E rm oc4) (fun ok s₅ h₅ => ?_) fun _ _ x => x
    obtain ⟨k5, rfl⟩ := h₅
    have oc5 := oc4.kp k5
    have kk5 := kk4.trans k5
    have hS5 : S (i + 1) s₅.heap := it.frame _ _ _ hS4 fun b hb ob e => k5.get e (fpC b hb).2.2
    have acc5 : s₅.heap.PlainList D ys.toArray := acc4.at fun ob e => k5.get e (nfr D nWD)
    have hp5 := pmonoR hp4 k5.same oc4.wf
    have sub : Ok hb (cW W I D cenv) frs cenv (restr σ scope) s₅ := oc5.sub (hτσ x)
    cases hpx : p x with
    | false =>
      simp only [Bool.false_eq_true, if_false]
      refine ⟨kk5, sub, hS5, ys, acc5, ?_⟩
      rw [take_succ_fm hx, hpx]
      simpa using hp5
    | true =>
      simp only [if_true]
      unfold ActW
      simp only [List.getElem?_cons_succ, List.getElem?_nil]
      refine wpAny_mono (heC x hxm hpx _ frs A _ E rm oc5) (fun y s₆ h₆ => ?_) fun _ _ x => x
      obtain ⟨k6, q6⟩ := h₆
      have oc6 := sub.kp k6
      have hS6 : S (i + 1) s₆.heap := it.frame _ _ _ hS5 fun b hb ob e => k6.get e (fpC b hb).2.2
      have acc6 : s₆.heap.PlainList D ys.toArray := acc5.at fun ob e => k6.get e (nfr D nWD)
      have hp6 := pmonoR hp5 k6.same oc5.wf
      have hlen := Paired.length hp6
      have hle := take_fm_le (xs := xs) (p := p) (g := g) i
      refine wpAny_list_append_plain (hsz := by rw [List.size_toArray, sizeLine_eq]; omega) acc6 fun h₇ hl₇ hs₇ => ?_
      have hk7 : ∀ a ob, s₆.heap.get? a = some ob → a ≠ D → h₇.get? a = some ob := fun a ob e na => (hs₇.2 a na).trans e
      have kk6 := kk5.trans k6
      refine ⟨?_, ?_, it.frame _ _ _ hS6 fun b hb ob e => hk7 b ob e (fpC b hb).2.1, ys ++ [y], by simpa using hl₇, ?_⟩
      · obtain ⟨h1, t1, rfl, e1⟩ := kk6
        refine ⟨h₇, _, rfl, fun a ob e => ?_⟩
        have had : a ≠ D := fun q => by rw [q, hD] at e; cases e
        obtain ⟨q1, sl, q2⟩ := e1 a ob e
        exact ⟨fun nf => hk7 a ob (q1 nf) had, sl, hk7 a _ q2 had⟩
      · exact oc6.upd (tk := s₆.toks) (fun a => a = D) (fun a ob e na => hk7 a ob e na) (by rintro z rfl; obtain ⟨_, e⟩ := hl₇; exact ⟨.inr (.inl (.inr rfl)), nfr _ nWD, nOD, _, e⟩)
      · rw [take_succ_fm hx, hpx]
        have sk : ∀ a ob, s₆.heap.get? a = some ob → ¬ cW W I D cenv a → ¬ cW W I D cenv a ∧ h₇.get? a = some ob := fun a ob e na => ⟨na, hk7 a ob e fun q => na (.inr (.inl (.inr q)))⟩
        exact Paired.app (Paired.mono hp6 fun _ z q => (R' z).st q sk) (.cons ((R' (g x)).st q6 sk) .nil)
  · rintro s' h' tk ⟨k', oc', hS', ys, hacc, hp⟩ hk
    rw [List.take_length] at hp
    have hCI : C ≠ I := Nat.ne_of_gt ltI
    obtain ⟨μ, f, _⟩ := oc'.nm
    obtain ⟨m, ⟨ob, es, ep, e, q⟩, _⟩ := f.ns
    have hcl : cenv.locals = C := by rw [← hce]; rfl
    rw [hcl] at e
    refine done _ C ?_ (hC1 C (Nat.le_refl _)) ⟨m, ob, es, ep, hk C ob hCI e, q⟩ ⟨lm, D, ys, rfl, ?_, hacc.at fun ob e => hk D ob hID.symm e, ?_⟩ rfl
    · obtain ⟨h1, t1, rfl, e1⟩ := k'
      refine ⟨h', tk, rfl, fun a ob e => ?_⟩
      have hai : a ≠ I := fun q => by rw [q, hI] at e; cases e
      obtain ⟨q1, sl, q2⟩ := e1 a ob e
      exact ⟨fun nf => hk a ob hai (q1 nf), sl, hk a _ hai q2⟩
    · rintro (h | h)
      · exact nWD h
      · exact absurd ltD (by rw [h]; exact Nat.lt_irrefl _)
    · refine Paired.mono hp fun _ z q => (R' z).st q fun a ob e na => ⟨?_, hk a ob (fun q' => na (.inr (.inl (.inl q')))) e⟩
      rintro (h | h)
      · exact na (.inl h)
      · exact na (.inr (.inr (.inl (h.trans hcl.symm))))

theorem comp_core1 {α β : Type} {R : α → VP} {R' : β → VP} {xs : List α} {p : α → Bool} {g : α → β} {τ : α → List (Str × VP)} {elt t iter : Expr} {ifs : List Expr} {pos pos' : Pos} {Pi : VP} {use : Option (Value → Sem Unit)}
    (hs : scopeOk scope = true) (hf : freeOk env σ scope = true)
    (hi : Ev prog w hb n env σ iter Pi) (hit : IterP prog w hb Pi xs R)
    (ha : ∀ C x, x ∈ xs → Asg prog w hb n (cE scope env C) (restr σ scope) t (R x) (τ x)) (hτ : ∀ x, ((τ x).all fun q => scope.names.lookup q.1 != some .free) = true)
    (ht : ∀ C x, x ∈ xs → Trs prog w hb n (cE scope env C) (τ x ++ restr σ scope) ifs (p x))
    (he : ∀ C x, x ∈ xs → p x = true → Ev prog w hb n (cE scope env C) (τ x ++ restr σ scope) elt (R' (g x)))
    (hτσ : ∀ x y P, (restr σ scope).lookup y = some P → (τ x ++ restr σ scope).lookup y = some P)
    (lm : ((xs.filter p).map g).length ≤ 1000) (hfold : ∀ x, foldedSetIterable iter env x = pure x)
    {W : Addr → Prop} {frs : List Env} {A : Around} {s : Shared} {E : Value → Shared → Prop} {Q : Value → Shared → Prop} (rm : Rm n frs A) (o : Ok hb W frs env σ s)
    (done : ∀ s' C D, Kp (frS frs) s s' → s.heap.get? C = none → (∃ m, s'.heap.Ns C m) → (vList R' ((xs.filter p).map g)).ok (fun a => W a ∨ a = C) s'.heap (.ref D) → compPost (model prog w) A E use Q (.ref D) C (.ok .next) s') :
    wpAny (model prog w) A (comprehension (.ListComp elt [⟨t, iter, ifs, 0⟩] scope pos) scope env pos' (newList []) false (eval iter env) use) Q E s := by
  have hnames : ∀ x ∈ scope.names, x.2 = .local → scope.names.lookup x.1 = some .local := fun x hx hl => hl ▸ scopeOk.look hs hx
  refine wpAny_comprehension_free rfl hfold (closureFor_ok (freeOk.cell hf o)) (scopeOk.kind hs) hnames (wpAny_mono (hi W frs A s E rm o) (fun v s₁ ⟨k₁, p₁⟩ => ?_) fun _ _ x => x)
  have o₁ := o.kp k₁
  refine hit W frs A s₁ E v _ rm.hh o₁.toSt p₁ fun I fp Pt S h' it hk hI hfp hS0 hPt => ?_
  refine wpAny_newList ?_ (by simp [sizeLine_eq])
  refine newFunctionEnv_comp ?_
  have hD : s₁.heap.get? h'.objs.size = none := by
    cases e : s₁.heap.get? h'.objs.size with
    | none => rfl
    | some ob => exact absurd (Heap.lt_size (hk _ _ e)) (Nat.lt_irrefl _)
  have hID : I ≠ h'.objs.size := by
    obtain ⟨ob, e⟩ := it.there 0 h' hS0
    exact Nat.ne_of_lt (Heap.lt_size e)
  refine comp_body1 (s₁ := s₁) (s₃ := { s₁ with heap := h'.push { cls := .type "list", data := .seq #[] } }) hs hf ha hτ ht he hτσ lm rm o₁ (Kp.all' fun a ob e => Heap.get?_push_of_some _ (hk a ob e)) it hI hD hID hfp
    (it.frame 0 _ _ hS0 fun b _ ob e => Heap.get?_push_of_some _ e) ⟨0, Heap.get?_push_size _ rfl⟩ hPt fun s' C k' hC hns hl e => ?_
  subst e
  have hCs : s.heap.get? (h'.push { cls := .type "list", data := .seq #[] }).objs.size = none := by
    cases e : s.heap.get? (h'.push { cls := .type "list", data := .seq #[] }).objs.size with
    | none => rfl
    | some ob =>
      obtain ⟨_, sl, e'⟩ := k₁.same _ ob e
      have hC' : s₁.heap.get? (h'.push { cls := .type "list", data := .seq #[] }).objs.size = none := hC
      rw [hC'] at e'; cases e'
  exact done s' _ _ (k₁.trans k') hCs hns hl
end
end Mine
end

section
open PySem PySem.W PyProof.Rows PySem.Calls
set_option Elab.async false
set_option autoImplicit false
set_option linter.unusedVariables false
namespace Mine
section
variable {prog : Program} {w : World} {hb : Heap} {n : Nat} {env : Env} {σ : List (Str × VP)} {scope : Scope}

def tgtOk (scope : Scope) (t : Str) : Bool := scope.names.lookup t == some .local || scope.names.lookup t == some .cell
theorem tgtOk.cases {t : Str} (h : tgtOk scope t = true) : scope.names.lookup t = some .local ∨ scope.names.lookup t = some .cell := by
  unfold tgtOk at h; simpa using h
theorem storeOk_cE {C : Addr} {t : Str} (hs : scopeOk scope = true) (h : tgtOk scope t = true) : StoreOk (cE scope env C) t := by
  have hk : (cE scope env C).kindOf t = (scope.names.lookup t).map fun k => if (k == NameKind.free && env.scope.kind == .function && env.kindOf t == some .cell) = true then NameKind.cell else k := relabel_look
  rcases tgtOk.cases h with q | q
  · exact .inl (by rw [hk, q]; rfl)
  · refine .inr ⟨by rw [hk, q]; rfl, ?_⟩
    obtain ⟨c, hc⟩ := cellsFrom_has (n := C + 1) (scopeOk.mem q)
    refine ⟨c, ?_⟩
    show (cellsFrom (C + 1) scope.names (clAcc env.cells scope.names [])).lookup t = some c
    rw [cellsFrom_app, List.lookup_append, hc]
    rfl
theorem tgt_look {t y : Str} {P Q : VP} (h : tgtOk scope t = true) (e : (restr σ scope).lookup y = some P) : ((t, Q) :: restr σ scope).lookup y = some P := by
  have hy := (restr_look e).2
  have : y ≠ t := fun q => by subst q; rcases tgtOk.cases h with q | q <;> (rw [q] at hy; cases hy)
  rw [List.lookup_cons, beq_eq_false_iff_ne.mpr this]
  exact e
theorem tgt_all {t : Str} {Q : VP} (h : tgtOk scope t = true) : ([(t, Q)].all fun q => scope.names.lookup q.1 != some .free) = true := by
  rcases tgtOk.cases h with q | q <;> simp [q]

theorem Ok.less {W W' : Addr → Prop} {frs : List Env} {s : Shared} (o : Ok hb W' frs env σ s) (hW : ∀ a, W a → W' a) (hf : ∀ a ∈ frS frs, W a) (hl : W env.locals) (hc : ∀ x c, env.cells.lookup x = some c → W c) : Ok hb W frs env σ s :=
  { stay := o.stay, ff := o.ff, wd := fun a h => o.wd a (hW a h), wn := fun a h => o.wn a (hW a h), wf := hf, wl := hl, wc := hc, eo := o.eo
    nm := by obtain ⟨μ, f, r⟩ := o.nm; exact ⟨μ, f, fun x P e => ⟨(r x P e).1, let ⟨v, e1, e2⟩ := (r x P e).2; ⟨v, e1, P.st e2 fun a ob q na => ⟨fun h => na (hW a h), q⟩⟩⟩⟩ }

theorem ev_compG {α β : Type} {R : α → VP} {R' : β → VP} {xs : List α} {p : α → Bool} {g : α → β} {τ : α → List (Str × VP)} {elt t iter : Expr} {ifs : List Expr} {pos : Pos} {Pi : VP}
    (hs : scopeOk scope = true) (hf : freeOk env σ scope = true)
    (hi : Ev prog w hb n env σ iter Pi) (hit : IterP prog w hb Pi xs R)
    (ha : ∀ C x, x ∈ xs → Asg prog w hb n (cE scope env C) (restr σ scope) t (R x) (τ x)) (hτ : ∀ x, ((τ x).all fun q => scope.names.lookup q.1 != some .free) = true)
    (ht : ∀ C x, x ∈ xs → Trs prog w hb n (cE scope env C) (τ x ++ restr σ scope) ifs (p x))
    (he : ∀ C x, x ∈ xs → p x = true → Ev prog w hb n (cE scope env C) (τ x ++ restr σ scope) elt (R' (g x)))
    (hτσ : ∀ x y P, (restr σ scope).lookup y = some P → (τ x ++ restr σ scope).lookup y = some P)
    (lm : ((xs.filter p).map g).length ≤ 1000) (hfold : ∀ x, foldedSetIterable iter env x = pure x := by intro _; rfl) :
    Ev prog w hb n env σ (.ListComp elt [⟨t, iter, ifs, 0⟩] scope pos) (vList R' ((xs.filter p).map g)) := fun W frs A s E rm o => by
  rw [eval_ListComp]
  refine comp_core1 (use := none) hs hf hi hit ha hτ ht he hτσ lm hfold rm o fun s' C D k hC ⟨m, hns⟩ hl => ?_
  refine ⟨m, hns, fun h' hs' => ⟨?_, ?_⟩⟩
  · obtain ⟨h1, t1, rfl, e1⟩ := k
    refine ⟨h', _, rfl, fun a ob e => ?_⟩
    have hac : a ≠ C := fun q => by rw [q, hC] at e; cases e
    obtain ⟨q1, sl, q2⟩ := e1 a ob e
    exact ⟨fun nf => (hs'.2 a hac).trans (q1 nf), sl, (hs'.2 a hac).trans q2⟩
  · exact (vList R' ((xs.filter p).map g)).st hl fun a ob e na => ⟨fun h => na (.inl h), (hs'.2 a fun q => na (.inr q)).trans e⟩

theorem ev_comp {α β : Type} {R : α → VP} {R' : β → VP} {xs : List α} {p : α → Bool} {g : α → β} {t : Str} {elt iter : Expr} {ifs : List Expr} {pt pos : Pos} {Pi : VP}
    (hi : Ev prog w hb n env σ iter Pi) (hit : IterP prog w hb Pi xs R)
    (ht : ∀ C x, x ∈ xs → Trs prog w hb n (cE scope env C) ((t, R x) :: restr σ scope) ifs (p x))
    (he : ∀ C x, x ∈ xs → p x = true → Ev prog w hb n (cE scope env C) ((t, R x) :: restr σ scope) elt (R' (g x)))
    (lm : ((xs.filter p).map g).length ≤ 1000)
    (hs : scopeOk scope = true := by decide +kernel) (hf : freeOk env σ scope = true := by rfl) (htn : tgtOk scope t = true := by decide +kernel) (hfold : ∀ x, foldedSetIterable iter env x = pure x := by intro _; rfl) :
    Ev prog w hb n env σ (.ListComp elt [⟨.Name t pt, iter, ifs, 0⟩] scope pos) (vList R' ((xs.filter p).map g)) :=
  ev_compG (τ := fun x => [(t, R x)]) hs hf hi hit (fun C x hx => asg_name (storeOk_cE hs htn)) (fun x => tgt_all htn) ht he (fun x y P e => tgt_look htn e) lm hfold
theorem ev_map {α β : Type} {R : α → VP} {R' : β → VP} {xs : List α} (g : α → β) {t : Str} {elt iter : Expr} {pt pos : Pos} {Pi : VP}
    (hi : Ev prog w hb n env σ iter Pi) (hit : IterP prog w hb Pi xs R)
    (he : ∀ C x, x ∈ xs → Ev prog w hb n (cE scope env C) ((t, R x) :: restr σ scope) elt (R' (g x)))
    (lm : xs.length ≤ 1000)
    (hs : scopeOk scope = true := by decide +kernel) (hf : freeOk env σ scope = true := by rfl) (htn : tgtOk scope t = true := by decide +kernel) (hfold : ∀ x, foldedSetIterable iter env x = pure x := by intro _; rfl) :
    Ev prog w hb n env σ (.ListComp elt [⟨.Name t pt, iter, [], 0⟩] scope pos) (vList R' (xs.map g)) := by
  have := ev_comp (p := fun _ => true) (g := g) (R' := R') (pt := pt) (pos := pos) hi hit (fun C x hx => trs_nil) (fun C x hx _ => he C x hx) (by rw [List.length_map]; exact Nat.le_trans (List.length_filter_le _ _) lm) hs hf htn hfold
  rwa [show xs.filter (fun _ => true) = xs from by simp] at this
theorem ev_filter {α : Type} {R : α → VP} {xs : List α} (p : α → Bool) {t : Str} {iter c : Expr} {pt pe pos : Pos} {Pi : VP}
    (hi : Ev prog w hb n env σ iter Pi) (hit : IterP prog w hb Pi xs R)
    (ht : ∀ C x, x ∈ xs → Tr prog w hb n (cE scope env C) ((t, R x) :: restr σ scope) c (p x))
    (lm : xs.length ≤ 1000)
    (hs : scopeOk scope = true := by decide +kernel) (hf : freeOk env σ scope = true := by rfl) (htn : tgtOk scope t = true := by decide +kernel) (hfold : ∀ x, foldedSetIterable iter env x = pure x := by intro _; rfl)
    (hd : (t == ("__debug__" : Str)) = false := by decide) (hc : (t == ("__classdict__" : Str)) = false := by decide) :
    Ev prog w hb n env σ (.ListComp (.Name t pe) [⟨.Name t pt, iter, [c], 0⟩] scope pos) (vList R (xs.filter p)) := by
  have := ev_comp (p := p) (g := id) (R' := R) (pt := pt) (pos := pos) hi hit (fun C x hx => trs_one (ht C x hx)) (fun C x hx _ => ev_name (pos := pe) (List.lookup_cons_self ..) hd hc) (by rw [List.map_id]; exact Nat.le_trans (List.length_filter_le _ _) lm) hs hf htn hfold
  rwa [List.map_id] at this
end
end Mine
end

section
open PySem PySem.W PyProof.Rows PySem.Calls
set_option Elab.async false
set_option autoImplicit false
set_option linter.unusedVariables false
namespace Mine
noncomputable abbrev KF (w : World) : Frag := hd.heap_1 w.params
section
variable {prog : Program} {w : World} {hb : Heap} {n : Nat} {env : Env} {σ : List (Str × VP)} {mg mb : Str → Option Value}

theorem ev_glob (G : Gd w hb mg mb) {x : Str} {pos : Pos} {v : Value} (h : nsIn (KF w) mainGlobals x = some (some v)) (hk : env.kindOf x = some .globalImplicit) (hd : (x == ("__debug__" : Str)) = false := by decide) :
    Ev prog w hb n env σ (.Name x pos) (vIs v) := fun W frs A s E rm o =>
  Name_function_global o.eo.kind hk (loadGlobal_global (mg := mg) (by rw [o.eo.glob]; exact G.g.keeps o.stay) (mg_of G.kin G.g h) ⟨.refl _ _, rfl⟩) hd
theorem ev_blt (G : Gd w hb mg mb) {x : Str} {pos : Pos} {v : Value} (h : nsIn (KF w) mainGlobals x = some none) (hv : bootBuiltins x = some v) (hn : x ≠ "__name__") (hk : env.kindOf x = some .globalImplicit) (hd : (x == ("__debug__" : Str)) = false := by decide) :
    Ev prog w hb n env σ (.Name x pos) (vIs v) := fun W frs A s E rm o =>
  Name_function_global o.eo.kind hk (loadGlobal_builtin (mg := mg) (mb := mb) (by rw [o.eo.glob]; exact G.g.keeps o.stay) (mg_none_of G.kin G.g h) (by rw [o.eo.blt]; exact G.b.keeps o.stay) ((G.bb x hn).trans hv) ⟨.refl _ _, rfl⟩) hd

/-! ## calls -/
theorem ev_callB {f : Expr} {id : String} {e : Expr} {es : List Expr} {pos : Pos} {Ps : List VP} {T : VP} (hf : Ev prog w hb n env σ f (vIs (.builtin id))) (ha : EvL prog w hb n env σ pos (e :: es) Ps) (hc : Cl prog w hb n (.builtin id) Ps T)
    (he : eval (.Call f (e :: es) [] pos) env = (do callWith pos (← eval f env) [] (backTo pos (starEach (e :: es) env)) (backToKw pos (keywordEach [] env))) := by rfl)
    (hst : starEach (e :: es) env = (false, eval e env) :: starEach es env := by rfl) (hpl : (backTo pos (starEach es env)).any (·.1) = false := by rfl) :
    Ev prog w hb n env σ (.Call f (e :: es) [] pos) T := fun W frs A s E rm o =>
  PyProof.Rows.Call_ (wpAny_mono (hf W frs A s E rm o) (fun v s₁ ⟨k₁, p₁⟩ => by
    obtain rfl : v = .builtin id := p₁
    refine PyProof.Rows.callWith_builtin1 (wpAny_mono (ha W frs A s₁ E rm (o.kp k₁)) (fun vs s₂ ⟨k₂, p₂⟩ => ?_) fun _ _ x => x) hst hpl
    exact wpAny_mono (hc W frs A s₂ E vs rm ((o.toSt.kp k₁).kp k₂) p₂) (fun z s₃ ⟨k₃, p₃⟩ => ⟨(k₁.trans k₂).trans k₃, p₃⟩) fun _ _ x => x) fun _ _ x => x) he
theorem ev_callT {f : Expr} {T₀ : String} {e : Expr} {es : List Expr} {pos : Pos} {Ps : List VP} {T : VP} (hf : Ev prog w hb n env σ f (vIs (.type T₀))) (ha : EvL prog w hb n env σ pos (e :: es) Ps) (hc : Cl prog w hb n (.type T₀) Ps T)
    (he : eval (.Call f (e :: es) [] pos) env = (do callWith pos (← eval f env) [] (backTo pos (starEach (e :: es) env)) (backToKw pos (keywordEach [] env))) := by rfl)
    (hst : starEach (e :: es) env = (false, eval e env) :: starEach es env := by rfl) (hpl : (backTo pos (starEach es env)).any (·.1) = false := by rfl) :
    Ev prog w hb n env σ (.Call f (e :: es) [] pos) T := fun W frs A s E rm o =>
  PyProof.Rows.Call_ (wpAny_mono (hf W frs A s E rm o) (fun v s₁ ⟨k₁, p₁⟩ => by
    obtain rfl : v = .type T₀ := p₁
    refine PyProof.Rows.callWith_type1 (wpAny_mono (ha W frs A s₁ E rm (o.kp k₁)) (fun vs s₂ ⟨k₂, p₂⟩ => ?_) fun _ _ x => x) hst hpl
    exact wpAny_mono (hc W frs A s₂ E vs rm ((o.toSt.kp k₁).kp k₂) p₂) (fun z s₃ ⟨k₃, p₃⟩ => ⟨(k₁.trans k₂).trans k₃, p₃⟩) fun _ _ x => x) fun _ _ x => x) he
theorem ev_callF {f : Expr} {a : Addr} {ob : Obj} {fd : FuncData} {e : Expr} {es : List Expr} {pos : Pos} {Ps : List VP} {T : VP} (hob : hb.get? a = some ob) (hfd : ob.data = .func fd) (hf : Ev prog w hb n env σ f (vIs (.ref a))) (ha : EvL prog w hb n env σ pos (e :: es) Ps) (hc : Cl prog w hb n (.ref a) Ps T)
    (he : eval (.Call f (e :: es) [] pos) env = (do callWith pos (← eval f env) [] (backTo pos (starEach (e :: es) env)) (backToKw pos (keywordEach [] env))) := by rfl)
    (hst : starEach (e :: es) env = (false, eval e env) :: starEach es env := by rfl) :
    Ev prog w hb n env σ (.Call f (e :: es) [] pos) T := fun W frs A s E rm o =>
  PyProof.Rows.Call_ (wpAny_mono (hf W frs A s E rm o) (fun v s₁ ⟨k₁, p₁⟩ => by
    obtain rfl : v = .ref a := p₁
    refine PyProof.Rows.callWith_def hfd (wpAny_mono (ha W frs A s₁ E rm (o.kp k₁)) (fun vs s₂ ⟨k₂, p₂⟩ => ?_) fun _ _ x => x) hst
    exact ⟨((o.toSt.kp k₁).kp k₂).stay a ob hob, wpAny_mono (hc W frs A s₂ E vs rm ((o.toSt.kp k₁).kp k₂) p₂) (fun z s₃ ⟨k₃, p₃⟩ => ⟨(k₁.trans k₂).trans k₃, p₃⟩) fun _ _ x => x⟩) fun _ _ x => x) he

/-! ## lists -/
theorem cl_len {α : Type} {R : α → VP} {l : List α} : Cl prog w hb n (.builtin "len") [vList R l] (vInt l.length) := fun W frs A s E vs rm o p => by
  cases p with
  | cons h r =>
    cases r
    obtain ⟨lm, a, us, rfl, nw, pl, p⟩ := h
    have := Paired.length p
    exact Calls.call_len_list pl.isList (by rw [List.size_toArray]; omega) ⟨.tok1 _ _ _, _, by rw [List.size_toArray, this]⟩
theorem cl_list {α : Type} {R : α → VP} {l : List α} : Cl prog w hb n (.type "list") [vList R l] (vList R l) := fun W frs A s E vs rm o p => by
  cases p with
  | cons h r =>
    cases r
    obtain ⟨lm, a, us, rfl, nw, ⟨ne, pl⟩, p⟩ := h
    have := Paired.length p
    refine call_list_seq a (.inl rfl) pl rfl rfl (fun h' c' hk hD => ⟨Kp.all' hk, lm, _, us, rfl, o.fresh, ⟨c', hD⟩, ?_⟩) (by rw [List.size_toArray, sizeLine_eq]; omega)
    exact pmonoR (S := frS frs) p (SameF.of_all hk) o.wf
theorem cl_range1 {b : Int} : Cl prog w hb n (.type "range") [vInt b] (vRange 0 b) := fun W frs A s E vs rm o p => by
  cases p with
  | cons h r =>
    cases r
    obtain ⟨t, rfl⟩ := h
    exact call_range_1 ⟨Kp.all fun a ob e => Heap.get?_push_of_some _ e, _, _, _, _, rfl, o.fresh, Heap.get?_push_size _ rfl⟩
theorem cl_range2 {a b : Int} : Cl prog w hb n (.type "range") [vInt a, vInt b] (vRange a b) := fun W frs A s E vs rm o p => by
  cases p with
  | cons h r =>
    cases r with
    | cons h' r =>
      cases r
      obtain ⟨t, rfl⟩ := h
      obtain ⟨t', rfl⟩ := h'
      exact call_range_2 ⟨Kp.all fun a ob e => Heap.get?_push_of_some _ e, _, _, _, _, rfl, o.fresh, Heap.get?_push_size _ rfl⟩

theorem op_cat {α : Type} {R : α → VP} {l m : List α} (lm : l.length + m.length ≤ 1000) : Op2 prog w hb n (binaryOp .Add) (vList R l) (vList R m) (vList R (l ++ m)) := fun W frs A s E v u rm o ⟨l1, a, us, e1, nw, ⟨ne, pl⟩, p⟩ ⟨l2, b, us', e2, nw', ⟨ne', pl'⟩, p'⟩ => by
  subst e1 e2
  have h1 := Paired.length p
  have h2 := Paired.length p'
  refine PySem.P.add_list pl pl' ?_ (by simp only [List.size_toArray, sizeLine_eq]; omega)
  rw [show us.toArray ++ us'.toArray = (us ++ us').toArray from by simp]
  exact vList_new o (by rw [List.length_append]; exact lm) (Paired.app p p')

theorem ev_item {α : Type} {R : α → VP} {l : List α} {k : Int} {value slice : Expr} {pos : Pos} {x : α} (hv : Ev prog w hb n env σ value (vList R l)) (hk : Ev prog w hb n env σ slice (vInt k)) (h0 : 0 ≤ k) (hx : l[k.toNat]? = some x)
    (hs : ∀ o i, subscripted slice false o i = operate [o, i] (getItem o i) := by intro _ _; with_unfolding_all rfl) : Ev prog w hb n env σ (.Subscript value slice pos) (R x) := fun W frs A s E rm o =>
  Subscript_ (wpAny_mono (hv W frs A s E rm o) (fun v s₁ ⟨k₁, p₁⟩ => wpAny_mono (hk W frs A s₁ E rm (o.kp k₁)) (fun u s₂ ⟨k₂, p₂⟩ => by
    obtain ⟨t, rfl⟩ := p₂
    have p₁' := VP.kp p₁ k₂.same o.wf
    obtain ⟨lm, a, us, rfl, nw, pl, p⟩ := p₁'
    have hl := Paired.length p
    obtain ⟨y, hy, hyR⟩ := Paired.get p hx
    have hlt : k.toNat < l.length := (List.getElem?_eq_some_iff.mp hx).1
    exact tail_any pl.isList.typeIs slot_list_getitem.lookup (wpAny_getItem_list pl.isList h0 (by omega) (by simpa using hy) ⟨k₁.trans k₂, hyR⟩) (hs _ _)) fun _ _ x => x) fun _ _ x => x)

/-- a part of a slice -/
def EvP (prog : Program) (w : World) (hb : Heap) (n : Nat) (env : Env) (σ : List (Str × VP)) (e : Option Expr) (k : Option Int) : Prop :=
  ∀ (W : Addr → Prop) (frs : List Env) (A : Around) (s : Shared) (E : Value → Shared → Prop), Rm n frs A → Ok hb W frs env σ s →
    wpAny (model prog w) A (evalPart e env) (fun v s' => Kp (frS frs) s s' ∧ IsPart v k) E s
theorem evp_none : EvP prog w hb n env σ none none := fun W frs A s E rm o => wpAny_evalPart_none ⟨.refl _ _, .none⟩
theorem evp_some {e : Expr} {k : Int} (h : Ev prog w hb n env σ e (vInt k)) : EvP prog w hb n env σ (some e) (some k) := fun W frs A s E rm o =>
  wpAny_evalPart_some (wpAny_mono (h W frs A s E rm o) (fun v s₁ ⟨k₁, t, p⟩ => ⟨k₁, p ▸ .int k t⟩) fun _ _ x => x)

theorem paired_take {α β : Type} {F : α → β → Prop} {l₁ : List α} {l₂ : List β} (p : Paired F l₁ l₂) (i : Nat) : Paired F (l₁.take i) (l₂.take i) := by
  induction p generalizing i with
  | nil => simp; exact .nil
  | cons h r ih => cases i with
    | zero => exact .nil
    | succ i => exact .cons h (ih i)
theorem paired_drop {α β : Type} {F : α → β → Prop} {l₁ : List α} {l₂ : List β} (p : Paired F l₁ l₂) (i : Nat) : Paired F (l₁.drop i) (l₂.drop i) := by
  induction p generalizing i with
  | nil => simp; exact .nil
  | cons h r ih => cases i with
    | zero => exact .cons h r
    | succ i => exact ih i
theorem paired_rev {α β : Type} {F : α → β → Prop} {l₁ : List α} {l₂ : List β} (p : Paired F l₁ l₂) : Paired F l₁.reverse l₂.reverse := by
  induction p with
  | nil => exact .nil
  | cons h r ih => simp only [List.reverse_cons]; exact Paired.app ih (.cons h .nil)

/-- lists of values read but not owned: the items of a list, however it was made -/
theorem slice_core {α : Type} {R : α → VP} {l l' : List α} {lo hi : Option Int} {value : Expr} {lower upper : Option Expr} {p pos : Pos} (hv : Ev prog w hb n env σ value (vList R l)) (hl : EvP prog w hb n env σ lower lo) (hu : EvP prog w hb n env σ upper hi)
    (hp : ∀ (F : Value → α → Prop) (vs : List Value), Paired F vs l → ∃ vs', slicePick vs.toArray lo hi none = vs'.toArray ∧ Paired F vs' l') (hlen : l'.length ≤ l.length)
    (ht : ∀ o r, letTemporaryGo value o r = pure () := by intro _ _; rfl) : Ev prog w hb n env σ (.Subscript value (.Slice lower upper none p) pos) (vList R l') := fun W frs A s E rm o => by
  refine wpAny_Subscript_list_slice (wpAny_mono (hv W frs A s E rm o) (fun v s₁ ⟨k₁, p₁⟩ => wpAny_mono (hl W frs A s₁ E rm (o.kp k₁)) (fun vl s₂ ⟨k₂, p₂⟩ => wpAny_mono (hu W frs A s₂ E rm ((o.kp k₁).kp k₂)) (fun vu s₃ ⟨k₃, p₃⟩ => ?_) fun _ _ x => x) fun _ _ x => x) fun _ _ x => x) ht
  have o₃ := ((o.toSt.kp k₁).kp k₂).kp k₃
  have p₁' := VP.kp p₁ (k₂.trans k₃).same o.wf
  obtain ⟨lm, a, us, rfl, nw, pl, pp⟩ := p₁'
  have hlen' := Paired.length pp
  obtain ⟨vs', e', pp'⟩ := hp _ us pp
  refine ⟨a, us.toArray, lo, hi, rfl, pl.isList, by rw [List.size_toArray, sizeLine_eq]; omega, p₂, p₃, ?_⟩
  rw [e']
  have o₄ : St hb W frs { s₃ with heap := s₃.heap.push { cls := .type "slice", data := .fields #[vl, vu, .none] } } := o₃.kp (Kp.push1 _ _ _)
  obtain ⟨k₅, q₅⟩ := vList_new (R := R) (l := l') (vs := vs') o₄ (by omega) (pmonoR pp' (Kp.push1 (frS frs) s₃ _).same o.wf)
  rw [show s₃.heap.objs.size + 1 = (s₃.heap.push { cls := .type "slice", data := .fields #[vl, vu, .none] }).objs.size from by rw [Heap.size_push]]
  exact ⟨((k₁.trans k₂).trans k₃).trans ((Kp.push1 _ _ _).trans k₅), q₅⟩

theorem slicePick_upto (items : Array Value) (b : Nat) : slicePick items none (some (b : Int)) none = (items.toList.take b).toArray := by
  have e : sliceBounds none (some (b : Int)) none items.size = ((0 : Int), ((min b items.size : Nat) : Int), 1) := by
    simp only [sliceBounds, Option.getD_none]
    have h2 : ¬ ((b : Int) < 0) := by omega
    simp only [h2, if_false, show (1 : Int) > 0 by decide, if_true]
    congr 1
    congr 1
    omega
  unfold slicePick
  rw [e]
  have h1 := sliceRange_one 0 (min b items.size)
  have h2 : sliceRange (0 : Int) ((min b items.size : Nat) : Int) 1 = (List.range (min b items.size)).map (0 + ·) := h1
  show ((sliceRange (0 : Int) ((min b items.size : Nat) : Int) 1).filterMap (items[·]?)).toArray = _
  rw [h2, pick_run, List.drop_zero]
  congr 1
  rw [Nat.min_def]
  split
  · rfl
  · rw [List.take_of_length_le (by simp), List.take_of_length_le (by simp; omega)]

theorem ev_take {α : Type} {R : α → VP} {l : List α} {k : Int} {value e : Expr} {p pos : Pos} (hv : Ev prog w hb n env σ value (vList R l)) (hk : Ev prog w hb n env σ e (vInt k)) (h0 : 0 ≤ k) (ht : ∀ o r, letTemporaryGo value o r = pure () := by intro _ _; rfl) :
    Ev prog w hb n env σ (.Subscript value (.Slice none (some e) none p) pos) (vList R (l.take k.toNat)) :=
  slice_core hv evp_none (evp_some hk) (fun F vs pp => ⟨vs.take k.toNat, by
    have := slicePick_upto vs.toArray k.toNat
    rwa [Int.toNat_of_nonneg h0] at this, paired_take pp _⟩) (by rw [List.length_take]; omega) ht
theorem ev_drop {α : Type} {R : α → VP} {l : List α} {k : Int} {value e : Expr} {p pos : Pos} (hv : Ev prog w hb n env σ value (vList R l)) (hk : Ev prog w hb n env σ e (vInt k)) (h0 : 0 ≤ k) (hle : k ≤ l.length) (ht : ∀ o r, letTemporaryGo value o r = pure () := by intro _ _; rfl) :
    Ev prog w hb n env σ (.Subscript value (.Slice (some e) none none p) pos) (vList R (l.drop k.toNat)) :=
  slice_core hv (evp_some hk) evp_none (fun F vs pp => ⟨vs.drop k.toNat, by
    have hl := Paired.length pp
    have := slicePick_from vs.toArray k.toNat (by rw [List.size_toArray]; omega)
    rwa [Int.toNat_of_nonneg h0] at this, paired_drop pp _⟩) (by rw [List.length_drop]; omega) ht
end
end Mine
end

section
open PySem PySem.W PyProof.Rows PySem.Calls
set_option Elab.async false
set_option autoImplicit false
set_option linter.unusedVariables false
namespace Mine

/-- what is known of the heap beside the names: lists that are still written -/
structure HP where
  ok : (Addr → Prop) → Heap → Prop
  ds : Addr → Prop
  st : ∀ {W W' : Addr → Prop} {h h' : Heap}, ok W h → (∀ a o, h.get? a = some o → ¬ W a → ¬ W' a ∧ h'.get? a = some o) → (∀ a o, ds a → h.get? a = some o → h'.get? a = some o) → ok W' h'
def hTrue : HP := ⟨fun _ _ => True, fun _ => False, fun _ _ _ => trivial⟩
def hList {α : Type} (R : α → VP) (D : Addr) (l : List α) : HP :=
  ⟨fun W h => l.length ≤ 1000 ∧ ∃ vs, h.PlainList D (List.toArray vs) ∧ Paired (fun v x => (R x).ok W h v) vs l, fun a => a = D,
   fun {W W' h h'} ⟨lm, vs, ⟨n, e⟩, p⟩ k kd => ⟨lm, vs, ⟨n, kd D _ rfl e⟩, Paired.mono p fun _ x q => (R x).st q k⟩⟩
/-- both, of different lists -/
def hAnd (X Y : HP) : HP :=
  ⟨fun W h => X.ok W h ∧ Y.ok W h ∧ ∀ a, X.ds a → ¬ Y.ds a, fun a => X.ds a ∨ Y.ds a, fun {W W' h h'} ⟨x, y, d⟩ k kd => ⟨X.st x k fun a o d => kd a o (.inl d), Y.st y k fun a o d => kd a o (.inr d), d⟩⟩
/-- a loop's frame: the iterator as it is, what it walks over, the items to come -/
def hSrc {α : Type} (I : Addr) (o : Obj) (fp : List Addr) (h₀ : Heap) (Pt : Nat → Value → Prop) (xs : List α) (R : α → VP) : HP :=
  ⟨fun W h => h.get? I = some o ∧ (∀ b ∈ fp, b ≠ I → ¬ W b ∧ ∃ ob, h₀.get? b = some ob ∧ h.get? b = some ob) ∧ ∀ i v, Pt i v → ∃ x, xs[i]? = some x ∧ (R x).ok W h v, fun a => a = I,
   fun {W W' h h'} ⟨e, f, g⟩ k kd => ⟨kd I o rfl e, (fun b hb q => let ⟨nw, ob, e1, e2⟩ := f b hb q; ⟨(k b ob e2 nw).1, ob, e1, (k b ob e2 nw).2⟩), fun i v p => let ⟨x, e1, e2⟩ := g i v p; ⟨x, e1, (R x).st e2 k⟩⟩⟩

structure In (hb : Heap) (B : Shared) (W0 N : Addr → Prop) (fr₀ : List Env) (env : Env) (σ : List (Str × VP)) (X : HP) (s : Shared) : Prop where
  kp : Kp (frS fr₀) B s
  ok : Ok hb (fun a => W0 a ∨ N a) (env :: fr₀) env σ s
  nw : ∀ a, N a → B.heap.get? a = none
  b0 : St hb W0 fr₀ B
  fo : env.frame = some env.locals
  nl : N env.locals
  nc : ∀ x c, env.cells.lookup x = some c → N c
  xo : X.ok (fun a => W0 a ∨ N a) s.heap
  xd : ∀ a, X.ds a → N a ∧ ¬ Own env a

section
variable {prog : Program} {w : World} {hb : Heap} {n : Nat} {env : Env} {σ : List (Str × VP)} {B s s' : Shared} {W0 N : Addr → Prop} {fr₀ : List Env} {X : HP} {A : Around} {E : Value → Shared → Prop}

theorem frS_cons (h : env.frame = some env.locals) : frS (env :: fr₀) = env.locals :: frS fr₀ := by unfold frS; rw [List.filterMap_cons, h]

theorem In.notFr (i : In hb B W0 N fr₀ env σ X s) {a : Addr} (h : N a) : a ∉ frS fr₀ := fun m => by
  obtain ⟨o, e⟩ := i.b0.wd a (i.b0.wf a m)
  rw [i.nw a h] at e; cases e

theorem In.pure (i : In hb B W0 N fr₀ env σ X s) (k : Kp (frS (env :: fr₀)) s s') : In hb B W0 N fr₀ env σ X s' where
  kp := by
    obtain ⟨h1, t1, rfl, e1⟩ := i.kp
    obtain ⟨h2, t2, rfl, e2⟩ := k
    rw [frS_cons i.fo] at e2
    refine ⟨h2, t2, rfl, fun a o e => ?_⟩
    have hL : a ≠ env.locals := fun q => by rw [q, i.nw _ i.nl] at e; cases e
    obtain ⟨q1, sl, q2⟩ := e1 a o e
    obtain ⟨_, sl', q4⟩ := e2 a _ q2
    exact ⟨fun nf => (e2 a o (q1 nf)).1 fun m => (List.mem_cons.mp m).elim hL nf, sl', q4⟩
  ok := i.ok.kp k
  nw := i.nw
  b0 := i.b0
  fo := i.fo
  nl := i.nl
  nc := i.nc
  xo := X.st i.xo (fun a o e na => ⟨na, (k.same a o e).1 fun m => na (i.ok.wf a m)⟩) fun a o d e => (k.same a o e).1 fun m => by
    rw [frS_cons i.fo] at m
    rcases List.mem_cons.mp m with q | q
    · exact (i.xd a d).2 (.inl q)
    · exact i.notFr (i.xd a d).1 q
  xd := i.xd

/-- a change at new places that the heap's word does not speak of -/
theorem In.chg {σ' : List (Str × VP)} {h' : Heap} {tk : Nat} (i : In hb B W0 N fr₀ env σ X s) (Z : Addr → Prop) (hz : ∀ z, Z z → N z) (hk : ∀ a o, s.heap.get? a = some o → ¬ Z a → h'.get? a = some o) (hd : ∀ a, X.ds a → ¬ Z a)
    (o' : Ok hb (fun a => W0 a ∨ N a) (env :: fr₀) env σ' { s with heap := h', toks := tk }) : In hb B W0 N fr₀ env σ' X { s with heap := h', toks := tk } where
  kp := by
    obtain ⟨h1, t1, rfl, e1⟩ := i.kp
    refine ⟨h', tk, rfl, fun a o e => ?_⟩
    have hq : ¬ Z a := fun q => by rw [i.nw a (hz a q)] at e; cases e
    obtain ⟨q1, sl, q2⟩ := e1 a o e
    exact ⟨fun nf => hk a o (q1 nf) hq, sl, hk a _ q2 hq⟩
  ok := o'
  nw := i.nw
  b0 := i.b0
  fo := i.fo
  nl := i.nl
  nc := i.nc
  xo := X.st i.xo (fun a o e na => ⟨na, hk a o e fun q => na (.inr (hz a q))⟩) fun a o d e => hk a o e (hd a d)
  xd := i.xd

theorem Ok.grow {W Z : Addr → Prop} {frs : List Env} (o : Ok hb W frs env σ s) (k : Kp (frS frs) s s') (hz : ∀ a, Z a → s.heap.get? a = none ∧ ∃ ob, s'.heap.get? a = some ob) : Ok hb (fun a => W a ∨ Z a) frs env σ s' := by
  have o' := o.kp k
  have dom : ∀ a ob, s.heap.get? a = some ob → ¬ W a → ¬ (W a ∨ Z a) ∧ s'.heap.get? a = some ob := fun a ob e na => by
    refine ⟨?_, k.get e fun m => na (o.wf a m)⟩
    rintro (h | h)
    · exact na h
    · rw [(hz a h).1] at e
      cases e
  refine ⟨⟨o'.stay, o'.ff, ?_, ?_, fun a m => .inl (o.wf a m)⟩, .inl o.wl, fun x c e => .inl (o.wc x c e), o.eo, ?_⟩
  · rintro a (h | h)
    · exact o'.wd a h
    · exact (hz a h).2
  · rintro a (h | h)
    · exact o.wn a h
    · cases e : hb.get? a with
      | none => rfl
      | some ob => have := o.stay a ob e; rw [(hz a h).1] at this; cases this
  · obtain ⟨μ, f, r⟩ := o.nm
    exact ⟨μ, f.sameF k.same, fun y P e => ⟨(r y P e).1, let ⟨v, e1, e2⟩ := (r y P e).2; ⟨v, e1, P.st e2 dom⟩⟩⟩
theorem Ok.eqv {W W' : Addr → Prop} {frs : List Env} (o : Ok hb W frs env σ s) (h : ∀ a, W a ↔ W' a) : Ok hb W' frs env σ s := by
  have : W = W' := funext fun a => propext (h a)
  exact this ▸ o
/-- places that are no longer spoken of may go as they like -/
theorem In.drop {Z : Addr → Prop} {h' : Heap} {tk : Nat} (i : In hb B W0 (fun a => N a ∨ Z a) fr₀ env σ X s) (hz : ∀ z, Z z → ¬ (W0 z ∨ N z)) (hk : ∀ a o, s.heap.get? a = some o → ¬ Z a → h'.get? a = some o) (hl : N env.locals) (hc : ∀ x c, env.cells.lookup x = some c → N c) (hx : ∀ a, X.ds a → N a) :
    In hb B W0 N fr₀ env σ X { s with heap := h', toks := tk } := by
  have nfr : ∀ a ∈ frS (env :: fr₀), W0 a ∨ N a := fun a m => by
    rw [frS_cons i.fo] at m
    rcases List.mem_cons.mp m with q | q
    · exact .inr (q ▸ hl)
    · exact .inl (i.b0.wf a q)
  have nown : ∀ a, Own env a → W0 a ∨ N a := fun a h => .inr (h.elim (fun q => q ▸ hl) fun ⟨y, e⟩ => hc y a e)
  have dom : ∀ a o, s.heap.get? a = some o → ¬ (W0 a ∨ N a ∨ Z a) → ¬ (W0 a ∨ N a) ∧ h'.get? a = some o := fun a o e na => ⟨fun h => na (h.elim .inl fun h => .inr (.inl h)), hk a o e fun h => na (.inr (.inr h))⟩
  refine ⟨?_, ⟨⟨fun b o e => hk b o (i.ok.stay b o e) fun q => ?_, ?_, fun a h => ?_, fun a h => i.ok.wn a (h.elim .inl fun h => .inr (.inl h)), nfr⟩, .inr hl, fun x c e => .inr (hc x c e), i.ok.eo, ?_⟩, fun a h => i.nw a (.inl h), i.b0, i.fo, hl, hc, ?_, fun a d => ⟨hx a d, (i.xd a d).2⟩⟩
  · obtain ⟨h1, t1, rfl, e1⟩ := i.kp
    refine ⟨h', tk, rfl, fun a o e => ?_⟩
    have hq : ¬ Z a := fun q => by rw [i.nw a (.inr q)] at e; cases e
    obtain ⟨q1, sl, q2⟩ := e1 a o e
    exact ⟨fun nf => hk a o (q1 nf) hq, sl, hk a _ q2 hq⟩
  · have := i.ok.wn b (.inr (.inr q)); rw [this] at e; cases e
  · have : ∀ {l : List Env}, (∀ a ∈ frS l, a ∈ frS (env :: fr₀)) → s.heap.FunFrames hb l → h'.FunFrames hb l := by
      intro l
      induction l with
      | nil => intro _ _; trivial
      | cons e rest ih =>
        rintro hsub ⟨h1, ⟨L, ob, h2, h3, h4, h5⟩, h6⟩
        have hm : ∀ a ∈ frS rest, a ∈ frS (env :: fr₀) := fun a ha => hsub a (by unfold frS at ha ⊢; rw [List.filterMap_cons, h2]; exact .tail _ ha)
        have hL : L ∈ frS (env :: fr₀) := hsub L (by unfold frS; rw [List.filterMap_cons, h2]; exact .head _)
        exact ⟨h1, ⟨L, ob, h2, h3, hk L ob h4 fun q => hz L q (nfr L hL), h5⟩, ih hm h6⟩
    exact this (fun _ h => h) i.ok.ff
  · obtain ⟨o, e⟩ := i.ok.wd a (h.elim .inl fun h => .inr (.inl h))
    exact ⟨o, hk a o e fun q => hz a q h⟩
  · obtain ⟨μ, f, r⟩ := i.ok.nm
    refine ⟨μ, ⟨?_, fun y c hc' => ?_⟩, fun y P e => ⟨(r y P e).1, ?_⟩⟩
    · obtain ⟨m, ⟨ob, es, ep, e, q⟩, hm⟩ := f.ns
      exact ⟨m, ⟨ob, es, ep, hk _ ob e fun q => hz _ q (.inr hl), q⟩, hm⟩
    · obtain ⟨ob, e, q⟩ := f.cell y c hc'
      exact ⟨ob, hk _ ob e fun q => hz _ q (.inr (hc y c hc')), q⟩
    · obtain ⟨v, e1, e2⟩ := (r y P e).2
      exact ⟨v, e1, P.st e2 dom⟩
  · exact X.st i.xo dom fun a o d e => hk a o e fun q => hz a q (.inr (hx a d))
theorem In.grow {Z : Addr → Prop} (i : In hb B W0 N fr₀ env σ X s) (k : Kp (frS (env :: fr₀)) s s') (hz : ∀ a, Z a → s.heap.get? a = none ∧ ∃ ob, s'.heap.get? a = some ob) : In hb B W0 (fun a => N a ∨ Z a) fr₀ env σ X s' := by
  have i' := i.pure k
  refine ⟨i'.kp, (i.ok.grow k hz).eqv fun a => or_assoc, ?_, i.b0, i.fo, .inl i.nl, fun x c e => .inl (i.nc x c e), ?_, fun a d => ⟨.inl (i.xd a d).1, (i.xd a d).2⟩⟩
  · rintro a (h | h)
    · exact i.nw a h
    · cases e : B.heap.get? a with
      | none => rfl
      | some o => obtain ⟨_, sl, e'⟩ := i.kp.same a o e; rw [(hz a h).1] at e'; cases e'
  · refine X.st i.xo (fun a o e na => ⟨?_, (k.same a o e).1 fun m => na (i.ok.wf a m)⟩) fun a o d e => (k.same a o e).1 fun m => ?_
    · rintro (h | h | h)
      · exact na (.inl h)
      · exact na (.inr h)
      · rw [(hz a h).1] at e; cases e
    · rw [frS_cons i.fo] at m
      rcases List.mem_cons.mp m with q | q
      · exact (i.xd a d).2 (.inl q)
      · exact i.notFr (i.xd a d).1 q

theorem In.own (i : In hb B W0 N fr₀ env σ X s) {ns : List Str} {z : Addr} (h : OwnN env ns z) : N z := h.elim (fun q => q ▸ i.nl) fun ⟨y, _, e⟩ => i.nc y z e

theorem In.sub {σ' : List (Str × VP)} (i : In hb B W0 N fr₀ env σ X s) (h : ∀ x P, σ'.lookup x = some P → σ.lookup x = some P) : In hb B W0 N fr₀ env σ' X s :=
  { i with ok := i.ok.sub h }
theorem In.less {N' : Addr → Prop} (i : In hb B W0 N' fr₀ env σ X s) (hN : ∀ a, N a → N' a) (hl : N env.locals) (hc : ∀ x c, env.cells.lookup x = some c → N c) (hx : ∀ a, X.ds a → N a) : In hb B W0 N fr₀ env σ X s where
  kp := i.kp
  ok := i.ok.less (fun a h => h.imp id (hN a)) (fun a m => by
    rw [frS_cons i.fo] at m
    rcases List.mem_cons.mp m with q | q
    · exact .inr (q ▸ hl)
    · exact .inl (i.b0.wf a q)) (.inr hl) fun x c e => .inr (hc x c e)
  nw := fun a h => i.nw a (hN a h)
  b0 := i.b0
  fo := i.fo
  nl := hl
  nc := hc
  xo := X.st i.xo (fun a o e na => ⟨fun h => na (h.imp id (hN a)), e⟩) fun _ _ _ e => e
  xd := fun a d => ⟨hx a d, (i.xd a d).2⟩
theorem In.forget {Y : HP} (i : In hb B W0 N fr₀ env σ X s) (h : ∀ W h, X.ok W h → Y.ok W h) (hd : ∀ a, Y.ds a → X.ds a) : In hb B W0 N fr₀ env σ Y s :=
  { i with xo := h _ _ i.xo, xd := fun a d => i.xd a (hd a d) }

theorem in_store {x : Str} {v : Value} {P : VP} {Q : Unit → Shared → Prop} {M : Model} (i : In hb B W0 N fr₀ env σ X s) (nk : StoreOk env x) (p : P.ok (fun a => W0 a ∨ N a) s.heap v)
    (h : ∀ s', In hb B W0 N fr₀ env ((x, P) :: σ) X s' → Q () s') : wpAny M A (storeName env x v) Q E s :=
  store_ok i.ok nk p fun z h' tk hz hs o' => h _ (i.chg (fun a => a = z) (fun a q => q ▸ i.own hz) (fun a o e na => (hs.2 a na).trans e) (fun a d q => (i.xd a d).2 (q ▸ hz.own)) o')
theorem in_asg {t : Expr} {v : Value} {P : VP} {τ : List (Str × VP)} {Q : Unit → Shared → Prop} (i : In hb B W0 N fr₀ env σ X s) (rm : Rm n (env :: fr₀) A) (ha : Asg prog w hb n env σ t P τ) (p : P.ok (fun a => W0 a ∨ N a) s.heap v)
    (h : ∀ s', In hb B W0 N fr₀ env (τ ++ σ) X s' → Q () s') : wpAny (model prog w) A (assign t env v) Q E s :=
  wpAny_mono (ha _ _ A s E v rm i.ok p) (fun _ s₁ ⟨⟨h', tk, e, hk⟩, o'⟩ => by
    subst e
    exact h _ (i.chg (OwnN env (τ.map (·.1))) (fun a q => i.own q) hk (fun a d q => (i.xd a d).2 q.own) o')) fun _ _ x => x

/-! ## statements -/
theorem seq_next {st : Stmt} {rest : List Stmt} {Q : Flow → Shared → Prop} {I : Shared → Prop} {M : Model} (h : wpAny M A (exec st env) (fun f s' => f = .next ∧ I s') E s) (hr : ∀ s', I s' → wpAny M A (execs rest env) Q E s') :
    wpAny M A (execs (st :: rest) env) Q E s := wpAny_execs_cons (wpAny_mono h (fun f s' ⟨e, q⟩ => by subst e; exact hr s' q) fun _ _ x => x)

theorem x_assign {x : Str} {e : Expr} {px pos : Pos} {P : VP} (i : In hb B W0 N fr₀ env σ X s) (rm : Rm n (env :: fr₀) A) (he : Ev prog w hb n env σ e P) (nk : StoreOk env x)
    (hs : swapsWith e (some (.Name x px)) pos.line env = pure false := by rfl) :
    wpAny (model prog w) A (exec (.Assign [.Name x px] e pos) env) (fun f s' => f = .next ∧ In hb B W0 N fr₀ env ((x, P) :: σ) X s') E s :=
  wpAny_Assign_Name (wpAny_mono (he _ _ A s E rm i.ok) (fun v s₁ ⟨k₁, p₁⟩ => in_store (i.pure k₁) nk p₁ fun s' i' => ⟨rfl, i'⟩) fun _ _ x => x) hs
theorem x_ret {e : Expr} {pos : Pos} {P : VP} {Q : Flow → Shared → Prop} {rest : List Stmt} (i : In hb B W0 N fr₀ env σ X s) (rm : Rm n (env :: fr₀) A) (he : Ev prog w hb n env σ e P)
    (h : ∀ v s', In hb B W0 N fr₀ env σ X s' → P.ok (fun a => W0 a ∨ N a) s'.heap v → Q (.ret v) s') : wpAny (model prog w) A (execs (.Return (some e) pos :: rest) env) Q E s :=
  wpAny_execs_cons (wpAny_Return_some (wpAny_mono (he _ _ A s E rm i.ok) (fun v s₁ ⟨k₁, p₁⟩ => h v s₁ (i.pure k₁) p₁) fun _ _ x => x))
theorem x_if {t : Expr} {body orelse rest : List Stmt} {pos : Pos} {b : Bool} {Q : Flow → Shared → Prop} (i : In hb B W0 N fr₀ env σ X s) (rm : Rm n (env :: fr₀) A) (ht : Tr prog w hb n env σ t b)
    (h1 : b = true → ∀ s', In hb B W0 N fr₀ env σ X s' → wpAny (model prog w) A (execs body env) (fun f s'' => match f with | .next => wpAny (model prog w) A (execs rest env) Q E s'' | f => Q f s'') E s')
    (h2 : b = false → ∀ s', In hb B W0 N fr₀ env σ X s' → wpAny (model prog w) A (execs orelse env) (fun f s'' => match f with | .next => wpAny (model prog w) A (execs rest env) Q E s'' | f => Q f s'') E s') :
    wpAny (model prog w) A (execs (.If t body orelse pos :: rest) env) Q E s :=
  wpAny_execs_cons (wpAny_If (wpAny_mono (ht _ _ A s E rm i.ok) (fun c s₁ ⟨k₁, p₁⟩ => by
    subst p₁
    cases c with
    | true => exact h1 rfl s₁ (i.pure k₁)
    | false => exact h2 rfl s₁ (i.pure k₁)) fun _ _ x => x))

/-- the loop's code, turn by turn -/
theorem for_loop {R : Result → Shared → Prop} {t : Expr} {I : Addr} {fp : List Addr} {m : Nat} {Pt : Nat → Value → Prop} {S : Nat → Heap → Prop} {body : List Stmt} (it : Itr prog w A I fp m Pt S) (K : Nat → Shared → Prop) (hst : ∀ i s, K i s → S i s.heap)
    (turn : ∀ i s v h' tk (E : Value → Shared → Prop), E = notedBy (model prog w) A env (fun e s' => R (.error e) s') → i < m → K i s → Pt i v → S (i + 1) h' → (∀ b o, b ≠ I → s.heap.get? b = some o → h'.get? b = some o) →
      wpAny (model prog w) A (assign t env v) (fun _ s₂ => wpAny (model prog w) A (execs body env) (fun f s₃ => match f with
          | .next | .cont => K (i + 1) s₃
          | .brk => R (.ok .next) s₃
          | .ret v => R (.ok (.ret v)) s₃) E s₂) E { s with heap := h', toks := tk })
    (fin : ∀ s h' tk, K m s → (∀ b o, b ≠ I → s.heap.get? b = some o → h'.get? b = some o) → R (.ok .next) { s with heap := h', toks := tk })
    (h : K 0 s) : codeAny (model prog w) A (.forLoop t (.ref I) body [] env) R s := by
  refine codeAny_loop' rfl (fun k s => ∃ i, i ≤ m ∧ k = m - i ∧ K i s) (fun k s hI => ?_) m ⟨0, Nat.zero_le _, by omega, h⟩
  obtain ⟨i, hi, rfl, hK⟩ := hI
  show wpAny _ _ ((forTurn t (.ref I) body [] env).onRaise (fun x => do noteFrame x env; theTreesLotGoes x)) _ _ s
  refine wpAny_noted ?_
  simp only [forTurn]
  refine wpAny_bind (wpAny_standAt (wpAny_bind (wpAny_onRaise ?_)))
  by_cases hlt : i < m
  · refine it.item i s _ _ hlt (hst i s hK) fun v h' tk hp hS hk => ?_
    refine wpAny_bind (it.lets t (i + 1) _ v _ _ hS ?_)
    refine wpAny_bind (wpAny_mono (turn i s v h' tk _ rfl hlt hK hp hS fun b o hb e => hk b o (by simpa using hb) e) (fun _ s₂ h₂ => wpAny_bind (wpAny_mono h₂ (fun f s₃ h₃ => ?_) fun _ _ x => x)) fun _ _ x => x)
    cases f with
    | next => exact wpAny_pure (.inl ⟨rfl, m - (i + 1), by omega, i + 1, hlt, rfl, h₃⟩)
    | cont => exact wpAny_pure (.inl ⟨rfl, m - (i + 1), by omega, i + 1, hlt, rfl, h₃⟩)
    | brk => exact wpAny_pure h₃
    | ret v => exact wpAny_pure h₃
  · have : i = m := by omega
    subst this
    refine it.done s _ _ (hst i s hK) fun h' tk hk => wpAny_pure (.inr ⟨rfl, codeAny_block (wpAny_execs_nil ?_)⟩)
    exact fin s h' tk hK fun b o hb e => hk b o (by simpa using hb) e

/-- a loop over what may be walked -/
theorem x_forE {α : Type} {R : α → VP} {xs : List α} {Pi : VP} {t iter : Expr} {body : List Stmt} {pos : Pos} {τ : α → List (Str × VP)} {Q : Flow → Shared → Prop}
    (σi : Nat → List (Str × VP)) (Xi : Nat → HP) (C : Nat → Prop)
    (i : In hb B W0 N fr₀ env σ X s) (rm : Rm n (env :: fr₀) A) (hi : Ev prog w hb n env σ iter Pi) (hit : IterP prog w hb Pi xs R)
    (h0 : ∀ s', In hb B W0 N fr₀ env σ X s' → In hb B W0 N fr₀ env (σi 0) (Xi 0) s') (c0 : C 0) (hXN : ∀ k a, (Xi k).ds a → N a)
    (ha : ∀ k x, xs[k]? = some x → Asg prog w hb n env (σi k) t (R x) (τ x))
    (turn : ∀ N' Y k x s' (E' : Value → Shared → Prop), E' = notedBy (model prog w) A env (cameBackBy (model prog w) A env E) → (∀ a, N a → N' a) → xs[k]? = some x → C k → In hb B W0 N' fr₀ env (τ x ++ σi k) (hAnd Y (Xi k)) s' → wpAny (model prog w) A (execs body env) (fun f s'' => match f with
      | .next | .cont => C (k + 1) ∧ In hb B W0 N' fr₀ env (σi (k + 1)) (hAnd Y (Xi (k + 1))) s''
      | .brk => Q .next s''
      | .ret v => Q (.ret v) s'') E' s')
    (fin : ∀ s', C xs.length → In hb B W0 N fr₀ env (σi xs.length) (Xi xs.length) s' → Q .next s')
    (hs : ∀ x, foldedSetIterable iter env x = pure x := by intro _; rfl) :
    wpAny (model prog w) A (exec (.For t iter body [] pos) env) Q E s := by
  refine wpAny_For (wpAny_mono (hi _ _ A s E rm i.ok) (fun v s₁ ⟨k₁, p₁⟩ => ?_) fun _ _ x => x) hs
  have i₁ := h0 _ (i.pure k₁)
  refine hit _ _ A s₁ E v _ rm.hh i₁.ok.toSt p₁ fun I fp Pt S h' it hk hI hfp hS0 hPt => ?_
  have nWI : ¬ (W0 I ∨ N I) := fun q => by obtain ⟨o, e⟩ := i₁.ok.wd I q; rw [hI] at e; cases e
  have hko : Kp (frS (env :: fr₀)) s₁ { s₁ with heap := h' } := Kp.all' hk
  have i₂ := i₁.grow (Z := fun a => a = I) hko (by rintro a rfl; exact ⟨hI, it.there 0 _ hS0⟩)
  have domI : ∀ a o, s₁.heap.get? a = some o → ¬ (W0 a ∨ N a) → ¬ (W0 a ∨ N a ∨ a = I) := fun a o e na => by
    rintro (h | h | rfl)
    · exact na (.inl h)
    · exact na (.inr h)
    · rw [hI] at e; cases e
  have nOwnI : ¬ Own env I := fun q => nWI (.inr (q.elim (fun q => q ▸ i.nl) fun ⟨y, e⟩ => i.nc y I e))
  have nfI : I ∉ frS (env :: fr₀) := fun m => nWI (i.ok.wf I m)
  have hNI : ∀ k a, (Xi k).ds a → a ≠ I := fun k a d q => nWI (.inr (q ▸ hXN k a d))
  have srcOk : ∀ b ∈ fp, b ≠ I → ¬ (W0 b ∨ N b ∨ b = I) ∧ ∃ ob, s₁.heap.get? b = some ob ∧ h'.get? b = some ob := fun b hb q => by
    obtain ⟨nb, ob, e⟩ := (hfp b hb).resolve_left q
    exact ⟨domI b ob e nb, ob, e, hk b ob e⟩
  have itOk : ∀ i v, Pt i v → ∃ x, xs[i]? = some x ∧ (R x).ok (fun a => W0 a ∨ N a ∨ a = I) h' v := fun i v p => by
    obtain ⟨x, e1, e2⟩ := hPt i v p
    exact ⟨x, e1, (R x).st e2 fun a o e na => ⟨domI a o e na, hk a o e⟩⟩
  refine for_loop it (fun k s' => C k ∧ ∃ o, S k s'.heap ∧ (hSrc I o fp s₁.heap Pt xs R).ok (fun a => W0 a ∨ N a ∨ a = I) s'.heap ∧ In hb B W0 (fun a => N a ∨ a = I) fr₀ env (σi k) (Xi k) s') ?_ ?_ ?_ ?_
  · rintro k s' ⟨_, _, h, _⟩
    exact h
  · rintro k s' v h₂ tk E' hE' hlt ⟨ck, o, hS, ⟨e1, e2, e3⟩, ik⟩ hp hS1 hk2
    obtain ⟨x, hx, hv⟩ := e3 k v hp
    obtain ⟨o₂, eo⟩ := it.there _ _ hS1
    have chg : ∀ a ob, s'.heap.get? a = some ob → ¬ (W0 a ∨ N a ∨ a = I) → ¬ (W0 a ∨ N a ∨ a = I) ∧ h₂.get? a = some ob := fun a ob e na => ⟨na, hk2 a ob (fun q => na (.inr (.inr q))) e⟩
    have oi : Ok hb (fun a => W0 a ∨ N a ∨ a = I) (env :: fr₀) env (σi k) { s' with heap := h₂, toks := tk } :=
      ik.ok.upd (fun a => a = I) (fun a ob e na => hk2 a ob na e) (by rintro z rfl; exact ⟨.inr (.inr rfl), nfI, nOwnI, o₂, eo⟩)
    have ik2 := ik.chg (σ' := σi k) (tk := tk) (fun a => a = I) (fun a q => .inr q) (fun a ob e na => hk2 a ob na e) (fun a d q => hNI k a d q) oi
    have y2 : (hSrc I o₂ fp s₁.heap Pt xs R).ok (fun a => W0 a ∨ N a ∨ a = I) h₂ :=
      ⟨eo, fun b hb q => let ⟨nw, ob, f1, f2⟩ := e2 b hb q; ⟨nw, ob, f1, hk2 b ob q f2⟩, fun j u pj => let ⟨z, g1, g2⟩ := e3 j u pj; ⟨z, g1, (R z).st g2 chg⟩⟩
    have ik3 : In hb B W0 (fun a => N a ∨ a = I) fr₀ env (σi k) (hAnd (hSrc I o₂ fp s₁.heap Pt xs R) (Xi k)) { s' with heap := h₂, toks := tk } :=
      { ik2 with xo := ⟨y2, ik2.xo, fun a q d => hNI k a d q⟩, xd := fun a d => d.elim (fun q => by have : a = I := q; subst this; exact ⟨.inr rfl, nOwnI⟩) (ik2.xd a) }
    refine in_asg ik3 rm (ha k x hx) ((R x).st hv chg) fun s₃ i₃ => wpAny_mono (turn _ _ k x s₃ E' hE' (fun a h => .inl h) hx ck i₃) (fun f s₄ h₄ => ?_) fun _ _ x => x
    have nxt : C (k + 1) ∧ In hb B W0 (fun a => N a ∨ a = I) fr₀ env (σi (k + 1)) (hAnd (hSrc I o₂ fp s₁.heap Pt xs R) (Xi (k + 1))) s₄ → C (k + 1) ∧ ∃ o, S (k + 1) s₄.heap ∧ (hSrc I o fp s₁.heap Pt xs R).ok (fun a => W0 a ∨ N a ∨ a = I) s₄.heap ∧ In hb B W0 (fun a => N a ∨ a = I) fr₀ env (σi (k + 1)) (Xi (k + 1)) s₄ := by
      rintro ⟨ck', i₄⟩
      obtain ⟨y4, x4, _⟩ := i₄.xo
      refine ⟨ck', o₂, it.frame _ _ _ hS1 fun b hb ob e => ?_, y4, i₄.forget (fun W h q => q.2.1) fun a d => .inr d⟩
      by_cases q : b = I
      · subst q
        rw [eo] at e; cases e
        exact y4.1
      · obtain ⟨_, ob1, f1, f2⟩ := y2.2.1 b hb q
        obtain ⟨_, ob2, f3, f4⟩ := y4.2.1 b hb q
        rw [f2] at e; cases e
        rw [f1] at f3; cases f3
        exact f4
    cases f with
    | next => exact nxt h₄
    | cont => exact nxt h₄
    | brk => exact h₄
    | ret v => exact h₄
  · rintro s' h₂ tk ⟨ck, o, hS, _, ik⟩ hk2
    refine fin _ ck ?_
    exact ik.drop (by rintro z rfl; exact nWI) (fun a ob e na => hk2 a ob na e) i₁.nl i₁.nc (hXN _)
  · obtain ⟨o, eo⟩ := it.there 0 _ hS0
    exact ⟨c0, o, hS0, ⟨eo, srcOk, itOk⟩, i₂⟩
/-- a loop over what may be walked -/
theorem x_for {α : Type} {R : α → VP} {xs : List α} {Pi : VP} {t iter : Expr} {body : List Stmt} {pos : Pos} {τ : α → List (Str × VP)} {Q : Flow → Shared → Prop}
    (σi : Nat → List (Str × VP)) (Xi : Nat → HP) (C : Nat → Prop)
    (i : In hb B W0 N fr₀ env σ X s) (rm : Rm n (env :: fr₀) A) (hi : Ev prog w hb n env σ iter Pi) (hit : IterP prog w hb Pi xs R)
    (h0 : ∀ s', In hb B W0 N fr₀ env σ X s' → In hb B W0 N fr₀ env (σi 0) (Xi 0) s') (c0 : C 0) (hXN : ∀ k a, (Xi k).ds a → N a)
    (ha : ∀ k x, xs[k]? = some x → Asg prog w hb n env (σi k) t (R x) (τ x))
    (turn : ∀ N' Y k x s' (E : Value → Shared → Prop), (∀ a, N a → N' a) → xs[k]? = some x → C k → In hb B W0 N' fr₀ env (τ x ++ σi k) (hAnd Y (Xi k)) s' → wpAny (model prog w) A (execs body env) (fun f s'' => match f with
      | .next | .cont => C (k + 1) ∧ In hb B W0 N' fr₀ env (σi (k + 1)) (hAnd Y (Xi (k + 1))) s''
      | .brk => Q .next s''
      | .ret v => Q (.ret v) s'') E s')
    (fin : ∀ s', C xs.length → In hb B W0 N fr₀ env (σi xs.length) (Xi xs.length) s' → Q .next s')
    (hs : ∀ x, foldedSetIterable iter env x = pure x := by intro _; rfl) :
    wpAny (model prog w) A (exec (.For t iter body [] pos) env) Q E s :=
  x_forE σi Xi C i rm hi hit h0 c0 hXN ha (fun N' Y k x s' E' _ => turn N' Y k x s' E') fin hs
end
end Mine
end

section
open PySem PySem.W PyProof.Rows PySem.Calls
set_option Elab.async false
set_option autoImplicit false
set_option linter.unusedVariables false
namespace Mine

theorem bindL_not {k : Str → Option NameKind} {x : Str} : ∀ {binds : List (Str × Value)} {m : Str → Option Value}, x ∉ binds.map (·.1) → bindL k binds m x = m x
  | [], m, _ => rfl
  | (y, v) :: r, m, h => by
    unfold bindL
    have hx : x ≠ y := fun q => h (by rw [q]; exact .head _)
    rw [bindL_not fun q => h (.tail _ q)]
    split <;> simp [hx]
theorem bindC_not {k : Str → Option NameKind} {x : Str} : ∀ {binds : List (Str × Value)} {m : Str → Option Value}, x ∉ binds.map (·.1) → bindC k binds m x = m x
  | [], m, _ => rfl
  | (y, v) :: r, m, h => by
    unfold bindC
    have hx : x ≠ y := fun q => h (by rw [q]; exact .head _)
    rw [bindC_not fun q => h (.tail _ q)]
    split <;> simp [hx]
theorem bind_get {k : Str → Option NameKind} {x : Str} {v : Value} : ∀ {binds : List (Str × Value)} {m m' : Str → Option Value}, (x, v) ∈ binds → (binds.map (·.1)).Nodup → (if k x = some .local then bindL k binds m x else bindC k binds m' x) = some v
  | (y, u) :: r, m, m', h, nd => by
    rw [List.map_cons, List.nodup_cons] at nd
    by_cases hh : (x, v) ∈ r
    · unfold bindL bindC
      exact bind_get hh nd.2
    · have e : (x, v) = (y, u) := by
        rcases List.mem_cons.mp h with e | e
        · exact e
        · exact absurd e hh
      injection e with e1 e2
      subst e1 e2
      unfold bindL bindC
      rw [bindL_not nd.1, bindC_not nd.1]
      split <;> simp_all

/-- the frame of a def of the text -/
def fE (fd : FuncData) (L a : Addr) : Env := callEnvC fd L a

structure FnAt (hb : Heap) (a : Addr) (fd : FuncData) (body : List Stmt) : Prop where
  ob : ∃ o, hb.get? a = some o ∧ o.data = .func fd
  code : hb.CodeRec fd.code fd.qualname
  body : fd.body = .stmts body
  clo : fd.closure = []
  glob : fd.globals = mainGlobals
  blt : fd.builtins = builtinsNs
  sc : scopeOk fd.scope = true
  co : fd.scope.isCoroutine = false
  ge : fd.scope.isGenerator = false

def retV : Flow → Value
  | .ret v => v
  | _ => .none

section
variable {prog : Program} {w : World} {hb : Heap} {n : Nat} {mg mb : Str → Option Value} {a : Addr} {fd : FuncData} {body : List Stmt}

theorem rm_deeper {fr₀ : List Env} {A : Around} {env : Env} (rm : Rm (n + 1) fr₀ A) : Rm n (env :: fr₀) (A.deeper env) :=
  ⟨rm.hh, Around.frames_deeper rm.fr, by have := rm.dp; show A.depth + 1 + 2 * n < recursionLimit; lia, by have := rm.un; show A.units + 3 + 100 * n + 100 < cLine; lia⟩

theorem fn_enter (G : Gd w hb mg mb) (F : FnAt hb a fd body) {W : Addr → Prop} {fr₀ : List Env} {A : Around} {s : Shared} {vs : List Value} {kw : List (Str × Value)} {Ps : List VP} {binds : List (Str × Value)} {R : Result → Shared → Prop} (rm : Rm (n + 1) fr₀ A) (st : St hb W fr₀ s)
    (hbind : BindsTo s fd ⟨vs, kw⟩ binds) (hp : Paired (fun v (P : VP) => P.ok W s.heap v) (binds.map (·.2)) Ps) (hnd : (binds.map (·.1)).Nodup) (htg : (binds.map (·.1)).all (tgtOk fd.scope) = true)
    (h : ∀ s₁, In hb s W (Own (fE fd s.heap.objs.size a)) fr₀ (fE fd s.heap.objs.size a) ((binds.map (·.1)).zip Ps) hTrue s₁ →
      wpAny (model prog w) (A.deeper (fE fd s.heap.objs.size a)) (execs body (fE fd s.heap.objs.size a)) (fun f s' => R (.ok (.ret (retV f))) s') (fun _ _ => False) s₁) :
    codeAny (model prog w) A (.call (.ref a) ⟨vs, kw⟩) R s := by
  obtain ⟨o, ho, hd⟩ := F.ob
  have sc := F.sc
  have hkind : ∀ x ∈ binds, fd.scope.names.lookup x.1 = some .local ∨ (fd.scope.names.lookup x.1 = some .cell ∧ ((cellsFrom (s.heap.objs.size + 1) fd.scope.names []).lookup x.1).isSome = true) := fun x hx => by
    have := List.all_eq_true.mp htg x.1 (List.mem_map_of_mem hx)
    rcases tgtOk.cases this with q | q
    · exact .inl q
    · obtain ⟨c, hc⟩ := cellsFrom_has (n := s.heap.objs.size + 1) (scopeOk.mem q)
      exact .inr ⟨q, by rw [hc]; rfl⟩
  refine codeAny_call_function (by have := rm.dp; lia) (st.stay a o ho) hd F.co F.ge F.body (F.code.keeps st.stay) (hbind _ _ _ _ ?_)
  rw [F.clo]
  refine wpAny_newFunctionEnv_cells (scopeOk.kind sc) hkind fun env he s' x => ?_
  have he' : env = fE fd s.heap.objs.size a := he
  subst he'
  refine ⟨(G.nolimit.keeps st.stay).keeps x.toInCall.keep, codeAny_func (wpAny_mono (h s' ?_) (fun f s'' q => ?_) fun _ _ q => q.elim)⟩
  · obtain ⟨h₁, tk, e, hk⟩ := x.done
    have hL : ∀ z, s.heap.objs.size ≤ z → s.heap.get? z = none := fun z hz => by
      cases e : s.heap.get? z with
      | none => rfl
      | some o => exact absurd (Heap.lt_size e) (Nat.not_lt.mpr hz)
    have own : ∀ z, Own (fE fd s.heap.objs.size a) z → s.heap.objs.size ≤ z := by
      rintro z (rfl | ⟨y, hy⟩)
      · exact Nat.le_refl _
      · exact Nat.le_of_lt (x.above y z (mem_of_lookup hy))
    have kp : Kp (frS fr₀) s s' := by subst e; exact Kp.all hk
    have hn0 : ∀ z, s.heap.objs.size ≤ z → hb.get? z = none := fun z hz => by
      cases e : hb.get? z with
      | none => rfl
      | some o => have := st.stay z o e; rw [hL z hz] at this; cases this
    have exOwn : ∀ z, Own (fE fd s.heap.objs.size a) z → ∃ o, s'.heap.get? z = some o := by
      rintro z (rfl | ⟨y, hy⟩)
      · obtain ⟨o, _, _, e, _⟩ := x.toInCall.ns; exact ⟨o, e⟩
      · obtain ⟨o, e, _⟩ := x.cell y z hy; exact ⟨o, e⟩
    have hk' : ∀ z o, s.heap.get? z = some o → s'.heap.get? z = some o := x.toInCall.keep
    have sk : ∀ z o, s.heap.get? z = some o → ¬ W z → ¬ (W z ∨ Own (fE fd s.heap.objs.size a) z) ∧ s'.heap.get? z = some o := fun z o e nz => by
      refine ⟨?_, hk' z o e⟩
      rintro (h | h)
      · exact nz h
      · rw [hL z (own z h)] at e
        cases e
    have hkd : ∀ y, (fE fd s.heap.objs.size a).kindOf y = fd.scope.names.lookup y := fun y => rfl
    refine ⟨kp, ⟨⟨(st.kp kp).stay, ?_, ?_, ?_, ?_⟩, .inr (.inl rfl), fun y c e => .inr (.inr ⟨y, e⟩), ⟨scopeOk.kind sc, F.glob, F.blt, fun y z c h1 h2 => name_of_addr x.apart (mem_of_lookup h1) (mem_of_lookup h2), fun y c e => ?_⟩, ?_⟩, fun z h => hL z (own z h), st, rfl, .inl rfl, fun y c e => .inr ⟨y, e⟩, trivial, fun z q => q.elim⟩
    · obtain ⟨oL, es, ep, eL, dL, _⟩ := x.toInCall.ns
      exact ⟨by show fd.scope.kind ≠ .module; rw [scopeOk.kind sc]; decide, ⟨s.heap.objs.size, oL, rfl, hn0 _ (Nat.le_refl _), eL, fun vs q => by rw [dL] at q; cases q⟩, (st.kp kp).ff⟩
    · rintro z (h | h)
      · exact (st.kp kp).wd z h
      · exact exOwn z h
    · rintro z (h | h)
      · exact st.wn z h
      · exact hn0 z (own z h)
    · intro z m
      rw [frS_cons (env := fE fd s.heap.objs.size a) rfl] at m
      rcases List.mem_cons.mp m with q | q
      · exact .inr (.inl q)
      · exact .inl (st.wf z q)
    · rw [hkd]
      have := (cellsFrom_mem (mem_of_lookup (show (cellsFrom (s.heap.objs.size + 1) fd.scope.names []).lookup y = some c from e))).1
      rw [scopeOk.look sc this]
      intro q; cases q
    · refine ⟨fun y => if (fE fd s.heap.objs.size a).kindOf y = some .local then bindL (fE fd s.heap.objs.size a).kindOf binds (fun _ => none) y else bindC (fE fd s.heap.objs.size a).kindOf binds (fun _ => none) y, ⟨⟨_, x.toInCall.ns, fun y hy => by simp [hy]⟩, fun y c e => ?_⟩, fun y P e => ?_⟩
      · have hc := x.cell y c e
        have hnl : (fE fd s.heap.objs.size a).kindOf y ≠ some .local := by
          rw [hkd]
          have := (cellsFrom_mem (mem_of_lookup (show (cellsFrom (s.heap.objs.size + 1) fd.scope.names []).lookup y = some c from e))).1
          rw [scopeOk.look sc this]
          intro q; cases q
        simp only [hnl, if_false]
        exact hc
      · have hm := mem_of_lookup e
        have key : ∀ {bs : List (Str × Value)} {Qs : List VP}, Paired (fun v (P : VP) => P.ok W s.heap v) (bs.map (·.2)) Qs → (y, P) ∈ (bs.map (·.1)).zip Qs → ∃ v, (y, v) ∈ bs ∧ P.ok W s.heap v := by
          intro bs
          induction bs with
          | nil => intro Qs _ h; simp at h
          | cons b r ih =>
            intro Qs hq h
            cases hq with
            | cons h1 h2 =>
              rw [List.map_cons, List.zip_cons_cons] at h
              rcases List.mem_cons.mp h with e | h
              · injection e with e1 e2
                subst e1 e2
                exact ⟨b.2, .head _, h1⟩
              · obtain ⟨v, hv, q⟩ := ih h2 h
                exact ⟨v, .tail _ hv, q⟩
        obtain ⟨v, hv, q⟩ := key hp hm
        refine ⟨?_, v, bind_get hv hnd, P.st q sk⟩
        rcases hkind _ hv with q | ⟨q1, q2⟩
        · exact .inl q
        · exact .inr ⟨.inl q1, Option.isSome_iff_exists.mp q2⟩
  · cases f <;> exact q
end
end Mine
end

section
open PySem PySem.W PyProof.Rows PySem.Calls
set_option Elab.async false
set_option autoImplicit false
set_option linter.unusedVariables false
namespace Mine
section
variable {prog : Program} {w : World} {hb : Heap} {n : Nat} {env : Env} {σ : List (Str × VP)} {B s s' : Shared} {W0 N : Addr → Prop} {fr₀ : List Env} {X Y : HP} {A : Around} {E : Value → Shared → Prop}

theorem x_expr {e : Expr} {pos : Pos} {J : Shared → Prop} (h : wpAny (model prog w) A (eval e env) (fun _ s' => J s') E s) (hi : interactive env = false := by rfl) (hs : swapsWith e none pos.line env = pure false := by rfl) :
    wpAny (model prog w) A (exec (.Expr e pos) env) (fun f s' => f = .next ∧ J s') E s :=
  wpAny_Expr_any (wpAny_mono h (fun _ s' q => ⟨rfl, q⟩) fun _ _ x => x) hi hs

theorem x_new {α : Type} {R : α → VP} {x : Str} {px pl pos : Pos} (i : In hb B W0 N fr₀ env σ Y s) (rm : Rm n (env :: fr₀) A) (nk : StoreOk env x) :
    wpAny (model prog w) A (exec (.Assign [.Name x px] (.List [] pl) pos) env) (fun f s' => f = .next ∧ ∃ D, In hb B W0 (fun a => N a ∨ a = D) fr₀ env ((x, vRef D) :: σ) (hAnd Y (hList R D [])) s') E s := by
  refine wpAny_Assign_Name (PyProof.Rows.List_ (args_nil (wpAny_newList ?_ (by simp [sizeLine_eq])))) (by rfl)
  have hD : s.heap.get? s.heap.objs.size = none := by
    cases e : s.heap.get? s.heap.objs.size with
    | none => rfl
    | some o => exact absurd (Heap.lt_size e) (Nat.lt_irrefl _)
  have hDo : (s.heap.push { cls := .type "list", data := .seq [].toArray }).get? s.heap.objs.size = some { cls := .type "list", data := .seq [].toArray } := Heap.get?_push_size _ rfl
  have nND : ¬ (W0 s.heap.objs.size ∨ N s.heap.objs.size) := i.ok.toSt.fresh
  have i₁ := i.grow (Z := fun a => a = s.heap.objs.size) (s' := { s with heap := s.heap.push { cls := .type "list", data := .seq [].toArray } }) (Kp.push1 _ _ _) (by rintro a rfl; exact ⟨hD, _, hDo⟩)
  have i₂ : In hb B W0 (fun a => N a ∨ a = s.heap.objs.size) fr₀ env σ (hAnd Y (hList R s.heap.objs.size [])) { s with heap := s.heap.push { cls := .type "list", data := .seq [].toArray } } :=
    { i₁ with
      xo := ⟨i₁.xo, ⟨by simp, [], ⟨0, hDo⟩, .nil⟩, fun a d q => nND (by have : a = s.heap.objs.size := q; subst this; exact .inr (i.xd _ d).1)⟩
      xd := fun a d => d.elim (i₁.xd a) fun q => by
        have : a = s.heap.objs.size := q
        subst this
        exact ⟨.inr rfl, fun q => nND (.inr (q.elim (fun q => q ▸ i.nl) fun ⟨y, e⟩ => i.nc y _ e))⟩ }
  exact in_store i₂ nk (P := vRef s.heap.objs.size) rfl fun s' i' => ⟨rfl, _, i'⟩

/-- the list's own place -/
theorem In.listN {α : Type} {R : α → VP} {D : Addr} {l : List α} (i : In hb B W0 N fr₀ env σ (hAnd Y (hList R D l)) s) : N D ∧ ¬ Own env D ∧ D ∉ frS (env :: fr₀) ∧ ¬ Y.ds D := by
  obtain ⟨a, b⟩ := i.xd D (.inr rfl)
  refine ⟨a, b, fun m => ?_, fun d => i.xo.2.2 D d rfl⟩
  rw [frS_cons i.fo] at m
  rcases List.mem_cons.mp m with q | q
  · exact b (.inl q)
  · exact i.notFr a q

/-- a change of the list alone -/
theorem In.listUpd {α β : Type} {R : α → VP} {R' : β → VP} {D : Addr} {l : List α} {l' : List β} {h' : Heap} {tk : Nat} {vs' : List Value} (i : In hb B W0 N fr₀ env σ (hAnd Y (hList R D l)) s) (hs : ∀ a o, s.heap.get? a = some o → a ≠ D → h'.get? a = some o) (hl : h'.PlainList D vs'.toArray)
    (lm : l'.length ≤ 1000) (hp : Paired (fun v x => (R' x).ok (fun a => W0 a ∨ N a) s.heap v) vs' l') : In hb B W0 N fr₀ env σ (hAnd Y (hList R' D l')) { s with heap := h', toks := tk } := by
  obtain ⟨nD, oD, fD, yD⟩ := i.listN
  have oi : Ok hb (fun a => W0 a ∨ N a) (env :: fr₀) env σ { s with heap := h', toks := tk } := i.ok.upd (fun a => a = D) (fun a o e na => hs a o e na) (by rintro z rfl; obtain ⟨_, e⟩ := hl; exact ⟨.inr nD, fD, oD, _, e⟩)
  have iY : In hb B W0 N fr₀ env σ Y s := i.forget (fun _ _ q => q.1) fun a d => .inl d
  have iY' := iY.chg (σ' := σ) (tk := tk) (fun a => a = D) (fun a q => q ▸ nD) (fun a o e na => hs a o e na) (fun a d q => yD (q ▸ d)) oi
  exact { iY' with
    xo := ⟨iY'.xo, ⟨lm, vs', hl, Paired.mono hp fun _ x q => (R' x).st q fun a o e na => ⟨na, hs a o e fun q => na (.inr (q ▸ nD))⟩⟩, fun a d q => yD (by have : a = D := q; exact this ▸ d)⟩
    xd := fun a d => d.elim (iY'.xd a) fun q => by
      have : a = D := q
      subst this
      exact ⟨nD, oD⟩ }

theorem paired_snoc {α : Type} {F : Value → α → Prop} {vs : List Value} {l : List α} {v : Value} {x : α} (p : Paired F vs l) (h : F v x) : Paired F (vs ++ [v]) (l ++ [x]) := Paired.app p (.cons h .nil)

theorem x_append {α : Type} {R : α → VP} {D : Addr} {l : List α} {z : α} {x : Str} {e : Expr} {px pa pc pos : Pos} (i : In hb B W0 N fr₀ env σ (hAnd Y (hList R D l)) s) (rm : Rm n (env :: fr₀) A) (hx : σ.lookup x = some (vRef D)) (he : Ev prog w hb n env σ e (R z)) (lm : l.length < 1000)
    (hline : (pa.endLine == pc.line) = true := by rfl) (hst : starEach [e] env = [(false, eval e env)] := by rfl) (hi : interactive env = false := by rfl) (hd : (x == ("__debug__" : Str)) = false := by decide) (hc : (x == ("__classdict__" : Str)) = false := by decide) :
    wpAny (model prog w) A (exec (.Expr (.Call (.Attribute (.Name x px) "append" pa) [e] [] pc) pos) env) (fun f s' => f = .next ∧ In hb B W0 N fr₀ env σ (hAnd Y (hList R D (l ++ [z]))) s') E s := by
  refine x_expr ?_ hi rfl
  refine Call_method1 (by rfl) hst hline (wpAny_mono (ev_name hx hd hc _ _ A s E rm i.ok) (fun v s₁ ⟨k₁, p₁⟩ => ?_) fun _ _ x => x)
  obtain rfl : v = .ref D := p₁
  have i₁ := i.pure k₁
  obtain ⟨_, ⟨_, vs₁, ⟨n₁, e₁⟩, _⟩, _⟩ := i₁.xo
  refine ⟨"list", "list.append", F.plainAttrs_list, F.slot_list_append, F.type_list_append, ⟨_, e₁, rfl⟩, fun a q => by injection q with q; subst q; exact ⟨_, e₁, rfl⟩, ?_⟩
  refine PySem.P.append_list (wpAny_mono (he _ _ A s₁ E rm i₁.ok) (fun u s₂ ⟨k₂, p₂⟩ => ?_) fun _ _ x => x)
  have i₂ := i₁.pure k₂
  obtain ⟨_, ⟨_, vs, ⟨ne, ee⟩, pp⟩, _⟩ := i₂.xo
  have hlen := Paired.length pp
  refine ⟨vs.toArray, ne, by rw [List.size_toArray, sizeLine_eq]; omega, ee, ?_⟩
  refine i₂.listUpd (R' := R) (tk := s₂.toks) (vs' := vs ++ [u]) (fun a o e na => (Heap.get?_update_other _ _ (Ne.symm na)).trans e) ⟨ne + 1, ?_⟩ (by rw [List.length_append]; simp; omega) (paired_snoc pp p₂)
  rw [Heap.get?_update_self _ ee (by rw [Obj.mapSeq_push_plain]; rfl), Obj.mapSeq_push_plain]
  simp

theorem x_ifW {t : Expr} {body orelse rest : List Stmt} {pos : Pos} {b : Bool} {Q : Flow → Shared → Prop} (i : In hb B W0 N fr₀ env σ X s)
    (ht : wpAny (model prog w) A (isTrue t env (eval t env)) (fun c s' => Kp (frS (env :: fr₀)) s s' ∧ c = b) E s)
    (h1 : b = true → ∀ s', In hb B W0 N fr₀ env σ X s' → wpAny (model prog w) A (execs body env) (fun f s'' => match f with | .next => wpAny (model prog w) A (execs rest env) Q E s'' | f => Q f s'') E s')
    (h2 : b = false → ∀ s', In hb B W0 N fr₀ env σ X s' → wpAny (model prog w) A (execs orelse env) (fun f s'' => match f with | .next => wpAny (model prog w) A (execs rest env) Q E s'' | f => Q f s'') E s') :
    wpAny (model prog w) A (execs (.If t body orelse pos :: rest) env) Q E s :=
  wpAny_execs_cons (wpAny_If (wpAny_mono ht (fun c s₁ ⟨k₁, p₁⟩ => by
    subst p₁
    cases c with
    | true => exact h1 rfl s₁ (i.pure k₁)
    | false => exact h2 rfl s₁ (i.pure k₁)) fun _ _ x => x))

/-- the written list read as a list -/
theorem In.read {α : Type} {R : α → VP} {D : Addr} {l : List α} {x : Str} (i : In hb B W0 N fr₀ env σ (hAnd Y (hList R D l)) s) (hx : σ.lookup x = some (vRef D)) :
    Ok hb (fun a => (W0 a ∨ N a) ∧ a ≠ D) (env :: fr₀) env ((x, vList R l) :: σ) s := by
  obtain ⟨nD, oD, fD, yD⟩ := i.listN
  have o := i.ok.less (W := fun a => (W0 a ∨ N a) ∧ a ≠ D) (fun a h => h.1) (fun a m => ⟨i.ok.wf a m, fun q => fD (q ▸ m)⟩) ⟨i.ok.wl, fun q => oD (.inl q.symm)⟩ fun y c e => ⟨i.ok.wc y c e, fun q => oD (.inr ⟨y, q ▸ e⟩)⟩
  refine { o with nm := ?_ }
  obtain ⟨μ, f, r⟩ := o.nm
  obtain ⟨nk, v, e1, e2⟩ := r x _ hx
  obtain rfl : v = .ref D := e2
  obtain ⟨_, ⟨lm, vs, pl, pp⟩, _⟩ := i.xo
  refine ⟨μ, f, fun y P e => ?_⟩
  by_cases hy : y = x
  · subst hy
    rw [List.lookup_cons_self] at e
    cases e
    exact ⟨nk, _, e1, lm, D, vs, rfl, fun h => h.2 rfl, pl, Paired.mono pp fun _ z q => (R z).st q fun a o e na => ⟨fun h => na h.1, e⟩⟩
  · rw [List.lookup_cons, beq_eq_false_iff_ne.mpr hy] at e
    exact r y P e
theorem x_ifR {α : Type} {R : α → VP} {D : Addr} {l : List α} (x : Str) {t : Expr} {body orelse rest : List Stmt} {pos : Pos} {b : Bool} {Q : Flow → Shared → Prop} (i : In hb B W0 N fr₀ env σ (hAnd Y (hList R D l)) s) (rm : Rm n (env :: fr₀) A) (hx : σ.lookup x = some (vRef D))
    (ht : Tr prog w hb n env ((x, vList R l) :: σ) t b)
    (h1 : b = true → ∀ s', In hb B W0 N fr₀ env σ (hAnd Y (hList R D l)) s' → wpAny (model prog w) A (execs body env) (fun f s'' => match f with | .next => wpAny (model prog w) A (execs rest env) Q E s'' | f => Q f s'') E s')
    (h2 : b = false → ∀ s', In hb B W0 N fr₀ env σ (hAnd Y (hList R D l)) s' → wpAny (model prog w) A (execs orelse env) (fun f s'' => match f with | .next => wpAny (model prog w) A (execs rest env) Q E s'' | f => Q f s'') E s') :
    wpAny (model prog w) A (execs (.If t body orelse pos :: rest) env) Q E s := x_ifW i (ht _ _ A s E rm (i.read hx)) h1 h2
/-- the written list handed out -/
theorem In.give {α : Type} {R : α → VP} {D : Addr} {l : List α} (i : In hb B W0 N fr₀ env σ (hAnd Y (hList R D l)) s) : (vList R l).ok W0 s.heap (.ref D) := by
  obtain ⟨nD, oD, fD, yD⟩ := i.listN
  obtain ⟨_, ⟨lm, vs, pl, pp⟩, _⟩ := i.xo
  refine ⟨lm, D, vs, rfl, fun h => ?_, pl, Paired.mono pp fun _ z q => (R z).st q fun a o e na => ⟨fun h => na (.inl h), e⟩⟩
  obtain ⟨o, e⟩ := i.b0.wd D h
  rw [i.nw D nD] at e; cases e
theorem x_retO {α : Type} {R : α → VP} {D : Addr} {l : List α} {x : Str} {px pos : Pos} {rest : List Stmt} {Q : Flow → Shared → Prop} (i : In hb B W0 N fr₀ env σ (hAnd Y (hList R D l)) s) (rm : Rm n (env :: fr₀) A) (hx : σ.lookup x = some (vRef D))
    (h : ∀ s', Kp (frS fr₀) B s' → (vList R l).ok W0 s'.heap (.ref D) → Q (.ret (.ref D)) s') (hd : (x == ("__debug__" : Str)) = false := by decide) (hc : (x == ("__classdict__" : Str)) = false := by decide) :
    wpAny (model prog w) A (execs (.Return (some (.Name x px)) pos :: rest) env) Q E s :=
  x_ret i rm (ev_name hx hd hc) fun v s' i' p => by
    obtain rfl : v = .ref D := p
    exact h s' i'.kp i'.give
theorem VP.out {P : VP} {v : Value} {h : Heap} (p : P.ok (fun a => W0 a ∨ N a) h v) : P.ok W0 h v := P.st p fun a o e na => ⟨fun h => na (.inl h), e⟩
end
end Mine
end

section
open PySem PySem.W PyProof.Rows PySem.Calls
set_option Elab.async false
set_option autoImplicit false
set_option linter.unusedVariables false
set_option maxRecDepth 100000
namespace Mine
/-- a def of the text: its data and its body -/
def DefOf (w : World) (a : Addr) : Type := { p : FuncData × List Stmt // (KF w).lookup a = some ⟨.type "function", none, .func p.1, #[]⟩ ∧ p.1.body = .stmts p.2 }
noncomputable def f174 (w : World) : DefOf w 174 := ⟨(_, _), rfl, rfl⟩
section
variable {prog : Program} {w : World} {hb : Heap} {n : Nat} {mg mb : Str → Option Value}

theorem fnAt (G : Gd w hb mg mb) {a : Addr} (f : DefOf w a) (hc : codeIn (KF w) f.1.1.code f.1.1.qualname = true) 
    (h1 : f.1.1.closure = []) (h2 : f.1.1.globals = mainGlobals) (h3 : f.1.1.builtins = builtinsNs) (h4 : scopeOk f.1.1.scope = true) (h5 : f.1.1.scope.isCoroutine = false) (h6 : f.1.1.scope.isGenerator = false) : FnAt hb a f.1.1 f.1.2 :=
  ⟨⟨_, G.kin _ _ f.2.1, rfl⟩, codeRec_of G.kin hc, f.2.2, h1, h2, h3, h4, h5, h6⟩

theorem tail_look {σ : List (Str × VP)} {x y : Str} {P Q : VP} (e : σ.lookup y = some P) (h : y ≠ x) : ((x, Q) :: σ).lookup y = some P := by
  rw [List.lookup_cons, beq_eq_false_iff_ne.mpr h]; exact e

def dedupL {α : Type} [DecidableEq α] (l : List α) : List α := l.foldl (fun acc x => if x ∈ acc then acc else acc ++ [x]) []
theorem dedupL_take {α : Type} [DecidableEq α] {l : List α} {k : Nat} {x : α} (h : l[k]? = some x) : dedupL (l.take (k + 1)) = if x ∈ dedupL (l.take k) then dedupL (l.take k) else dedupL (l.take k) ++ [x] := by
  unfold dedupL
  rw [List.take_add_one, h, List.foldl_append]
  rfl
theorem dedupL_len {α : Type} [DecidableEq α] (l : List α) : (dedupL l).length ≤ l.length := by
  have : ∀ (l acc : List α), (l.foldl (fun acc x => if x ∈ acc then acc else acc ++ [x]) acc).length ≤ acc.length + l.length := by
    intro l
    induction l with
    | nil => intro acc; simp
    | cons x r ih =>
      intro acc
      rw [List.foldl_cons]
      have h := ih (if x ∈ acc then acc else acc ++ [x])
      have h2 : (if x ∈ acc then acc else acc ++ [x]).length ≤ acc.length + 1 := by split <;> simp
      rw [List.length_cons]
      omega
  simpa [dedupL] using this l []

theorem fn_dedup (G : Gd w hb mg mb) : FnAt hb 174 (f174 w).1.1 (f174 w).1.2 := fnAt G (f174 w) rfl rfl rfl rfl rfl rfl rfl

theorem cl_dedup (G : Gd w hb mg mb) {α : Type} [Inhabited α] [DecidableEq α] {R : α → VP} (hR : Inj R) {d : Nat} (hE : ∀ a b, EqP (R a) (R b) (decide (a = b)) d) (hd : d ≤ 80) (l : List α) :
    Cl prog w hb (n + 1) (.ref 174) [vList R l] (vList R (dedupL l)) := by
  intro W frs A s E vs rm st hp
  cases hp with
  | cons h1 h2 =>
  cases h2
  rename_i v
  have lmL : l.length ≤ 1000 := h1.1
  refine wpAny_call (fn_enter G (fn_dedup G) (binds := [("unhashable_params", v)]) (Ps := [vList R l]) rm st (BindsTo.of_eq rfl) (.cons h1 .nil) (by simp) rfl fun s₁ i₁ => ?_)
  have rm' := rm_deeper (env := fE (f174 w).1.1 s.heap.objs.size 174) rm
  refine seq_next (x_new (R := R) i₁ rm' (.inl rfl)) fun s₂ ⟨D, i₂⟩ => ?_
  refine seq_next (x_for (R := R) (xs := l) (τ := fun x => [("t", R x)]) (fun _ => [("new_unhashable", vRef D), ("unhashable_params", vList R l)]) (fun k => hList R D (dedupL (l.take k))) (fun _ => True)
    (Q := fun f s' => f = .next ∧ In hb s W (fun a => Own (fE (f174 w).1.1 s.heap.objs.size 174) a ∨ a = D) frs (fE (f174 w).1.1 s.heap.objs.size 174) [("new_unhashable", vRef D), ("unhashable_params", vList R l)] (hList R D (dedupL l)) s')
    i₂ rm' (ev_name (P := vList R l) rfl) iterP_list (fun s' i => i.forget (fun _ _ q => q.2.1) fun a d => .inr d) trivial (fun k a d => .inr d) (fun k x hx => asg_name (.inl rfl)) ?_ (fun s' _ i => ⟨rfl, by rw [List.take_length] at i; exact i⟩)) fun s₃ i₃ => ?_
  · intro N' Y k x s' E' hN hx _ i
    have hkl : k < l.length := (List.getElem?_eq_some_iff.mp hx).1
    have hlen := dedupL_len (l.take k)
    rw [List.length_take] at hlen
    refine x_ifR "new_unhashable" i rm' rfl (tr_cmp (ev_name rfl) (ev_name rfl) (op_notIn hR hE (by omega) x _)) ?_ ?_
    · intro hb s₄ i₄
      have hni : x ∉ dedupL (l.take k) := by simpa using hb
      refine seq_next (x_append (z := x) i₄ rm' rfl (ev_name rfl) (by omega)) fun s₅ i₅ => ?_
      refine wpAny_execs_nil (wpAny_execs_nil ⟨trivial, ?_⟩)
      rw [dedupL_take hx, if_neg hni]
      exact i₅.sub fun y P e => tail_look e (by intro q; subst q; cases e)
    · intro hb s₄ i₄
      have hni : x ∈ dedupL (l.take k) := by simpa using hb
      refine wpAny_execs_nil (wpAny_execs_nil ⟨trivial, ?_⟩)
      rw [dedupL_take hx, if_pos hni]
      exact i₄.sub fun y P e => tail_look e (by intro q; subst q; cases e)
  · refine x_retO (Y := hTrue) (l := dedupL l) { i₃ with xo := ⟨trivial, i₃.xo, fun a q => q.elim⟩, xd := fun a d => d.elim (fun q => q.elim) (i₃.xd a) } rm' rfl fun s' k p => ⟨k, p⟩
end
end Mine
end

section
open PySem PySem.W PyProof.Rows PySem.Calls
set_option Elab.async false
set_option autoImplicit false
set_option linter.unusedVariables false
namespace Mine

/-- all stays but at T (and the frames' slots) -/
def Kq (S : List Addr) (T : Addr → Prop) (s s' : Shared) : Prop :=
  ∃ h' tk, s' = { s with heap := h', toks := tk } ∧ ∀ a o, s.heap.get? a = some o → ¬ T a → (a ∉ S → h'.get? a = some o) ∧ ∃ sl, h'.get? a = some { o with slots := sl }
theorem Kq.refl (S : List Addr) (T : Addr → Prop) (s : Shared) : Kq S T s s := ⟨s.heap, s.toks, rfl, fun a o e _ => ⟨fun _ => e, o.slots, e⟩⟩
theorem Kq.trans {S : List Addr} {T : Addr → Prop} {s₁ s₂ s₃ : Shared} (x : Kq S T s₁ s₂) (y : Kq S T s₂ s₃) : Kq S T s₁ s₃ := by
  obtain ⟨h, tk, rfl, e⟩ := x
  obtain ⟨h', tk', rfl, e'⟩ := y
  refine ⟨h', tk', rfl, fun a o q nt => ?_⟩
  obtain ⟨e1, sl, e2⟩ := e a o q nt
  obtain ⟨_, sl', e4⟩ := e' a _ e2 nt
  exact ⟨fun nf => (e' a o (e1 nf) nt).1 nf, sl', e4⟩
theorem Kq.of_kp {S : List Addr} {T : Addr → Prop} {s s' : Shared} (x : Kp S s s') : Kq S T s s' := by
  obtain ⟨h, tk, rfl, e⟩ := x
  exact ⟨h, tk, rfl, fun a o q _ => e a o q⟩
theorem Kq.mono {S : List Addr} {T T' : Addr → Prop} {s s' : Shared} (x : Kq S T s s') (h : ∀ a, T a → T' a) : Kq S T' s s' := by
  obtain ⟨h', tk, rfl, e⟩ := x
  exact ⟨h', tk, rfl, fun a o q nt => e a o q fun t => nt (h a t)⟩
theorem Kq.kp {S : List Addr} {T T' : Addr → Prop} {s s' : Shared} (x : Kq S T s s') (h : ∀ a, T a → T' a ∨ s.heap.get? a = none) : Kq S T' s s' := by
  obtain ⟨h', tk, rfl, e⟩ := x
  exact ⟨h', tk, rfl, fun a o q nt => e a o q fun t => (h a t).elim nt fun n => by rw [n] at q; cases q⟩
theorem Kq.get {S : List Addr} {T : Addr → Prop} {s s' : Shared} (x : Kq S T s s') {a : Addr} {o : Obj} (e : s.heap.get? a = some o) (nt : ¬ T a) (n : a ∉ S) : s'.heap.get? a = some o := by
  obtain ⟨h', tk, rfl, k⟩ := x
  exact (k a o e nt).1 n
theorem Kq.upd {S : List Addr} {T : Addr → Prop} {s : Shared} {h' : Heap} {tk : Nat} (k : ∀ a o, s.heap.get? a = some o → ¬ T a → h'.get? a = some o) : Kq S T s { s with heap := h', toks := tk } :=
  ⟨h', tk, rfl, fun a o e nt => ⟨fun _ => k a o e nt, o.slots, k a o e nt⟩⟩

section
variable {prog : Program} {w : World} {hb : Heap} {n : Nat} {env : Env} {σ : List (Str × VP)} {scope : Scope}

theorem Ok.drop {W Z : Addr → Prop} {frs : List Env} {s : Shared} {h' : Heap} {tk : Nat} (o : Ok hb W frs env σ s) (hk : ∀ a ob, s.heap.get? a = some ob → ¬ Z a → h'.get? a = some ob) (hzW : ∀ a, Z a → W a) (hzF : ∀ a, Z a → a ∉ frS frs) (hzO : ∀ a, Z a → ¬ Own env a) :
    Ok hb (fun a => W a ∧ ¬ Z a) frs env σ { s with heap := h', toks := tk } := by
  have dom : ∀ a ob, s.heap.get? a = some ob → ¬ W a → ¬ (W a ∧ ¬ Z a) ∧ h'.get? a = some ob := fun a ob e na => ⟨fun h => na h.1, hk a ob e fun z => na (hzW a z)⟩
  refine ⟨⟨fun b ob e => hk b ob (o.stay b ob e) fun q => ?_, ?_, fun a h => ?_, fun a h => o.wn a h.1, fun a m => ⟨o.wf a m, fun z => hzF a z m⟩⟩, ⟨o.wl, fun z => hzO _ z (.inl rfl)⟩, fun x c e => ⟨o.wc x c e, fun z => hzO _ z (.inr ⟨x, e⟩)⟩, o.eo, ?_⟩
  · rw [o.wn b (hzW b q)] at e; cases e
  · have : ∀ {l : List Env}, (∀ a ∈ frS l, a ∈ frS frs) → s.heap.FunFrames hb l → h'.FunFrames hb l := by
      intro l
      induction l with
      | nil => intro _ _; trivial
      | cons e rest ih =>
        rintro hsub ⟨h1, ⟨L, ob, h2, h3, h4, h5⟩, h6⟩
        have hm : ∀ a ∈ frS rest, a ∈ frS frs := fun a ha => hsub a (by unfold frS at ha ⊢; rw [List.filterMap_cons, h2]; exact .tail _ ha)
        have hL : L ∈ frS frs := hsub L (by unfold frS; rw [List.filterMap_cons, h2]; exact .head _)
        exact ⟨h1, ⟨L, ob, h2, h3, hk L ob h4 fun q => hzF L q hL, h5⟩, ih hm h6⟩
    exact this (fun _ h => h) o.ff
  · obtain ⟨ob, e⟩ := o.wd a h.1
    exact ⟨ob, hk a ob e h.2⟩
  · obtain ⟨μ, f, r⟩ := o.nm
    refine ⟨μ, ⟨?_, fun y c hc => ?_⟩, fun y P e => ⟨(r y P e).1, ?_⟩⟩
    · obtain ⟨m, ⟨ob, es, ep, e, q⟩, hm⟩ := f.ns
      exact ⟨m, ⟨ob, es, ep, hk _ ob e fun q => hzO _ q (.inl rfl), q⟩, hm⟩
    · obtain ⟨ob, e, q⟩ := f.cell y c hc
      exact ⟨ob, hk _ ob e fun q => hzO _ q (.inr ⟨y, hc⟩), q⟩
    · obtain ⟨v, e1, e2⟩ := (r y P e).2
      exact ⟨v, e1, P.st e2 dom⟩

theorem comp_level {α β : Type} {R : α → VP} {R' : β → VP} {xs : List α} {p : α → Bool} {G : α → List β} {τ : α → List (Str × VP)} {elt t iter : Expr} {ifs : List Expr} {pos : Pos} {gens : List Comprehension} {d : Nat}
    (hg : gens[d]? = some ⟨t, iter, ifs, 0⟩) (hga : ∀ g', gens[d + 1]? = some g' → g'.is_async = 0)
    {cenv : Env} {ρ : List (Str × VP)} {frs : List Env} {A : Around} {s : Shared} {D I : Addr} {T WW : Addr → Prop} {fp : List Addr} {Pt : Nat → Value → Prop} {S : Nat → Heap → Prop} {Rr : Result → Shared → Prop} {dn : List β}
    (hWD : WW D) (hTD : T D) (hOD : ¬ Own cenv D) (hFD : D ∉ frS frs) (hTW : ∀ a, T a → WW a) (hTn : ∀ x a, OwnN cenv ((τ x).map (·.1)) a → T a)
    (ha : ∀ x, x ∈ xs → Asg prog w hb n cenv ρ t (R x) (τ x)) (ht : ∀ x, x ∈ xs → Trs prog w hb n cenv (τ x ++ ρ) ifs (p x))
    (hτ : ∀ x y P, ρ.lookup y = some P → (τ x ++ ρ).lookup y = some P)
    (act : ∀ x, x ∈ xs → p x = true → ∀ (s : Shared) (E : Value → Shared → Prop) (dn : List β), dn.length + (G x).length ≤ 1000 → Ok hb WW frs cenv (τ x ++ ρ) s → (hList R' D dn).ok WW s.heap →
      ActW prog w A elt gens (.ListComp elt gens scope pos) d (.ref D) cenv (fun s' => Kq (frS frs) T s s' ∧ Ok hb WW frs cenv (τ x ++ ρ) s' ∧ (hList R' D (dn ++ G x)).ok WW s'.heap) E s)
    (rm : Rm n frs A) (o : Ok hb WW frs cenv ρ s) (it : Itr prog w A I fp xs.length Pt S) (hS : S 0 s.heap)
    (hWI : WW I) (hTI : ¬ T I) (hOI : ¬ Own cenv I) (hFI : I ∉ frS frs) (hfp : ∀ b ∈ fp, b = I ∨ (¬ WW b ∧ ∃ ob, s.heap.get? b = some ob))
    (hPt : ∀ i u, Pt i u → ∃ x, xs[i]? = some x ∧ (R x).ok WW s.heap u) (hl : (hList R' D dn).ok WW s.heap) (lm : (dn ++ (xs.filter p).flatMap G).length ≤ 1000)
    (fin : ∀ s', Kq (frS frs) (fun a => T a ∨ a = I) s s' → Ok hb (fun a => WW a ∧ ¬ a = I) frs cenv ρ s' → (hList R' D (dn ++ (xs.filter p).flatMap G)).ok (fun a => WW a ∧ ¬ a = I) s'.heap → Rr (.ok .next) s') :
    codeAny (model prog w) A (.compStart (.ListComp elt gens scope pos) d (.ref I) (.ref D) cenv) Rr s := by
  have hDI : D ≠ I := fun q => hTI (q ▸ hTD)
  refine comp_start (i := 0) hg it hS ?_
  refine comp_loop (n := xs.length) hg hga it
    (fun i s' => Kq (frS frs) (fun a => T a ∨ a = I) s s' ∧ Ok hb WW frs cenv ρ s' ∧ S i s'.heap ∧ (hList R' D (dn ++ ((xs.take i).filter p).flatMap G)).ok WW s'.heap)
    (fun i s' h => h.2.2.1) ?_ ?_ ⟨.refl _ _ _, o, hS, by simpa using hl⟩
  · rintro i s' v h' tk E hi ⟨k', oc', hS', hl'⟩ hpt hS1 hk
    obtain ⟨x, hx, hv⟩ := hPt i v hpt
    have hxm : x ∈ xs := List.mem_of_getElem? hx
    have nfr : ∀ a, ¬ WW a → a ∉ frS frs := fun a na h => na (o.wf a h)
    have oc2 : Ok hb WW frs cenv ρ { s' with heap := h', toks := tk } :=
      oc'.upd (fun a => a = I) (fun a ob e na => hk a ob na e) (by rintro z rfl; exact ⟨hWI, hFI, hOI, it.there _ _ hS1⟩)
    have kk2 : Kq (frS frs) (fun a => T a ∨ a = I) s { s' with heap := h', toks := tk } := k'.trans (Kq.upd fun a ob e nt => hk a ob (fun q => nt (.inr q)) e)
    have hv2 : (R x).ok WW h' v := (R x).st hv fun a ob e na => ⟨na, kk2.get e (fun q => na (q.elim (hTW a) fun q => q ▸ hWI)) (nfr a na)⟩
    have hl2 : (hList R' D (dn ++ ((xs.take i).filter p).flatMap G)).ok WW h' := (hList R' D _).st hl' (fun a ob e na => ⟨na, hk a ob (fun q => na (q ▸ hWI)) e⟩) fun a ob d e => hk a ob (fun q => hDI (by have : a = D := d; exact this ▸ q)) e
    refine wpAny_mono (ha x hxm _ frs A _ E v rm oc2 hv2) (fun _ s₄ h₄ => ?_) fun _ _ x => x
    obtain ⟨⟨h₄', tk₄, rfl, hk4⟩, oc4⟩ := h₄
    have kk4 : Kq (frS frs) (fun a => T a ∨ a = I) s { s' with heap := h₄', toks := tk₄ } := kk2.trans (Kq.upd fun a ob e nt => hk4 a ob e fun q => nt (.inl (hTn x a q)))
    have hl4 : (hList R' D (dn ++ ((xs.take i).filter p).flatMap G)).ok WW h₄' := (hList R' D _).st hl2 (fun a ob e na => ⟨na, hk4 a ob e fun q => na (hTW a (hTn x a q))⟩) fun a ob d e => hk4 a ob e (fun q => hOD (by have : a = D := d; exact this ▸ q.own))
    have hS4 : S (i + 1) h₄' := it.frame _ _ _ hS1 fun b hb ob e => hk4 b ob e fun q => (hfp b hb).elim (fun h => hOI (h ▸ q.own)) fun h => h.1 (hTW b (hTn x b q))
    refine wpAny_mono (ht x hxm _ frs A _ E rm oc4) (fun ok s₅ h₅ => ?_) fun _ _ x => x
    obtain ⟨k5, rfl⟩ := h₅
    have oc5 := oc4.kp k5
    have kk5 := kk4.trans (Kq.of_kp k5)
    have fpF : ∀ b ∈ fp, b ∉ frS frs := fun b hb => (hfp b hb).elim (fun h => h ▸ hFI) fun h => nfr b h.1
    have hS5 : S (i + 1) s₅.heap := it.frame _ _ _ hS4 fun b hb ob e => k5.get e (fpF b hb)
    have hl5 : (hList R' D (dn ++ ((xs.take i).filter p).flatMap G)).ok WW s₅.heap := (hList R' D _).st hl4 (fun a ob e na => ⟨na, k5.get e (nfr a na)⟩) fun a ob d e => k5.get e (by have : a = D := d; exact this ▸ hFD)
    have htk : ((xs.take (i + 1)).filter p).flatMap G = ((xs.take i).filter p).flatMap G ++ (if p x then G x else []) := by
      rw [take_succ_filter p xs i x hx, List.flatMap_append]
      split <;> simp
    cases hpx : p x with
    | false =>
      simp only [Bool.false_eq_true, if_false]
      refine ⟨kk5, oc5.sub (hτ x), hS5, ?_⟩
      rw [htk, hpx]
      simpa using hl5
    | true =>
      simp only [if_true]
      have hsub : ((xs.take (i + 1)).filter p).flatMap G = ((xs.take i).filter p).flatMap G ++ G x := by rw [htk, hpx]; rfl
      have hle : (((xs.take (i + 1)).filter p).flatMap G).length ≤ ((xs.filter p).flatMap G).length := by
        have e : xs.filter p = (xs.take (i + 1)).filter p ++ (xs.drop (i + 1)).filter p := by rw [← List.filter_append, List.take_append_drop]
        rw [e, List.flatMap_append, List.length_append]
        lia
      have hmono : ∀ (Q₁ Q₂ : Shared → Prop) (s : Shared), (∀ s', Q₁ s' → Q₂ s') → ActW prog w A elt gens (.ListComp elt gens scope pos) d (.ref D) cenv Q₁ E s → ActW prog w A elt gens (.ListComp elt gens scope pos) d (.ref D) cenv Q₂ E s := by
        intro Q₁ Q₂ s hq h
        unfold ActW at h ⊢
        split at h
        · exact wpAny_mono h (fun _ _ h => wpAny_mono h (fun _ _ h => wpAny_mono h (fun _ _ h => wpAny_mono h (fun _ _ h => hq _ h) fun _ _ x => x) fun _ _ x => x) fun _ _ x => x) fun _ _ x => x
        · exact wpAny_mono h (fun _ _ h => wpAny_mono h (fun _ _ h => hq _ h) fun _ _ x => x) fun _ _ x => x
      refine hmono _ _ _ ?_ (act x hxm hpx s₅ E _ (by rw [hsub] at hle; simp only [List.length_append] at hle lm ⊢; lia) oc5 hl5)
      rintro s₆ ⟨k6, oc6, hl6⟩
      refine ⟨kk5.trans (k6.mono fun a q => .inl q), oc6.sub (hτ x), it.frame _ _ _ hS5 fun b hb ob e => k6.get e (fun q => (hfp b hb).elim (fun h => hTI (h ▸ q)) fun h => h.1 (hTW b q)) (fpF b hb), ?_⟩
      rw [hsub, ← List.append_assoc]
      exact hl6
  · rintro s' h' tk ⟨k', oc', hS', hl'⟩ hk
    rw [List.take_length] at hl'
    refine fin _ (k'.trans (Kq.upd fun a ob e nt => hk a ob (fun q => nt (.inr q)) e)) ?_ ?_
    · exact oc'.drop (Z := fun a => a = I) (fun a ob e na => hk a ob na e) (by rintro a rfl; exact hWI) (by rintro a rfl; exact hFI) (by rintro a rfl; exact hOI)
    · exact (hList R' D _).st hl' (fun a ob e na => ⟨fun h => na h.1, hk a ob (fun q => na (q ▸ hWI)) e⟩) fun a ob d e => hk a ob (fun q => hDI (by have : a = D := d; exact this ▸ q)) e

theorem act_last {β : Type} {R' : β → VP} {elt : Expr} {gens : List Comprehension} {pos : Pos} {d : Nat} {cenv : Env} {ρ : List (Str × VP)} {frs : List Env} {A : Around} {s : Shared} {E : Value → Shared → Prop} {D : Addr} {T WW : Addr → Prop} {dn : List β} {y : β}
    (hg : gens[d + 1]? = none) (he : Ev prog w hb n cenv ρ elt (R' y)) (hWD : WW D) (hTD : T D) (hOD : ¬ Own cenv D) (hFD : D ∉ frS frs) (rm : Rm n frs A) (hlen : dn.length + 1 ≤ 1000) (o : Ok hb WW frs cenv ρ s) (hl : (hList R' D dn).ok WW s.heap) :
    ActW prog w A elt gens (.ListComp elt gens scope pos) d (.ref D) cenv (fun s' => Kq (frS frs) T s s' ∧ Ok hb WW frs cenv ρ s' ∧ (hList R' D (dn ++ [y])).ok WW s'.heap) E s := by
  unfold ActW
  rw [hg]
  refine wpAny_mono (he _ frs A s E rm o) (fun v s₁ ⟨k₁, p₁⟩ => ?_) fun _ _ x => x
  have o₁ := o.kp k₁
  have hl₁ : (hList R' D dn).ok WW s₁.heap := (hList R' D _).st hl (fun a ob e na => ⟨na, k₁.get e fun m => na (o.wf a m)⟩) fun a ob d e => k₁.get e (by have : a = D := d; exact this ▸ hFD)
  obtain ⟨_, vs, pl, pp⟩ := hl₁
  have hlv := Paired.length pp
  refine wpAny_list_append_plain (hsz := by rw [List.size_toArray, sizeLine_eq]; lia) pl fun h₇ hl₇ hs₇ => ?_
  have hk7 : ∀ a ob, s₁.heap.get? a = some ob → a ≠ D → h₇.get? a = some ob := fun a ob e na => (hs₇.2 a na).trans e
  refine ⟨(Kq.of_kp k₁).trans (Kq.upd (tk := s₁.toks) fun a ob e nt => hk7 a ob e fun q => nt (q ▸ hTD)), ?_, ?_⟩
  · exact o₁.upd (tk := s₁.toks) (fun a => a = D) (fun a ob e na => hk7 a ob e na) (by rintro z rfl; obtain ⟨_, e⟩ := hl₇; exact ⟨hWD, hFD, hOD, _, e⟩)
  · have sk : ∀ a ob, s₁.heap.get? a = some ob → ¬ WW a → ¬ WW a ∧ h₇.get? a = some ob := fun a ob e na => ⟨na, hk7 a ob e fun q => na (q ▸ hWD)⟩
    refine ⟨by rw [List.length_append]; simp; lia, vs ++ [v], by simpa using hl₇, Paired.app (Paired.mono pp fun _ z q => (R' z).st q sk) (.cons ((R' y).st p₁ sk) .nil)⟩

theorem act_mid {α β : Type} {R : α → VP} {R' : β → VP} {xs : List α} {p : α → Bool} {G : α → List β} {τ : α → List (Str × VP)} {elt t iter : Expr} {ifs : List Expr} {pos : Pos} {gens : List Comprehension} {d : Nat} {Pi : VP}
    (hg : gens[d + 1]? = some ⟨t, iter, ifs, 0⟩) (hga : ∀ g', gens[d + 2]? = some g' → g'.is_async = 0)
    {cenv : Env} {ρ : List (Str × VP)} {frs : List Env} {A : Around} {s : Shared} {E : Value → Shared → Prop} {D : Addr} {T WW : Addr → Prop} {dn : List β}
    (hWD : WW D) (hTD : T D) (hOD : ¬ Own cenv D) (hFD : D ∉ frS frs) (hTW : ∀ a, T a → WW a) (hTn : ∀ x a, OwnN cenv ((τ x).map (·.1)) a → T a)
    (hi : Ev prog w hb n cenv ρ iter Pi) (hit : IterP prog w hb Pi xs R) (hfold : ∀ x, foldedSetIterable iter cenv x = pure x)
    (ha : ∀ x, x ∈ xs → Asg prog w hb n cenv ρ t (R x) (τ x)) (ht : ∀ x, x ∈ xs → Trs prog w hb n cenv (τ x ++ ρ) ifs (p x))
    (hτ : ∀ x y P, ρ.lookup y = some P → (τ x ++ ρ).lookup y = some P)
    (act : ∀ x, x ∈ xs → p x = true → ∀ (W' : Addr → Prop) (s : Shared) (E : Value → Shared → Prop) (dn : List β), (∀ a, WW a → W' a) → dn.length + (G x).length ≤ 1000 → Ok hb W' frs cenv (τ x ++ ρ) s → (hList R' D dn).ok W' s.heap →
      ActW prog w A elt gens (.ListComp elt gens scope pos) (d + 1) (.ref D) cenv (fun s' => Kq (frS frs) T s s' ∧ Ok hb W' frs cenv (τ x ++ ρ) s' ∧ (hList R' D (dn ++ G x)).ok W' s'.heap) E s)
    (rm : Rm n frs A) (o : Ok hb WW frs cenv ρ s) (hl : (hList R' D dn).ok WW s.heap) (lm : (dn ++ (xs.filter p).flatMap G).length ≤ 1000) :
    ActW prog w A elt gens (.ListComp elt gens scope pos) d (.ref D) cenv (fun s' => Kq (frS frs) T s s' ∧ Ok hb WW frs cenv ρ s' ∧ (hList R' D (dn ++ (xs.filter p).flatMap G)).ok WW s'.heap) E s := by
  unfold ActW
  rw [hg]
  refine wpAny_mono (hi _ frs A s E rm o) (fun v s₁ ⟨k₁, p₁⟩ => ?_) fun _ _ x => x
  have o₁ := o.kp k₁
  rw [hfold]
  refine wpAny_pure (hit _ _ A s₁ E v _ rm.hh o₁.toSt p₁ fun I fp Pt S h' it hk hI hfp hS0 hPt => ?_)
  have nWI : ¬ WW I := fun q => by obtain ⟨ob, e⟩ := o₁.wd I q; rw [hI] at e; cases e
  have hko : Kp (frS frs) s₁ { s₁ with heap := h' } := Kp.all' hk
  have o₂ := o₁.grow (Z := fun a => a = I) hko (by rintro a rfl; exact ⟨hI, it.there 0 _ hS0⟩)
  have domI : ∀ a ob, s₁.heap.get? a = some ob → ¬ WW a → ¬ (WW a ∨ a = I) ∧ h'.get? a = some ob := fun a ob e na => by
    refine ⟨?_, hk a ob e⟩
    rintro (h | rfl)
    · exact na h
    · rw [hI] at e; cases e
  have hl₁ : (hList R' D dn).ok WW s₁.heap := (hList R' D _).st hl (fun a ob e na => ⟨na, k₁.get e fun m => na (o.wf a m)⟩) fun a ob d e => k₁.get e (by have : a = D := d; exact this ▸ hFD)
  have hl₂ : (hList R' D dn).ok (fun a => WW a ∨ a = I) h' := (hList R' D _).st hl₁ domI fun a ob _ e => hk a ob e
  refine wpAny_runOwn (comp_level (R := R) (R' := R') (p := p) (G := G) (τ := τ) (WW := fun a => WW a ∨ a = I) hg hga (.inl hWD) hTD hOD hFD (fun a q => .inl (hTW a q)) hTn ha ht hτ
    (fun x hx hp s E dn hlen o hl => act x hx hp _ s E dn (fun a q => .inl q) hlen o hl) rm o₂ it hS0 (.inr rfl) (fun q => nWI (hTW I q)) (fun q => nWI (q.elim (fun q => q ▸ o.wl) fun ⟨y, e⟩ => o.wc y I e)) (fun q => nWI (o.wf I q))
    (fun b hb => (hfp b hb).imp id fun ⟨nb, ob, e⟩ => ⟨(domI b ob e nb).1, ob, hk b ob e⟩) (fun i u pt => let ⟨x, e1, e2⟩ := hPt i u pt; ⟨x, e1, (R x).st e2 domI⟩) hl₂ lm fun s' k' o' hl' => ?_)
  have hW : ∀ a, WW a → (WW a ∨ a = I) ∧ ¬ a = I := fun a q => ⟨.inl q, fun e => nWI (e ▸ q)⟩
  refine ⟨?_, o'.less hW (fun a m => o.wf a m) o.wl o.wc, ?_⟩
  · have k2 : Kq (frS frs) (fun a => T a ∨ a = I) s₁ s' := (Kq.of_kp hko).trans k'
    exact (Kq.of_kp k₁).trans (k2.kp fun a q => q.imp id fun q => by rw [q]; exact hI)
  · exact (hList R' D _).st hl' (fun a ob e na => ⟨fun q => na (hW a q), e⟩) fun a ob _ e => e

/-- a comprehension's value, used by what follows -/
def Cp (prog : Program) (w : World) (hb : Heap) (n : Nat) (env : Env) (σ : List (Str × VP)) (e : Expr) (scope : Scope) (iter : Expr) (T : VP) : Prop :=
  ∀ (use : Option (Value → Sem Unit)) (pos' : Pos) (W : Addr → Prop) (frs : List Env) (A : Around) (s : Shared) (E : Value → Shared → Prop) (Q : Value → Shared → Prop), Rm n frs A → Ok hb W frs env σ s →
    (∀ s' C D, Kp (frS frs) s s' → s.heap.get? C = none → (∃ m, s'.heap.Ns C m) → T.ok (fun a => W a ∨ a = C) s'.heap (.ref D) → compPost (model prog w) A E use Q (.ref D) C (.ok .next) s') →
    wpAny (model prog w) A (comprehension e scope env pos' (newList []) false (eval iter env) use) Q E s

theorem fm_single {α β : Type} (f : α → β) : ∀ l : List α, (l.flatMap fun y => [f y]) = l.map f
  | [] => rfl
  | x :: r => by rw [List.flatMap_cons, fm_single f r]; rfl
theorem cp_1 {α β : Type} {R : α → VP} {R' : β → VP} {xs : List α} {p : α → Bool} {g : α → β} {τ : α → List (Str × VP)} {elt t iter : Expr} {ifs : List Expr} {pos : Pos} {Pi : VP}
    (hi : Ev prog w hb n env σ iter Pi) (hit : IterP prog w hb Pi xs R)
    (ha : ∀ C x, x ∈ xs → Asg prog w hb n (cE scope env C) (restr σ scope) t (R x) (τ x)) (hτ : ∀ x, ((τ x).all fun q => scope.names.lookup q.1 != some .free) = true)
    (ht : ∀ C x, x ∈ xs → Trs prog w hb n (cE scope env C) (τ x ++ restr σ scope) ifs (p x))
    (he : ∀ C x, x ∈ xs → p x = true → Ev prog w hb n (cE scope env C) (τ x ++ restr σ scope) elt (R' (g x)))
    (hτσ : ∀ x y P, (restr σ scope).lookup y = some P → (τ x ++ restr σ scope).lookup y = some P)
    (lm : ((xs.filter p).map g).length ≤ 1000) (hs : scopeOk scope = true := by decide +kernel) (hf : freeOk env σ scope = true := by rfl) (hfold : ∀ x, foldedSetIterable iter env x = pure x := by intro _; rfl) :
    Cp prog w hb n env σ (.ListComp elt [⟨t, iter, ifs, 0⟩] scope pos) scope iter (vList R' ((xs.filter p).map g)) :=
  fun use pos' W frs A s E Q rm o done => comp_core1 hs hf hi hit ha hτ ht he hτσ lm hfold rm o done

theorem cp_2 {α β γ : Type} {R : α → VP} {R₂ : γ → VP} {R' : β → VP} {xs : List α} {ys : α → List γ} {g : α → γ → β} {τ : α → List (Str × VP)} {τ₂ : α → γ → List (Str × VP)} {elt t iter t₂ iter₂ : Expr} {pos : Pos} {Pi : VP} {Pi₂ : α → VP}
    (hi : Ev prog w hb n env σ iter Pi) (hit : IterP prog w hb Pi xs R)
    (ha : ∀ C x, x ∈ xs → Asg prog w hb n (cE scope env C) (restr σ scope) t (R x) (τ x)) (hτ : ∀ x, ((τ x).all fun q => scope.names.lookup q.1 != some .free) = true)
    (hτσ : ∀ x y P, (restr σ scope).lookup y = some P → (τ x ++ restr σ scope).lookup y = some P)
    (hi₂ : ∀ C x, x ∈ xs → Ev prog w hb n (cE scope env C) (τ x ++ restr σ scope) iter₂ (Pi₂ x)) (hit₂ : ∀ x, x ∈ xs → IterP prog w hb (Pi₂ x) (ys x) R₂)
    (ha₂ : ∀ C x y, x ∈ xs → y ∈ ys x → Asg prog w hb n (cE scope env C) (τ x ++ restr σ scope) t₂ (R₂ y) (τ₂ x y)) (hτ₂ : ∀ x z, ((τ₂ x z).all fun q => scope.names.lookup q.1 != some .free) = true)
    (hτσ₂ : ∀ x z y P, (τ x ++ restr σ scope).lookup y = some P → (τ₂ x z ++ (τ x ++ restr σ scope)).lookup y = some P)
    (he : ∀ C x y, x ∈ xs → y ∈ ys x → Ev prog w hb n (cE scope env C) (τ₂ x y ++ (τ x ++ restr σ scope)) elt (R' (g x y)))
    (lm : (xs.flatMap fun x => (ys x).map (g x)).length ≤ 1000) (hs : scopeOk scope = true := by decide +kernel) (hf : freeOk env σ scope = true := by rfl) (hfold : ∀ x, foldedSetIterable iter env x = pure x := by intro _; rfl) (hfold₂ : ∀ C x, foldedSetIterable iter₂ (cE scope env C) x = pure x := by intro _ _; rfl) :
    Cp prog w hb n env σ (.ListComp elt [⟨t, iter, [], 0⟩, ⟨t₂, iter₂, [], 0⟩] scope pos) scope iter (vList R' (xs.flatMap fun x => (ys x).map (g x))) := by
  intro use pos' W frs A s E Q rm o done
  have hnames : ∀ x ∈ scope.names, x.2 = .local → scope.names.lookup x.1 = some .local := fun x hx hl => hl ▸ scopeOk.look hs hx
  refine wpAny_comprehension_free rfl hfold (closureFor_ok (freeOk.cell hf o)) (scopeOk.kind hs) hnames (wpAny_mono (hi W frs A s E rm o) (fun v s₁ ⟨k₁, p₁⟩ => ?_) fun _ _ x => x)
  have o₁ := o.kp k₁
  refine hit W frs A s₁ E v _ rm.hh o₁.toSt p₁ fun I fp Pt S h' it hk hI hfp hS0 hPt => ?_
  refine wpAny_newList ?_ (by simp [sizeLine_eq])
  refine newFunctionEnv_comp ?_
  have hD : s₁.heap.get? h'.objs.size = none := by
    cases e : s₁.heap.get? h'.objs.size with
    | none => rfl
    | some ob => exact absurd (Heap.lt_size (hk _ _ e)) (Nat.lt_irrefl _)
  have hID : I ≠ h'.objs.size := by
    obtain ⟨ob, e⟩ := it.there 0 h' hS0
    exact Nat.ne_of_lt (Heap.lt_size e)
  have k₃ : Kp (frS frs) s₁ { s₁ with heap := h'.push { cls := .type "list", data := .seq #[] } } := Kp.all' fun a ob e => Heap.get?_push_of_some _ (hk a ob e)
  have hS3 : S 0 (h'.push { cls := .type "list", data := .seq #[] }) := it.frame 0 _ _ hS0 fun b _ ob e => Heap.get?_push_of_some _ e
  have hDo : (h'.push { cls := .type "list", data := .seq #[] }).PlainList h'.objs.size [].toArray := ⟨0, Heap.get?_push_size _ rfl⟩
  generalize hs₃ : ({ s₁ with heap := h'.push { cls := .type "list", data := .seq #[] } } : Shared) = s₃ at k₃
  have hh₃ : s₃.heap = h'.push { cls := .type "list", data := .seq #[] } := by rw [← hs₃]
  rw [← hh₃] at hS3 hDo
  generalize h'.objs.size = D at *
  obtain ⟨oc, hown, hns⟩ := ok_comp o₁ k₃ hs hf (fun a => a = I ∨ a = D) (by
    rintro a (rfl | rfl)
    · exact ⟨hI, it.there 0 _ hS3⟩
    · obtain ⟨_, e⟩ := hDo; exact ⟨hD, _, e⟩)
  have hkp : ∀ a ob, s₃.heap.get? a = some ob → (pushCells (s₃.heap.push { cls := .type "dict", data := .dict #[] }) scope.names).get? a = some ob := fun a ob e => pushCells_keeps _ _ _ _ (Heap.get?_push_of_some _ e)
  have hC1 : ∀ a, s₃.heap.objs.size ≤ a → s₁.heap.get? a = none := fun a h => dom_fresh k₃ h
  have hIo := it.there 0 _ hS3
  have hlt : ∀ a ob, s₃.heap.get? a = some ob → a < s₃.heap.objs.size := fun a ob e => Heap.lt_size e
  have haC := ha s₃.heap.objs.size
  have hiC₂ := hi₂ s₃.heap.objs.size
  have haC₂ := ha₂ s₃.heap.objs.size
  have heC := he s₃.heap.objs.size
  have hfC := hfold₂ s₃.heap.objs.size
  generalize hC : s₃.heap.objs.size = C at *
  generalize hce : cE scope env C = cenv at *
  have nWI : ¬ W I := fun q => by obtain ⟨ob, e⟩ := o₁.wd I q; rw [hI] at e; cases e
  have nWD : ¬ W D := fun q => by obtain ⟨ob, e⟩ := o₁.wd D q; rw [hD] at e; cases e
  have ltI : I < C := by obtain ⟨ob, e⟩ := hIo; exact hlt I ob e
  have ltD : D < C := by obtain ⟨_, e⟩ := hDo; exact hlt D _ e
  have nOI : ¬ Own cenv I := fun q => (hown I q).elim nWI fun h => absurd ltI (Nat.not_lt.mpr h)
  have nOD : ¬ Own cenv D := fun q => (hown D q).elim nWD fun h => absurd ltD (Nat.not_lt.mpr h)
  have nfr : ∀ a, ¬ W a → a ∉ frS frs := fun a na h => na (o₁.wf a h)
  have dom1 : ∀ a ob, s₁.heap.get? a = some ob → ¬ W a → ¬ cW W I D cenv a := by
    rintro a ob e na (h | (rfl | rfl) | h)
    · exact na h
    · rw [hI] at e; cases e
    · rw [hD] at e; cases e
    · exact (hown a h).elim na fun h => by rw [hC1 a h] at e; cases e
  have hcl : cenv.locals = C := by rw [← hce]; rfl
  have hTn : ∀ (τ : List (Str × VP)), (τ.all fun q => scope.names.lookup q.1 != some .free) = true → ∀ a, OwnN cenv (τ.map (·.1)) a → a = D ∨ (Own cenv a ∧ C ≤ a) := by
    rintro τ hτ a q
    refine .inr ⟨q.own, ?_⟩
    rcases q with rfl | ⟨y, hy, e⟩
    · rw [hcl]; exact Nat.le_refl _
    · obtain ⟨q, hq, rfl⟩ := List.mem_map.mp hy
      have hnf := List.all_eq_true.mp hτ q hq
      rw [← hce] at e
      rcases cE_cells hs e with ⟨m, hl⟩ | ⟨m, _⟩
      · have := (cellsFrom_mem (mem_of_lookup hl)).2; exact Nat.le_of_succ_le this
      · rw [scopeOk.look hs m] at hnf; simp at hnf
  have hTW : ∀ a, (a = D ∨ (Own cenv a ∧ C ≤ a)) → cW W I D cenv a := by
    rintro a (rfl | ⟨q, _⟩)
    · exact .inr (.inl (.inr rfl))
    · exact .inr (.inr q)
  have hS4 : S 0 (pushCells (s₃.heap.push { cls := .type "dict", data := .dict #[] }) scope.names) := it.frame 0 _ _ hS3 fun b _ ob e => hkp b ob e
  have kk4 : Kp (frS frs) s₁ { s₃ with heap := pushCells (s₃.heap.push { cls := .type "dict", data := .dict #[] }) scope.names } := k₃.trans (Kp.all' hkp)
  have goal := comp_level (prog := prog) (w := w) (n := n) (elt := elt) (pos := pos) (A := A) (scope := scope) (I := I) (Rr := compPost (model prog w) A E use Q (.ref D) C) (R := R) (R' := R') (xs := xs) (p := fun _ => true) (G := fun x => (ys x).map (g x)) (τ := τ) (t := t) (iter := iter) (ifs := []) (gens := [⟨t, iter, [], 0⟩, ⟨t₂, iter₂, [], 0⟩]) (d := 0) (cenv := cenv) (ρ := restr σ scope) (D := D) (dn := [])
    (T := fun a => a = D ∨ (Own cenv a ∧ C ≤ a)) (WW := cW W I D cenv) rfl (by intro g' h; simp at h; rw [← h]) (.inr (.inl (.inr rfl))) (.inl rfl) nOD (nfr D nWD) hTW (fun x a q => hTn _ (hτ x) a q) haC (fun x hx => trs_nil) hτσ
    (fun x hx _ s E dn hlen o hl => by
      have := act_mid (elt := elt) (pos := pos) (A := A) (E := E) (scope := scope) (R := R₂) (R' := R') (xs := ys x) (p := fun _ => true) (G := fun y => [g x y]) (τ := τ₂ x) (d := 0) (gens := [⟨t, iter, [], 0⟩, ⟨t₂, iter₂, [], 0⟩]) (T := fun a => a = D ∨ (Own cenv a ∧ C ≤ a)) (WW := cW W I D cenv) rfl (by intro g' h; simp at h) (.inr (.inl (.inr rfl))) (.inl rfl) nOD (nfr D nWD) hTW
        (fun y a q => hTn _ (hτ₂ x y) a q) (hiC₂ x hx) (hit₂ x hx) hfC (fun y hy => haC₂ x y hx hy) (fun y hy => trs_nil) (hτσ₂ x)
        (fun y hy _ W' s E dn hW hlen o hl => act_last (scope := scope) rfl (heC x y hx hy) (hW _ (.inr (.inl (.inr rfl)))) (.inl rfl) nOD (nfr D nWD) rm hlen o hl) rm o hl
        (by rw [show (ys x).filter (fun _ => true) = ys x from by simp, fm_single, List.length_append]; exact hlen)
      rw [show (ys x).filter (fun _ => true) = ys x from by simp, fm_single] at this
      exact this) rm oc it hS4 (.inr (.inl (.inl rfl))) (by rintro (q | ⟨_, q⟩); exact hID q; exact absurd ltI (Nat.not_lt.mpr q)) nOI (nfr I nWI)
    (fun b hb => (hfp b hb).imp id fun ⟨nb, ob, e⟩ => ⟨dom1 b ob e nb, ob, kk4.get e (nfr b nb)⟩) (fun i u pt => let ⟨x, e1, e2⟩ := hPt i u pt; ⟨x, e1, (R x).st e2 fun a ob e na => ⟨dom1 a ob e na, kk4.get e (nfr a na)⟩⟩)
    ⟨by simp, [], hDo.at fun ob e => hkp _ ob e, .nil⟩ (by rw [show xs.filter (fun _ => true) = xs from by simp]; exact lm) ?_
  · rw [← hce] at goal
    exact goal
  · intro s' k' o' hl'
    rw [show xs.filter (fun _ => true) = xs from by simp] at hl'
    obtain ⟨_, vs, pl, pp⟩ := hl'
    obtain ⟨μ, f, _⟩ := o'.nm
    obtain ⟨m, hm, _⟩ := f.ns
    rw [hcl] at hm
    have kq : Kq (frS frs) (fun _ => False) s₁ s' := ((Kq.of_kp kk4).trans k').kp fun a q => .inr (by
      rcases q with (q | ⟨_, q⟩) | q
      · rw [q]; exact hD
      · exact hC1 a q
      · rw [q]; exact hI)
    have kp : Kp (frS frs) s₁ s' := by
      obtain ⟨h1, t1, e0, e1⟩ := kq
      exact ⟨h1, t1, e0, fun a ob e => e1 a ob e id⟩
    have hCs : s.heap.get? C = none := by
      cases e : s.heap.get? C with
      | none => rfl
      | some ob =>
        obtain ⟨_, sl, e'⟩ := k₁.same _ ob e
        rw [hC1 C (Nat.le_refl _)] at e'; cases e'
    refine done s' C D (k₁.trans kp) hCs ⟨m, hm⟩ ⟨lm, D, vs, rfl, ?_, pl, Paired.mono pp fun _ z q => (R' z).st q fun a ob e na => ⟨?_, e⟩⟩
    · rintro (h | h)
      · exact nWD h
      · exact absurd ltD (by rw [h]; exact Nat.lt_irrefl _)
    · rintro (h | h)
      · exact na ⟨.inl h, fun q => nWI (q ▸ h)⟩
      · refine na ⟨.inr (.inr (.inl (h.trans hcl.symm))), fun q => ?_⟩
        rw [← q, h] at ltI
        exact absurd ltI (Nat.lt_irrefl _)

theorem ev_cp {elt : Expr} {t iter : Expr} {ifs : List Expr} {gs : List Comprehension} {pos : Pos} {T : VP} (h : Cp prog w hb n env σ (.ListComp elt (⟨t, iter, ifs, 0⟩ :: gs) scope pos) scope iter T) : Ev prog w hb n env σ (.ListComp elt (⟨t, iter, ifs, 0⟩ :: gs) scope pos) T := fun W frs A s E rm o => by
  rw [eval_ListComp]
  refine h none _ W frs A s E _ rm o fun s' C D k hC ⟨m, hns⟩ hl => ?_
  refine ⟨m, hns, fun h' hs' => ⟨?_, ?_⟩⟩
  · obtain ⟨h1, t1, rfl, e1⟩ := k
    refine ⟨h', _, rfl, fun a ob e => ?_⟩
    have hac : a ≠ C := fun q => by rw [q, hC] at e; cases e
    obtain ⟨q1, sl, q2⟩ := e1 a ob e
    exact ⟨fun nf => (hs'.2 a hac).trans (q1 nf), sl, (hs'.2 a hac).trans q2⟩
  · exact T.st hl fun a ob e na => ⟨fun h => na (.inl h), (hs'.2 a fun q => na (.inr q)).trans e⟩

section
variable {B s : Shared} {W0 N : Addr → Prop} {fr₀ : List Env} {X Y : HP} {A : Around} {E : Value → Shared → Prop}
theorem x_comp {x : Str} {px pos spos : Pos} {elt : Expr} {t iter : Expr} {ifs : List Expr} {gs : List Comprehension} {T : VP} (i : In hb B W0 N fr₀ env σ X s) (rm : Rm n (env :: fr₀) A)
    (h : Cp prog w hb n env σ (.ListComp elt (⟨t, iter, ifs, 0⟩ :: gs) scope pos) scope iter T) (nk : StoreOk env x)
    (hsw : swapsWith (.ListComp elt (⟨t, iter, ifs, 0⟩ :: gs) scope pos) (some (.Name x px)) spos.line env = pure true := by rfl) :
    wpAny (model prog w) A (exec (.Assign [.Name x px] (.ListComp elt (⟨t, iter, ifs, 0⟩ :: gs) scope pos) spos) env) (fun f s' => f = .next ∧ In hb B W0 N fr₀ env ((x, T) :: σ) X s') E s := by
  rw [exec_Assign_Name_used _ _ _ _ hsw]
  refine wpAny_bind (wpAny_standAt (wpAny_bind ?_))
  show wpAny _ A (do let _ ← comprehension (.ListComp elt (⟨t, iter, ifs, 0⟩ :: gs) scope pos) scope env _ (newList []) false (eval iter env) (some (assign (.Name x px) env))) _ _ s
  refine wpAny_bind (wpAny_mono (h (some (assign (.Name x px) env)) _ _ (env :: fr₀) A s E (fun _ s' => In hb B W0 N fr₀ env ((x, T) :: σ) X s') rm i.ok fun s' C D k hC ⟨m, hns⟩ hl => ?_) (fun _ s' hq => wpAny_pure (wpAny_pure ⟨rfl, hq⟩)) fun _ _ e => e)
  have hCo : ∃ ob, s'.heap.get? C = some ob := by obtain ⟨ob, _, _, e, _⟩ := hns; exact ⟨ob, e⟩
  have nWC : ¬ (W0 C ∨ N C) := fun q => by obtain ⟨ob, e⟩ := i.ok.wd C q; rw [hC] at e; cases e
  have i₁ := i.grow (Z := fun a => a = C) k (by rintro a rfl; exact ⟨hC, hCo⟩)
  have hl₁ : T.ok (fun a => W0 a ∨ (N a ∨ a = C)) s'.heap (.ref D) := T.st hl fun a o e na => ⟨fun h => na (h.elim (fun h => .inl (.inl h)) fun h => h.elim (fun h => .inl (.inr h)) .inr), e⟩
  show wpAny _ A (assign (.Name x px) env (.ref D)) _ _ _
  refine wpAny_assign_Name (store_ok i₁.ok nk hl₁ fun z h' tk hz hs o' => ?_)
  have hzC : C ≠ z := fun q => nWC (.inr (i.own (q ▸ hz)))
  obtain ⟨oC, es, ep, eC, dC⟩ := hns
  refine ⟨m, ⟨oC, es, ep, (hs.2 C hzC).trans eC, dC⟩, fun h'' hs'' => ?_⟩
  have i₂ : In hb B W0 (fun a => N a ∨ a = C) fr₀ env ((x, T) :: σ) X { s' with heap := h', toks := tk } := i₁.chg (fun a => a = z) (fun a q => q ▸ i₁.own hz) (fun a o e na => (hs.2 a na).trans e) (fun a d q => (i₁.xd a d).2 (q ▸ hz.own)) o'
  exact i₂.drop (tk := tk) (by rintro z rfl; exact nWC) (fun a o e na => (hs''.2 a na).trans e) i.nl i.nc fun a d => (i.xd a d).1

def Has (σ : List (Str × VP)) : List (Str × VP) → Prop
  | [] => True
  | (x, P) :: r => σ.lookup x = some P ∧ Has σ r
theorem Has.look {σ : List (Str × VP)} : ∀ {σ' : List (Str × VP)}, Has σ σ' → ∀ y P, σ'.lookup y = some P → σ.lookup y = some P
  | [], _, y, P, e => by cases e
  | (x, Q) :: r, h, y, P, e => by
    by_cases hy : y = x
    · subst hy
      rw [List.lookup_cons_self] at e
      cases e
      exact h.1
    · rw [List.lookup_cons, beq_eq_false_iff_ne.mpr hy] at e
      exact Has.look h.2 y P e
theorem In.to {σ' : List (Str × VP)} (i : In hb B W0 N fr₀ env σ X s) (h : Has σ σ') : In hb B W0 N fr₀ env σ' X s := i.sub h.look
theorem Tr.run {t : Expr} {b : Bool} {Q : Bool → Shared → Prop} (h : Tr prog w hb n env σ t b) (rm : Rm n (env :: fr₀) A) (i : In hb B W0 N fr₀ env σ X s) (hq : ∀ s', In hb B W0 N fr₀ env σ X s' → Q b s') : wpAny (model prog w) A (isTrue t env (eval t env)) Q E s :=
  wpAny_mono (h _ _ A s E rm i.ok) (fun c s' ⟨k, e⟩ => by subst e; exact hq s' (i.pure k)) fun _ _ x => x
theorem x_while {test : Expr} {body : List Stmt} {pos : Pos} {Q : Flow → Shared → Prop} (I : Nat → Shared → Prop) (k : Nat)
    (turn : ∀ k s (E : Value → Shared → Prop), I k s → wpAny (model prog w) A (isTrue test env (eval test env)) (fun b s₂ =>
        if b then wpAny (model prog w) A (execs body env) (fun f s₃ => match f with
            | .next | .cont => ∃ m, m < k ∧ I m s₃
            | .brk => Q .next s₃
            | .ret v => Q (.ret v) s₃) E s₂
        else Q .next s₂) E s)
    (h : I k s) : wpAny (model prog w) A (exec (.While test body [] pos) env) Q E s := by
  refine wpAny_While (codeAny_whileLoop I (fun k s hI => ?_) k h)
  refine wpAny_mono (turn k s _ hI) (fun b s₂ h₂ => ?_) fun _ _ x => x
  cases b with
  | false => exact wpAny_execs_nil h₂
  | true => exact h₂
end
end
end Mine
end

section
open PySem PySem.W PyProof.Rows PySem.Calls
set_option Elab.async false
set_option autoImplicit false
set_option linter.unusedVariables false
set_option maxRecDepth 100000
namespace Mine
noncomputable def f203 (w : World) : DefOf w 203 := ⟨(_, _), rfl, rfl⟩

section
set_option linter.unusedSectionVars false
variable {α : Type} [DecidableEq α]
def oOthers (left : List (List α)) (k : Nat) : List (List α) := left.take k ++ left.drop (k + 1)
def oFewer (left : List (List α)) (k : Nat) (r : List α) : List α := r.filter fun x => !decide ((oOthers left k).filter (fun o => decide (x ∈ o)) = [])
def oGoes (left : List (List α)) (k : Nat) (r : List α) : Bool := !decide ((oOthers left k).filter (fun o => decide ((oFewer left k r).filter (fun x => !decide (x ∈ o)) = [])) = [])
def obo : Nat → List (List α) → Nat → List (List α)
  | 0, left, _ => left
  | f + 1, left, k => match left[k]? with
    | none => left
    | some r => if oGoes left k r then obo f (oOthers left k) 0 else if oFewer left k r ≠ r then obo f (oOthers left k ++ [oFewer left k r]) 0 else obo f left (k + 1)
def oMu (left : List (List α)) : Nat := (left.map fun r => r.length + 1).sum
theorem oMu_others {left : List (List α)} {k : Nat} {r : List α} (h : left[k]? = some r) : oMu (oOthers left k) + (r.length + 1) = oMu left := by
  unfold oMu oOthers
  obtain ⟨hk, e⟩ := List.getElem?_eq_some_iff.mp h
  conv => rhs; rw [← List.take_append_drop k left, List.drop_eq_getElem_cons hk, e]
  simp only [List.map_append, List.sum_append, List.map_cons, List.sum_cons]
  lia
theorem oOthers_len {left : List (List α)} {k : Nat} (h : k < left.length) : (oOthers left k).length + 1 = left.length := by
  unfold oOthers; rw [List.length_append, List.length_take, List.length_drop]; lia
theorem oFewer_lt {left : List (List α)} {k : Nat} {r : List α} (h : oFewer left k r ≠ r) : (oFewer left k r).length < r.length := by
  have h1 : (oFewer left k r).length ≤ r.length := List.length_filter_le _ _
  rcases Nat.lt_or_ge (oFewer left k r).length r.length with q | q
  · exact q
  · exact absurd ((List.filter_sublist (l := r)).eq_of_length (Nat.le_antisymm h1 q)) h
end

section
variable {prog : Program} {w : World} {hb : Heap} {n : Nat} {mg mb : Str → Option Value}
theorem fn_obo (G : Gd w hb mg mb) : FnAt hb 203 (f203 w).1.1 (f203 w).1.2 := fnAt G (f203 w) rfl rfl rfl rfl rfl rfl rfl

theorem cl_obo (G : Gd w hb mg mb) {α : Type} [Inhabited α] [DecidableEq α] {R : α → VP} (hR : Inj R) {d : Nat} (hE : ∀ a b, EqP (R a) (R b) (decide (a = b)) d) (hd : d ≤ 50) (rows : List (List α)) :
    Cl prog w hb (n + 1) (.ref 203) [vList (vList R) rows] (vList (vList R) (obo (oMu rows * 1001 + 1001) rows 0)) := by
  intro W frs A s E vs rm st hp
  cases hp with
  | cons h1 h2 =>
  cases h2
  rename_i v
  have lmL : rows.length ≤ 1000 := h1.1
  have lmR : ∀ r ∈ rows, r.length ≤ 1000 := fun r hr => by
    obtain ⟨_, a, us, _, _, _, p⟩ := h1
    obtain ⟨i, hi, e⟩ := List.getElem_of_mem hr
    obtain ⟨u, _, q⟩ := Paired.get p (i := i) (b := r) (by rw [List.getElem?_eq_getElem hi, e])
    exact q.1
  refine wpAny_call (fn_enter G (fn_obo G) (binds := [("rows", v)]) (Ps := [vList (vList R) rows]) rm st (BindsTo.of_eq rfl) (.cons h1 .nil) (by simp) rfl fun s₁ i₁ => ?_)
  have rm' := rm_deeper (env := fE (f203 w).1.1 s.heap.objs.size 203) rm
  refine seq_next (x_assign i₁ rm' (ev_callT (ev_blt G rfl rfl (by decide) rfl) (evl_cons (ev_name rfl) evl_nil) cl_list) (.inl rfl)) fun s₂ i₂ => ?_
  refine seq_next (x_assign i₂ rm' ev_int (.inl rfl)) fun s₃ i₃ => ?_
  refine seq_next (x_while (I := fun f s' => ∃ (left : List (List α)) (k : Nat), obo f left k = obo (oMu rows * 1001 + 1001) rows 0 ∧ oMu left * 1001 + (1000 - k) < f ∧ left.length ≤ 1000 ∧ (∀ r ∈ left, r.length ≤ 1000) ∧ k ≤ left.length ∧
      In hb s W (Own (fE (f203 w).1.1 s.heap.objs.size 203)) frs (fE (f203 w).1.1 s.heap.objs.size 203) [("k", vInt k), ("left", vList (vList R) left)] hTrue s') (oMu rows * 1001 + 1001)
    (Q := fun f s' => f = .next ∧ In hb s W (Own (fE (f203 w).1.1 s.heap.objs.size 203)) frs (fE (f203 w).1.1 s.heap.objs.size 203) [("left", vList (vList R) (obo (oMu rows * 1001 + 1001) rows 0))] hTrue s') ?_ ?_) fun s₄ i₄ => ?_
  · rintro f s' E' ⟨left, k, he, hmu, hl1, hl2, hk, i⟩
    refine Tr.run (tr_cmp (ev_name (P := vInt k) rfl) (ev_callB (ev_blt G rfl rfl (by decide) rfl) (evl_cons (ev_name (P := vList (vList R) left) rfl) evl_nil) cl_len) op_lt_int) rm' i fun s₂ i => ?_
    by_cases hlt : k < left.length
    · rw [if_pos (by simpa using hlt)]
      obtain ⟨r, hr⟩ : ∃ r, left[k]? = some r := ⟨left[k], List.getElem?_eq_getElem hlt⟩
      have hrm : r ∈ left := List.mem_of_getElem? hr
      have hrl := hl2 r hrm
      have hol := oOthers_len (left := left) hlt
      have hmo := oMu_others hr
      obtain ⟨f, rfl⟩ : ∃ f', f = f' + 1 := ⟨f - 1, by lia⟩
      have hstep : obo (f + 1) left k = if oGoes left k r then obo f (oOthers left k) 0 else if oFewer left k r ≠ r then obo f (oOthers left k ++ [oFewer left k r]) 0 else obo f left (k + 1) := by
        rw [obo, hr]
      rw [he] at hstep
      have hor : ∀ o ∈ oOthers left k, o.length ≤ 1000 := fun o ho => by
        rcases List.mem_append.mp ho with h | h
        · exact hl2 o (List.mem_of_mem_take h)
        · exact hl2 o (List.mem_of_mem_drop h)
      have hfl : (oFewer left k r).length ≤ r.length := List.length_filter_le _ _
      refine seq_next (x_assign (P := vList (vList R) (oOthers left k)) i rm' (ev_bin (ev_take (l := left) (k := k) (ev_name rfl) (ev_name rfl) (by lia)) (ev_drop (l := left) (k := (k : Int) + 1) (ev_name rfl) (ev_bin (ev_name rfl) ev_int op_add_int) (by lia) (by lia))
        (op_cat (l := left.take k) (m := left.drop (k + 1)) (by rw [List.length_take, List.length_drop]; lia))) (.inr ⟨rfl, _, rfl⟩)) fun s₃ i₃ => ?_
      refine seq_next (x_assign (P := vList R (oFewer left k r)) i₃ rm' (ev_filter (R := R) (xs := r) (fun x => !decide ((oOthers left k).filter (fun o => decide (x ∈ o)) = [])) (ev_item (l := left) (k := k) (ev_name rfl) (ev_name rfl) (by lia) hr) iterP_list
        (fun C x hx => tr_cmp (ev_filter (R := vList R) (xs := oOthers left k) (fun o => decide (x ∈ o)) (ev_name rfl) iterP_list (fun C' o ho => tr_cmp (ev_name (P := R x) rfl) (ev_name (P := vList R o) rfl) (op_in hR hE (by lia) x o)) (by lia))
          (ev_list (l := []) evl_nil (by simp)) (op_ne (eqP_list (inj_list hR) (eqP_list hR hE) _ []) (by lia))) hrl) (.inr ⟨rfl, _, rfl⟩)) fun s₄ i₄ => ?_
      refine x_if (b := oGoes left k r) i₄ rm' (tr_cmp (ev_filter (R := vList R) (xs := oOthers left k) (fun o => decide ((oFewer left k r).filter (fun x => !decide (x ∈ o)) = [])) (ev_name rfl) iterP_list
          (fun C o ho => tr_cmp (ev_filter (R := R) (xs := oFewer left k r) (fun x => !decide (x ∈ o)) (ev_name rfl) iterP_list (fun C' x hx => tr_cmp (ev_name (P := R x) rfl) (ev_name (P := vList R o) rfl) (op_notIn hR hE (by lia) x o)) (by lia))
            (ev_list (l := []) evl_nil (by simp)) (op_eq (eqP_list hR hE _ []) (by lia))) (by lia))
          (ev_list (l := []) evl_nil (by simp)) (op_ne (eqP_list (inj_list hR) (eqP_list hR hE) _ []) (by lia))) ?_ ?_
      · intro hb₁ s₅ i₅
        refine seq_next (x_assign (P := vList (vList R) (oOthers left k)) i₅ rm' (ev_name rfl) (.inl rfl)) fun s₆ i₆ => ?_
        refine seq_next (x_assign i₆ rm' ev_int (.inl rfl)) fun s₇ i₇ => ?_
        refine wpAny_execs_nil (wpAny_execs_nil ⟨f, Nat.lt_succ_self _, oOthers left k, 0, ?_, by lia, by lia, hor, by lia, i₇.to ⟨rfl, rfl, trivial⟩⟩)
        rw [hstep, if_pos hb₁]
      · intro hb₁ s₅ i₅
        refine x_if (b := !decide (oFewer left k r = r)) i₅ rm' (tr_cmp (ev_name rfl) (ev_item (l := left) (k := k) (ev_name rfl) (ev_name rfl) (by lia) hr) (op_ne (eqP_list hR hE _ _) (by lia))) ?_ ?_
        · intro hb₂ s₆ i₆
          have hne : oFewer left k r ≠ r := by simpa using hb₂
          have hlt2 := oFewer_lt hne
          refine seq_next (x_assign (P := vList (vList R) (oOthers left k ++ [oFewer left k r])) i₆ rm' (ev_bin (ev_name rfl) (ev_list (l := [oFewer left k r]) (evl_cons (ev_name rfl) evl_nil) (by simp)) (op_cat (by simp; lia))) (.inl rfl)) fun s₇ i₇ => ?_
          refine seq_next (x_assign i₇ rm' ev_int (.inl rfl)) fun s₈ i₈ => ?_
          refine wpAny_execs_nil (wpAny_execs_nil (wpAny_execs_nil ⟨f, Nat.lt_succ_self _, oOthers left k ++ [oFewer left k r], 0, ?_, ?_, by simp; lia, ?_, by lia, i₈.to ⟨rfl, rfl, trivial⟩⟩))
          · rw [hstep, if_neg (by rw [hb₁]; decide), if_pos hne]
          · have : oMu (oOthers left k ++ [oFewer left k r]) = oMu (oOthers left k) + ((oFewer left k r).length + 1) := by simp [oMu]
            rw [this]
            lia
          · intro o ho
            rcases List.mem_append.mp ho with h | h
            · exact hor o h
            · rw [List.mem_singleton.mp h]; lia
        · intro hb₂ s₆ i₆
          have hne : oFewer left k r = r := by simpa using hb₂
          refine seq_next (x_assign i₆ rm' (ev_bin (ev_name (P := vInt k) rfl) ev_int op_add_int) (.inl rfl)) fun s₇ i₇ => ?_
          refine wpAny_execs_nil (wpAny_execs_nil (wpAny_execs_nil ⟨f, Nat.lt_succ_self _, left, k + 1, ?_, by lia, hl1, hl2, by lia, i₇.to ⟨rfl, rfl, trivial⟩⟩))
          rw [hstep, if_neg (by rw [hb₁]; decide), if_neg (by rw [hne]; simp)]
    · rw [if_neg (by simpa using hlt)]
      obtain ⟨f, rfl⟩ : ∃ f', f = f' + 1 := ⟨f - 1, by lia⟩
      have : left[k]? = none := List.getElem?_eq_none (by lia)
      rw [obo, this] at he
      refine ⟨rfl, ?_⟩
      rw [← he]
      exact i.to ⟨rfl, trivial⟩
  · exact ⟨rows, 0, rfl, by lia, lmL, lmR, by lia, i₃.to ⟨rfl, rfl, trivial⟩⟩
  · exact x_ret i₄ rm' (ev_name rfl) fun v s' i p => ⟨i.kp, VP.out p⟩
end
end Mine
end

section
open PySem PySem.W PyProof.Rows PySem.Calls
set_option Elab.async false
set_option autoImplicit false
set_option linter.unusedVariables false
namespace Mine
/-! ## the sort, asked by a pure order -/
section
variable {O : KeyOrd} {n : Nat} {key : Nat → O.α}
def Rn (n : Nat) (O : KeyOrd) (key : Nat → O.α) {α : Type} : KasT α → (α → Prop) → Prop
  | .ret a, Q => Q a
  | .ask i j k, Q => i < n ∧ j < n ∧ Rn n O key (k (O.blt (key i) (key j))) Q
theorem Rn.bind {α β : Type} {f : α → KasT β} {Q : β → Prop} : ∀ {t : KasT α}, Rn n O key t (fun a => Rn n O key (f a) Q) → Rn n O key (t.bind f) Q
  | .ret _, h => h
  | .ask i j k, ⟨h1, h2, h⟩ => ⟨h1, h2, Rn.bind (t := k _) h⟩
theorem Rn.mono {α : Type} {Q Q' : α → Prop} (hq : ∀ a, Q a → Q' a) : ∀ {t : KasT α}, Rn n O key t Q → Rn n O key t Q'
  | .ret a, h => hq a h
  | .ask i j k, ⟨h1, h2, h⟩ => ⟨h1, h2, Rn.mono hq (t := k _) h⟩
theorem Rn.wp {α : Type} {Q : α → Prop} {G : α → Shared → Prop} {cmp : Nat → Nat → (Bool → Shared → Prop) → Shared → Prop} {s : Shared} (hc : ∀ i j C, i < n → j < n → C (O.blt (key i) (key j)) s → cmp i j C s) (hq : ∀ a, Q a → G a s) :
    ∀ {t : KasT α}, Rn n O key t Q → t.kasWp cmp G s
  | .ret a, h => hq a h
  | .ask i j k, ⟨h1, h2, h⟩ => hc i j _ h1 h2 (Rn.wp hc hq (t := k _) h)

def V (key : Nat → O.α) (p : Array Nat) (i : Nat) : O.α := key (p.getD i 0)
def Pm (n : Nat) (p : Array Nat) : Prop := p.size = n ∧ p.toList.Perm (List.range n)
theorem Pm.lt {p : Array Nat} (h : Pm n p) {i : Nat} (hi : i < n) : p.getD i 0 < n := by
  have hi' : i < p.size := by rw [h.1]; exact hi
  have e : p.getD i 0 = p[i] := by simp [Array.getD, hi']
  rw [e]
  exact List.mem_range.mp (h.2.mem_iff.mp (by simp))
theorem Pm.of {p q : Array Nat} (h : Pm n p) (hq : q.Perm p) : Pm n q := ⟨hq.size_eq.trans h.1, (Array.perm_iff_toList_perm.mp hq).trans h.2⟩
theorem getD_congr {p q : Array Nat} {i j : Nat} (h : p[i]? = q[j]?) : p.getD i 0 = q.getD j 0 := by
  rw [Array.getD_eq_getD_getElem?, Array.getD_eq_getD_getElem?, h]
theorem V_rev {p : Array Nat} {i j : Nat} (hj : j ≤ p.size) (k : Nat) : V key (kas_rev p i j) k = if i ≤ k ∧ k < j then V key p (i + j - 1 - k) else V key p k := by
  have e := getElem?_mirror_all (xs := p) (i := i) hj k
  unfold V kas_rev
  by_cases h : i ≤ k ∧ k < j
  · rw [if_pos h] at e ⊢; rw [getD_congr e]
  · rw [if_neg h] at e ⊢; rw [getD_congr e]
theorem V_bub {p : Array Nat} {src d : Nat} (hs : src < p.size) (hd : d ≤ src) (k : Nat) : V key (bubble p src d) k = if k = src - d then V key p src else if src - d < k ∧ k ≤ src then V key p (k - 1) else V key p k := by
  have e := getElem?_bubble hs d hd k
  unfold V
  by_cases h1 : k = src - d
  · rw [if_pos h1] at e ⊢; rw [getD_congr e]
  · rw [if_neg h1] at e ⊢
    by_cases h2 : src - d < k ∧ k ≤ src
    · rw [if_pos h2] at e ⊢; rw [getD_congr e]
    · rw [if_neg h2] at e ⊢; rw [getD_congr e]
theorem Pm.rev {p : Array Nat} (h : Pm n p) (i j : Nat) : Pm n (kas_rev p i j) := h.of (mirror_perm _ _ _ _)
theorem Pm.bub {p : Array Nat} (h : Pm n p) (i j : Nat) : Pm n (bubble p i j) := h.of (bubble_perm _ _ _)
/-- rising, falling -/
def Up (key : Nat → O.α) (p : Array Nat) (k : Nat) : Prop := ∀ i j, i ≤ j → j < k → O.kle (V key p i) (V key p j)
def Dn (key : Nat → O.α) (p : Array Nat) (k : Nat) : Prop := ∀ i j, i ≤ j → j < k → O.kle (V key p j) (V key p i)
theorem Up.succ {p : Array Nat} {k : Nat} (h : Up key p k) (h1 : 1 ≤ k) (hk : O.kle (V key p (k - 1)) (V key p k)) : Up key p (k + 1) := fun i j hij hj => by
  by_cases hjk : j < k
  · exact h i j hij hjk
  · have : j = k := by lia
    subst this
    by_cases hi : i = j
    · subst hi; exact KeyOrd.kle_refl _
    · exact KeyOrd.kle_trans (h i (j - 1) (by lia) (by lia)) hk
theorem Dn.succ {p : Array Nat} {k : Nat} (h : Dn key p k) (h1 : 1 ≤ k) (hk : O.kle (V key p k) (V key p (k - 1))) : Dn key p (k + 1) := fun i j hij hj => by
  by_cases hjk : j < k
  · exact h i j hij hjk
  · have : j = k := by lia
    subst this
    by_cases hi : i = j
    · subst hi; exact KeyOrd.kle_refl _
    · exact KeyOrd.kle_trans hk (h i (j - 1) (by lia) (by lia))

theorem rn_asc {p : Array Nat} (hp : Pm n p) : ∀ (f m : Nat) {Q : Nat → Prop}, 1 ≤ m → m + f = n → Up key p m →
    (∀ r, 1 ≤ r → r ≤ n → m ≤ r → Up key p r → (r < n → O.klt (V key p r) (V key p (r - 1))) → Q r) → Rn n O key (kas_asc p f m) Q
  | 0, m, Q, h1, hm, hu, hq => hq m h1 (by lia) (Nat.le_refl _) hu fun h => by lia
  | f + 1, m, Q, h1, hm, hu, hq => by
    refine ⟨hp.lt (by lia), hp.lt (by lia), ?_⟩
    cases hb : O.blt (key (p.getD m 0)) (key (p.getD (m - 1) 0)) with
    | true => dsimp only; rw [if_pos rfl]; exact hq m h1 (by lia) (Nat.le_refl _) hu fun _ => hb
    | false =>
      dsimp only
      rw [if_neg (by decide)]
      exact rn_asc hp f (m + 1) (by lia) (by lia) (hu.succ h1 hb) fun r a b c d e => hq r a b (by lia) d e

theorem rn_desc : ∀ (f : Nat) (p : Array Nat) (m q : Nat) {Q : Array Nat × Nat × Nat → Prop}, Pm n p → 1 ≤ m → q + 1 ≤ m → m + f = n → Dn key p m → (∀ i, m - (q + 1) ≤ i → i < m → V key p i = V key p (m - 1)) →
    (∀ p' m' q', Pm n p' → 1 ≤ m' → q' + 1 ≤ m' → m' ≤ n → Dn key p' m' → (∀ i, m' - (q' + 1) ≤ i → i < m' → V key p' i = V key p' (m' - 1)) → Q (p', m', q')) → Rn n O key (kas_desc f p m q) Q
  | 0, p, m, q, Q, hp, h1, hqm, hm, hd, he, hQ => hQ p m q hp h1 hqm (by lia) hd he
  | f + 1, p, m, q, Q, hp, h1, hqm, hm, hd, he, hQ => by
    refine ⟨hp.lt (by lia), hp.lt (by lia), ?_⟩
    cases hb : O.blt (key (p.getD m 0)) (key (p.getD (m - 1) 0)) with
    | true =>
      dsimp only
      rw [if_pos rfl]
      have hd' : Dn key p (m + 1) := hd.succ h1 (KeyOrd.kle_of_klt hb)
      by_cases hq : q > 0
      · rw [if_pos hq]
        have hv : ∀ k, V key (kas_rev p (m - (q + 1)) m) k = V key p k := fun k => by
          rw [V_rev (by rw [hp.1]; lia)]
          split
          · rw [he _ (by lia) (by lia), he k (by lia) (by lia)]
          · rfl
        refine rn_desc f _ (m + 1) 0 (hp.rev _ _) (by lia) (by lia) (by lia) (fun i j a b => ?_) (fun i a b => ?_) hQ
        · rw [hv, hv]; exact hd' i j a b
        · have : i = m + 1 - 1 := by lia
          rw [this]
      · rw [if_neg hq]
        exact rn_desc f p (m + 1) 0 hp (by omega) (by omega) (by omega) hd' (fun i a b => by have : i = m + 1 - 1 := by omega
                                                                                             rw [this]) hQ
    | false =>
      dsimp only
      rw [if_neg (by decide)]
      refine ⟨hp.lt (by lia), hp.lt (by lia), ?_⟩
      cases hc : O.blt (key (p.getD (m - 1) 0)) (key (p.getD m 0)) with
      | true => dsimp only; rw [if_pos rfl]; exact hQ p m q hp h1 hqm (by lia) hd he
      | false =>
        dsimp only
        rw [if_neg (by decide)]
        have heq : V key p m = V key p (m - 1) := O.total _ _ hb hc
        refine rn_desc f p (m + 1) (q + 1) hp (by lia) (by lia) (by lia) (hd.succ h1 (by rw [heq]; exact KeyOrd.kle_refl _)) (fun i a b => ?_) hQ
        rw [show m + 1 - 1 = m by lia, heq]
        by_cases him : i = m
        · rw [him, heq]
        · exact he i (by lia) (by lia)

theorem rn_tail3 {p : Array Nat} {m : Nat} {Q : Nat × Array Nat → Prop} (hp : Pm n p) (h1 : 1 ≤ m) (hm : m ≤ n) (hd : Dn key p m) (hQ : ∀ r p', Pm n p' → 1 ≤ r → r ≤ n → Up key p' r → Q (r, p')) : Rn n O key (kas_tail3 m n p) Q := by
  refine Rn.bind ?_
  have hp' := hp.rev 0 m
  have hu : Up key (kas_rev p 0 m) m := fun i j hij hj => by
    rw [V_rev (by rw [hp.1]; exact hm), V_rev (by rw [hp.1]; exact hm), if_pos (by lia), if_pos (by lia)]
    exact hd _ _ (by lia) (by lia)
  exact rn_asc hp' (n - m) m h1 (by lia) hu fun r a b c d e => hQ r _ hp' a b d

theorem rn_descPart {p : Array Nat} {m : Nat} {Q : Nat × Array Nat → Prop} (hp : Pm n p) (h1 : 1 ≤ m) (hm : m + 1 ≤ n) (hd : Dn key p m) (hk : O.klt (V key p m) (V key p (m - 1))) (hQ : ∀ r p', Pm n p' → 1 ≤ r → r ≤ n → Up key p' r → Q (r, p')) : Rn n O key (kas_descPart m n p) Q := by
  have one : ∀ i, m + 1 - (0 + 1) ≤ i → i < m + 1 → V key p i = V key p (m + 1 - 1) := fun i a b => by rw [show i = m + 1 - 1 by lia]
  refine Rn.bind (rn_desc _ p (m + 1) 0 hp (by lia) (by lia) (by lia) (hd.succ h1 (KeyOrd.kle_of_klt hk)) one ?_)
  intro p' m' q' hp' h1' hqm hm' hd' he
  dsimp only
  by_cases hq : q' > 0
  · rw [if_pos hq]
    have hv : ∀ k, V key (kas_rev p' (m' - (q' + 1)) m') k = V key p' k := fun k => by
      rw [V_rev (by rw [hp'.1]; exact hm')]
      split
      · rw [he _ (by lia) (by lia), he k (by lia) (by lia)]
      · rfl
    exact rn_tail3 (hp'.rev _ _) h1' hm' (fun i j a b => by rw [hv, hv]; exact hd' i j a b) hQ
  · rw [if_neg hq]
    exact rn_tail3 hp' h1' hm' hd' hQ

theorem rn_count {p : Array Nat} {Q : Nat × Array Nat → Prop} (hp : Pm n p) (hn : 1 ≤ n) (hQ : ∀ r p', Pm n p' → 1 ≤ r → r ≤ n → Up key p' r → Q (r, p')) : Rn n O key (kas_count n p) Q := by
  have h1 : Up key p 1 := fun i j hij hj => by
    have : i = j := by lia
    subst this; exact KeyOrd.kle_refl _
  refine Rn.bind (rn_asc hp (n - 1) 1 (Nat.le_refl _) (by lia) h1 fun m hm1 hmn _ hu hlt => ?_)
  by_cases hmn' : (m == n) = true
  · rw [if_pos hmn']
    exact hQ m p hp hm1 hmn hu
  · rw [if_neg hmn']
    have hmn2 : m < n := by
      have : m ≠ n := by simpa using hmn'
      lia
    by_cases hm : m > 1
    · rw [if_pos hm]
      refine ⟨hp.lt (by lia), hp.lt (by lia), ?_⟩
      cases hb : O.blt (key (p.getD 0 0)) (key (p.getD (m - 1) 0)) with
      | true => dsimp only; rw [if_pos rfl]; exact hQ m p hp hm1 hmn hu
      | false =>
        dsimp only
        rw [if_neg (by decide)]
        have all : ∀ i, i < m → V key p i = V key p 0 := fun i hi => KeyOrd.kle_antisymm (KeyOrd.kle_trans (hu i (m - 1) (by lia) (by lia)) hb) (hu 0 i (by lia) hi)
        refine rn_descPart (hp.rev 0 m) hm1 hmn2 (fun i j a b => ?_) ?_ hQ
        · rw [V_rev (by rw [hp.1]; exact hmn), V_rev (by rw [hp.1]; exact hmn), if_pos (by lia), if_pos (by lia), all (0 + m - 1 - j) (by lia), all (0 + m - 1 - i) (by lia)]
          exact KeyOrd.kle_refl _
        · rw [V_rev (by rw [hp.1]; exact hmn), V_rev (by rw [hp.1]; exact hmn), if_neg (by lia), if_pos (by lia), all (0 + m - 1 - (m - 1)) (by lia), ← all (m - 1) (by lia)]
          exact hlt hmn2
    · rw [if_neg hm]
      have : m = 1 := by lia
      subst this
      exact rn_descPart hp (Nat.le_refl _) hmn2 (fun i j a b => by
        have : i = j := by lia
        subst this; exact KeyOrd.kle_refl _) (hlt hmn2) hQ

theorem rn_place {p : Array Nat} {k : Nat} (hp : Pm n p) (hk : k < n) (hu : Up key p k) : ∀ (f l r : Nat) {Q : Nat → Prop}, l ≤ r → r ≤ k → r - l ≤ f → (∀ i, i < l → O.kle (V key p i) (V key p k)) → (∀ i, r ≤ i → i < k → O.klt (V key p k) (V key p i)) →
    (∀ l', l' ≤ k → (∀ i, i < l' → O.kle (V key p i) (V key p k)) → (∀ i, l' ≤ i → i < k → O.klt (V key p k) (V key p i)) → Q l') → Rn n O key (kas_place p k f l r) Q
  | 0, l, r, Q, hlr, hrk, hf, h1, h2, hQ => hQ l (by lia) h1 fun i a b => h2 i (by lia) b
  | f + 1, l, r, Q, hlr, hrk, hf, h1, h2, hQ => by
    unfold kas_place
    by_cases hge : l ≥ r
    · rw [if_pos hge]
      exact hQ l (by lia) h1 fun i a b => h2 i (by lia) b
    · rw [if_neg hge]
      refine ⟨hp.lt hk, hp.lt (by lia), ?_⟩
      cases hb : O.blt (key (p.getD k 0)) (key (p.getD ((l + r) / 2) 0)) with
      | true =>
        dsimp only
        rw [if_pos rfl]
        refine rn_place hp hk hu f l ((l + r) / 2) (by lia) (by lia) (by lia) h1 (fun i a b => ?_) hQ
        exact KeyOrd.klt_of_klt_of_kle hb (hu _ i a b)
      | false =>
        dsimp only
        rw [if_neg (by decide)]
        refine rn_place hp hk hu f ((l + r) / 2 + 1) r (by lia) hrk (by lia) (fun i a => ?_) h2 hQ
        exact KeyOrd.kle_trans (hu i ((l + r) / 2) (by lia) (by lia)) hb

theorem rn_bin : ∀ (f : Nat) (p : Array Nat) (k : Nat) {Q : Array Nat → Prop}, Pm n p → k + f = n → Up key p k → (∀ p', Pm n p' → Up key p' n → Q p') → Rn n O key (kas_bin f p k) Q
  | 0, p, k, Q, hp, hk, hu, hQ => hQ p hp (by rw [← hk]; exact hu)
  | f + 1, p, k, Q, hp, hk, hu, hQ => by
    refine Rn.bind (rn_place hp (by lia) hu k 0 k (by lia) (Nat.le_refl _) (by lia) (fun i h => by lia) (fun i a b => by lia) fun l hl h1 h2 => ?_)
    refine rn_bin f _ (k + 1) (hp.bub _ _) (by lia) (fun i j hij hj => ?_) hQ
    have hs : k < p.size := by rw [hp.1]; lia
    rw [V_bub hs (by lia), V_bub hs (by lia), show k - (k - l) = l by lia]
    by_cases hi : i = l
    · rw [if_pos hi]
      by_cases hjl : j = l
      · rw [if_pos hjl]; exact KeyOrd.kle_refl _
      · rw [if_neg hjl, if_pos (by lia)]
        exact KeyOrd.kle_of_klt (h2 (j - 1) (by lia) (by lia))
    · rw [if_neg hi]
      by_cases hil : l < i ∧ i ≤ k
      · rw [if_pos hil, if_neg (by lia), if_pos (by lia)]
        exact hu _ _ (by lia) (by lia)
      · rw [if_neg hil]
        by_cases hjl : j = l
        · rw [if_pos hjl]; exact h1 i (by lia)
        · rw [if_neg hjl]
          by_cases hj2 : l < j ∧ j ≤ k
          · rw [if_pos hj2]; exact hu _ _ (by lia) (by lia)
          · rw [if_neg hj2]; exact hu _ _ (by lia) (by lia)

theorem rn_sort {Q : Array Nat → Prop} (hn : 1 ≤ n) (hQ : ∀ p', Pm n p' → Up key p' n → Q p') : Rn n O key (kas_sort n) Q := by
  have hp : Pm n (List.toArray (List.range n)) := ⟨by simp, by simp⟩
  refine Rn.bind (rn_count hp hn fun r p' hp' h1 hr hu => ?_)
  dsimp only
  by_cases hlt : r < n
  · rw [if_pos hlt, show max r 1 = r by lia]
    exact rn_bin _ p' r hp' (by lia) hu hQ
  · rw [if_neg hlt]
    have : r = n := by lia
    subst this
    exact hQ p' hp' hu
end
end Mine
end

section
open PySem PySem.W PyProof.Rows PySem.Calls
set_option Elab.async false
set_option autoImplicit false
set_option linter.unusedVariables false
set_option maxRecDepth 100000
namespace Mine
/-! ## texts -/
theorem u8_inj : ∀ {a b : List Nat}, (∀ c ∈ a, c < 128) → (∀ c ∈ b, c < 128) → a.map UInt8.ofNat = b.map UInt8.ofNat → a = b
  | [], [], _, _, _ => rfl
  | [], _ :: _, _, _, h => by simp at h
  | _ :: _, [], _, _, h => by simp at h
  | x :: a, y :: b, ha, hb, h => by
    rw [List.map_cons, List.map_cons] at h
    injection h with h1 h2
    have hx := ha x (.head _)
    have hy := hb y (.head _)
    have : x = y := by
      have := congrArg UInt8.toNat h1
      simp at this
      lia
    rw [this, u8_inj (fun c hc => ha c (.tail _ hc)) (fun c hc => hb c (.tail _ hc)) h2]
theorem tx_inj {m : Bool} : Inj (vTx m) := fun W h v a b ⟨ha, t, p⟩ ⟨hb, u, q⟩ => by
  subst p
  cases m with
  | true =>
    simp only [txV, if_true] at q
    injection q with q
    exact u8_inj ha hb (by simpa using q)
  | false =>
    simp only [txV, Bool.false_eq_true, if_false] at q
    injection q with q
    injection q with q
    simpa using q
theorem gives_str_lt (a b : Str) (t u : Tok) : Gives (Builtin.«str.__lt__» ⟨[.str a t, .str b u], []⟩) (.val (.bool (decide (a.cps.toList < b.cps.toList)))) := .of_eq rfl
theorem slot_bytes_lt : Slot "bytes" (cmpInfo .Lt).2.1 "bytes.__lt__" :=
  .of (owner := "bytes") (n := "__lt__") (by rw [typeLookup_type, builtinLookup_eq_fast]; kernel_rfl) (by decide +kernel) (by decide +kernel) (by decide +kernel)
    (by first | exact .inl (by decide +kernel) | exact .inr (by decide +kernel)) (by rw [isSubtype_type]; kernel_rfl)
theorem entry_bytes_lt : entryFor table "bytes.__lt__" = some Builtin.«bytes.__lt__» := entryFor_of_tree (by kernel_rfl)
theorem args_bytes_lt_2 (a b : Value) : argsOk "bytes.__lt__" ⟨[a, b], []⟩ := by
  unfold argsOk; rw [signature?_of (id := "bytes.__lt__") (n := ['_', '_', 't', 'l', '_', '_']) (o := ['s', 'e', 't', 'y', 'b']) (by kernel_rfl) FB.owner_bytes]; kernel_rfl
theorem u8_lt {x y : Nat} (hx : x < 128) (hy : y < 128) : UInt8.ofNat x < UInt8.ofNat y ↔ x < y := by
  rw [UInt8.lt_iff_toNat_lt]; simp; lia
theorem order_lt : ∀ {a b : List Nat}, (∀ c ∈ a, c < 128) → (∀ c ∈ b, c < 128) → (Builtin.Bytes.order (a.map UInt8.ofNat) (b.map UInt8.ofNat) == .lt) = decide (a < b)
  | [], [], _, _ => by simp [Builtin.Bytes.order]
  | [], _ :: _, _, _ => by simp [Builtin.Bytes.order]
  | _ :: _, [], _, _ => by simp [Builtin.Bytes.order]
  | x :: a, y :: b, ha, hb => by
    have hx := ha x (.head _)
    have hy := hb y (.head _)
    have ih := order_lt (a := a) (b := b) (fun c hc => ha c (.tail _ hc)) (fun c hc => hb c (.tail _ hc))
    simp only [List.map_cons, Builtin.Bytes.order, gt_iff_lt, u8_lt hx hy, u8_lt hy hx, List.cons_lt_cons_iff]
    by_cases h1 : x < y
    · simp [h1]
    · by_cases h2 : y < x
      · have : x ≠ y := by lia
        simp [h1, h2, this]
      · have : x = y := by lia
        subst this
        simp only [Nat.lt_irrefl, if_false, false_or, true_and]
        exact ih
theorem gives_bytes_lt {a b : List Nat} (t u : Tok) (ha : ∀ c ∈ a, c < 128) (hb : ∀ c ∈ b, c < 128) : Gives (Builtin.«bytes.__lt__» ⟨[.bytes (a.map UInt8.ofNat).toArray t, .bytes (b.map UInt8.ofNat).toArray u], []⟩) (.val (.bool (decide (a < b)))) := by
  refine .of_wp fun M A E s Q hq => ?_
  show wpAny M A (isInstance (.bytes (b.map UInt8.ofNat).toArray u) (.type "bytes") >>= fun r => _) _ E s
  refine wpAny_bind (wpAny_isInstance (typeIs_bytes s _ u) F.sub_bytes_bytes ?_)
  exact wpAny_pure ⟨_, rfl, by rw [← order_lt ha hb] at hq; exact hq⟩

theorem str_beq_codes {a b : List Nat} : ((⟨a.toArray⟩ : Str) == ⟨b.toArray⟩) = decide (a = b) := by
  rw [Bool.eq_iff_iff, beq_iff_eq, decide_eq_true_eq]
  constructor
  · intro h; injection h with h; simpa using h
  · intro h; rw [h]

/-- less, as a comparison and as the sort asks for it -/
structure LtP (P Q : VP) (b : Bool) (d : Nat) : Prop where
  lt : ∀ (W : Addr → Prop) (A : Around) (s : Shared) (v u : Value) (prog : Program) (w : World) (E : Value → Shared → Prop) (C : Value → Shared → Prop), A.units + d < cLine → P.ok W s.heap v → Q.ok W s.heap u → C (.bool b) s → wpAny (model prog w) A (richCompare .Lt v u) C E s
  one : ∀ (W : Addr → Prop) (A : Around) (s : Shared) (v u : Value) (prog : Program) (w : World) (E : Value → Shared → Prop) (C : Bool → Shared → Prop), A.units + d < cLine → P.ok W s.heap v → Q.ok W s.heap u → C b s → wpAny (model prog w) A (oneLt' true v u) C E s

theorem eqP_tx {m : Bool} {a b : List Nat} : EqP (vTx m a) (vTx m b) (decide (a = b)) 0 := by
  refine ⟨fun W A s v u _ ⟨ha, t, p⟩ ⟨hb, t', q⟩ => ?_, fun W A s v u _ ⟨ha, t, p⟩ ⟨hb, t', q⟩ => ?_, fun W A s v u _ ⟨ha, t, p⟩ ⟨hb, t', q⟩ => ?_⟩ <;> subst p q <;> cases m
  · simp only [txV, Bool.false_eq_true, if_false]
    rw [← str_beq_codes]
    exact SeqAt.EqAt.str_str _ _ _ _
  · simp only [txV, if_true]
    refine fun prog w E Q h => eqBool_bytes ?_
    rw [show (decide ((a.map UInt8.ofNat).toArray.toList = (b.map UInt8.ofNat).toArray.toList)) = decide (a = b) from decide_eq_decide.mpr ⟨fun e => u8_inj ha hb (by simpa using e), fun e => by rw [e]⟩]
    exact h
  · simp only [txV, Bool.false_eq_true, if_false]
    rw [← str_beq_codes]
    exact SeqAt.RcAt.str_str _ _ _ _
  · simp only [txV, if_true]
    refine fun prog w E Q h => richCompare_gives (op := .Eq) (T := "bytes") rfl rfl FB.slot_bytes_eq FB.entry_bytes_eq (FB.args_bytes_eq_2 _ _) (gives_bytes_eq _ _ t t') (fun x => nomatch x) ?_
    show Q (.bool _) s
    rw [show ((a.map UInt8.ofNat).toArray.toList == (b.map UInt8.ofNat).toArray.toList) = decide (a = b) from by rw [Bool.eq_iff_iff, beq_iff_eq, decide_eq_true_eq]; exact ⟨fun e => u8_inj ha hb (by simpa using e), fun e => by rw [e]⟩]
    exact h
  · simp only [txV, Bool.false_eq_true, if_false]
    rw [← str_beq_codes]
    exact SeqAt.RcNeAt.str_str _ _ _ _
  · simp only [txV, if_true]
    refine fun prog w E Q h => richCompare_gives (op := .NotEq) (T := "bytes") rfl rfl FB.slot_bytes_ne FB.entry_bytes_ne (FB.args_bytes_ne_2 _ _) (gives_bytes_ne _ _ t t') (fun x => nomatch x) ?_
    show Q (.bool _) s
    rw [show ((a.map UInt8.ofNat).toArray.toList != (b.map UInt8.ofNat).toArray.toList) = !decide (a = b) from by rw [bne, show ((a.map UInt8.ofNat).toArray.toList == (b.map UInt8.ofNat).toArray.toList) = decide (a = b) from by rw [Bool.eq_iff_iff, beq_iff_eq, decide_eq_true_eq]; exact ⟨fun e => u8_inj ha hb (by simpa using e), fun e => by rw [e]⟩]]
    exact h
theorem ltP_tx {m : Bool} {a b : List Nat} : LtP (vTx m a) (vTx m b) (decide (a < b)) 0 := by
  refine ⟨fun W A s v u prog w E C _ ⟨ha, t, p⟩ ⟨hb, t', q⟩ h => ?_, fun W A s v u prog w E C _ ⟨ha, t, p⟩ ⟨hb, t', q⟩ h => ?_⟩ <;> subst p q <;> cases m
  · simp only [txV, Bool.false_eq_true, if_false]
    exact richCompare_gives (op := .Lt) (T := "str") rfl rfl slot_str_lt entry_str_lt (args_str_lt _ _) (gives_str_lt _ _ t t') (fun x => nomatch x) h
  · simp only [txV, if_true]
    exact richCompare_gives (op := .Lt) (T := "bytes") rfl rfl slot_bytes_lt entry_bytes_lt (args_bytes_lt_2 _ _) (gives_bytes_lt t t' ha hb) (fun x => nomatch x) h
  · simp only [txV, Bool.false_eq_true, if_false]
    exact oneLt_str h
  · simp only [txV, if_true]
    rw [oneLt'_eq]
    simp only [if_true]
    refine wpAny_bind (wpAny_cRoomFor_byValue rfl ?_)
    refine wpAny_bind (wpAny_callSpecialIfBound?_slot (typeIs_bytes s _ t) slot_bytes_lt (call_gives slot_bytes_lt (typeIs_bytes s _ t) entry_bytes_lt (args_bytes_lt_2 _ _) (gives_bytes_lt t t' ha hb) ?_))
    exact wpAny_truthy_bool h
theorem ltP_int {a b : Int} : LtP (vInt a) (vInt b) (decide (a < b)) 0 := by
  refine ⟨fun W A s v u prog w E C _ ⟨t, p⟩ ⟨t', q⟩ h => ?_, fun W A s v u prog w E C _ ⟨t, p⟩ ⟨t', q⟩ h => ?_⟩ <;> subst p q
  · exact PyProof.Rows.lt_int h
  · exact oneLt_int h
end Mine
end

section
open PySem PySem.W PyProof.Rows PySem.Calls
open PySem.AutoSeq1 (wpAny_loadPart')
open PySem.MeetsSeq PySem.MeetsSeq2 PySem.MeetsSeq3 PySem.SeqRoads2
set_option Elab.async false
set_option autoImplicit false
set_option linter.unusedVariables false
set_option maxRecDepth 100000
namespace Mine
/-! ## lists by `<` -/
def LtAt (A : Around) (s : Shared) (y x : Value) (b : Bool) : Prop :=
  ∀ (prog : Program) (w : World) (E : Value → Shared → Prop) (Q : Value → Shared → Prop), Q (.bool b) s → wpAny (model prog w) A (richCompare .Lt y x) Q E s
def lexR (e t : Nat → Bool) (fin : Bool) : Nat → Nat → Bool
  | 0, _ => fin
  | f + 1, i => if e i then lexR e t fin f (i + 1) else t i

theorem lt_loopAt (l b : Addr) (items items2 : Array Value) (n n2 : Nat) (dd dd2 : Option Addr) (sl sl2 : Array (Option Value)) (e t : Nat → Bool) (k : Nat) :
    ∀ i : Nat, min items.size items2.size - i = k → Meets (Builtin.«list.__eq__.loop» ⟨[.ref l, .ref b, rawInt i, rawInt 0], []⟩)
      (fun A R s => s.heap.get? l = some { cls := .type "list", dict := dd, data := .seq items n, slots := sl } ∧ s.heap.get? b = some { cls := .type "list", dict := dd2, data := .seq items2 n2, slots := sl2 } ∧
        (∀ j (h1 : j < items.size) (h2 : j < items2.size), SeqAt.EqAt A.in1 s items[j] items2[j] (e j)) ∧ (∀ j (h1 : j < items.size) (h2 : j < items2.size), LtAt A.in1 s items[j] items2[j] (t j)) ∧
        R (.ok (.ret (.bool (lexR e t (decide (items.size < items2.size)) k i)))) s) := by
  induction k with
  | zero =>
    intro i hk prog w A R s h
    obtain ⟨hp, g, d, tk, os⟩ := s; obtain ⟨hl, hb, he, ht, h⟩ := h
    wp_walk using wpAny_loadPart' hl, wpAny_loadPart' hb
    by_cases hi : i < items.size
    · have hi1 : items[((i : Nat) : Int).toNat]? = some items[i] := by simp [hi]
      have hi2 : items2[((i : Nat) : Int).toNat]? = none := by simp; omega
      rw [hi1, hi2]
      wp_walk using wpAny_loadPart' hl, wpAny_loadPart' hb
      exact h
    · have hi1 : items[((i : Nat) : Int).toNat]? = none := by simp; omega
      rw [hi1]
      wp_walk using wpAny_loadPart' hl, wpAny_loadPart' hb
      exact h
  | succ k ih =>
    intro i hk prog w A R s h
    obtain ⟨hp, g, d, tk, os⟩ := s; obtain ⟨hl, hb, he, ht, h⟩ := h
    wp_walk using wpAny_loadPart' hl, wpAny_loadPart' hb
    have hlt : i < items.size := by omega
    have hlt2 : i < items2.size := by omega
    have hi1 : items[((i : Nat) : Int).toNat]? = some items[i] := by simp [hlt]
    have hi2 : items2[((i : Nat) : Int).toNat]? = some items2[i] := by simp [hlt2]
    have hc : ((i : Int) + 1) = ((i + 1 : Nat) : Int) := by push_cast; rfl
    rw [lexR] at h
    rw [hi1, hi2]
    refine wpAny_bind (he i hlt hlt2 prog w _ _ ?_)
    cases hb' : e i with
    | true =>
      rw [hb', if_pos rfl] at h
      wp_walk
      rw [hc]
      exact ⟨plainId_quiet plain_eq_loop _, codeAny_builtin entry_eq_loop (by
        rw [Around.under_plainId plain_eq_loop _]
        exact ih (i + 1) (by omega) prog w A R _ ⟨hl, hb, he, ht, h⟩)⟩
    | false =>
      rw [hb', if_neg (by decide)] at h
      wp_walk using wpAny_loadPart' hl, wpAny_loadPart' hb
      rw [hi1, hi2]
      refine wpAny_bind (ht i hlt hlt2 prog w _ _ ?_)
      exact wpAny_pure h
theorem list_ltAt (l b : Addr) (items items2 : Array Value) (n n2 : Nat) (dd dd2 : Option Addr) (sl sl2 : Array (Option Value)) (e t : Nat → Bool) :
    Meets (Builtin.«list.__lt__» ⟨[.ref l, .ref b], []⟩)
      (fun A R s => s.heap.get? l = some { cls := .type "list", dict := dd, data := .seq items n, slots := sl } ∧ s.heap.get? b = some { cls := .type "list", dict := dd2, data := .seq items2 n2, slots := sl2 } ∧
        (∀ j (h1 : j < items.size) (h2 : j < items2.size), SeqAt.EqAt A.in1 s items[j] items2[j] (e j)) ∧ (∀ j (h1 : j < items.size) (h2 : j < items2.size), LtAt A.in1 s items[j] items2[j] (t j)) ∧
        R (.ok (.ret (.bool (lexR e t (decide (items.size < items2.size)) (min items.size items2.size) 0)))) s) := by
  intro prog w A R s h
  obtain ⟨hp, g, d, tk, os⟩ := s; obtain ⟨hl, hb, he, ht, h⟩ := h
  have f3 := AutoSeq1.sub_list_list
  wp_walk using wpAny_loadPart' hl, wpAny_loadPart' hb
  exact ⟨plainId_quiet plain_eq_loop _, codeAny_builtin entry_eq_loop (by
    rw [Around.under_plainId plain_eq_loop _]
    exact lt_loopAt l b items items2 n n2 dd dd2 sl sl2 e t _ 0 (by simp) prog w A R _ ⟨hl, hb, he, ht, h⟩)⟩
end Mine
end

section
open PySem PySem.W PyProof.Rows PySem.Calls
set_option Elab.async false
set_option autoImplicit false
set_option linter.unusedVariables false
set_option maxRecDepth 100000
namespace Mine
/-! ## names -/
def sg : Nat → List Nat
  | 0 => []
  | k + 1 => [97 + k]
def nmV (m : Bool) (k : Nat) : VP := vTx m (sg k)
theorem sg_inj {a b : Nat} (h : sg a = sg b) : a = b := by
  cases a <;> cases b <;> simp [sg] at h ⊢ <;> lia
theorem sg_lt {a b : Nat} : decide (sg a < sg b) = decide (a < b) := by
  rw [decide_eq_decide]
  cases a <;> cases b <;> simp [sg, List.cons_lt_cons_iff] <;> lia
theorem nm_inj {m : Bool} : Inj (nmV m) := fun W h v a b p q => sg_inj (tx_inj W h v _ _ p q)
theorem eqP_nm {m : Bool} (a b : Nat) : EqP (nmV m a) (nmV m b) (decide (a = b)) 0 :=
  eqP_tx.conv (decide_eq_decide.mpr ⟨sg_inj, fun h => by rw [h]⟩)
theorem ltP_nm {m : Bool} (a b : Nat) : LtP (nmV m a) (nmV m b) (decide (a < b)) 0 := by
  have := ltP_tx (m := m) (a := sg a) (b := sg b)
  rw [sg_lt] at this
  exact this

/-! ## lists in order -/
section
variable {α : Type} [DecidableEq α]
def lexB (lt : α → α → Bool) : List α → List α → Bool
  | [], [] => false
  | [], _ :: _ => true
  | _ :: _, [] => false
  | x :: xs, y :: ys => if x = y then lexB lt xs ys else lt x y
theorem lexR_lexB {lt : α → α → Bool} {e t : Nat → Bool} : ∀ (l m : List α) (i : Nat), (∀ j (h1 : j < l.length) (h2 : j < m.length), e (i + j) = decide (l[j] = m[j])) → (∀ j (h1 : j < l.length) (h2 : j < m.length), t (i + j) = lt l[j] m[j]) →
    lexR e t (decide (l.length < m.length)) (min l.length m.length) i = lexB lt l m
  | [], [], i, _, _ => rfl
  | [], _ :: _, i, _, _ => by simp [lexR, lexB]
  | _ :: _, [], i, _, _ => by simp [lexR, lexB]
  | x :: xs, y :: ys, i, he, ht => by
    have h0 := he 0 (by simp) (by simp)
    have t0 := ht 0 (by simp) (by simp)
    have ih := lexR_lexB (lt := lt) (e := e) (t := t) xs ys (i + 1) (fun j h1 h2 => by have := he (j + 1) (by simpa using h1) (by simpa using h2); simpa [Nat.add_assoc, Nat.add_comm 1 j] using this)
      (fun j h1 h2 => by have := ht (j + 1) (by simpa using h1) (by simpa using h2); simpa [Nat.add_assoc, Nat.add_comm 1 j] using this)
    simp only [Nat.add_zero, List.getElem_cons_zero] at h0 t0
    have hd : decide ((x :: xs).length < (y :: ys).length) = decide (xs.length < ys.length) := by simp
    rw [hd, show min (x :: xs).length (y :: ys).length = min xs.length ys.length + 1 by simp [Nat.succ_min_succ], lexR, lexB, h0, ih, t0]
    by_cases hxy : x = y <;> simp [hxy]
theorem lexB_self {lt : α → α → Bool} : ∀ l : List α, lexB lt l l = false
  | [] => rfl
  | x :: xs => by rw [lexB, if_pos rfl, lexB_self xs]
end

theorem ltP_list {α : Type} [DecidableEq α] {R : α → VP} {lt : α → α → Bool} {d : Nat} (hR : Inj R) (he : ∀ a b, EqP (R a) (R b) (decide (a = b)) d) (hl : ∀ a b, LtP (R a) (R b) (lt a b) d) (l m : List α) : LtP (vList R l) (vList R m) (lexB lt l m) (d + 1) := by
  have key : ∀ (W : Addr → Prop) (A : Around) (s : Shared) (v u : Value), A.units + (d + 1) < cLine → (vList R l).ok W s.heap v → (vList R m).ok W s.heap u →
      ∃ a b items items2 n n2, v = .ref a ∧ u = .ref b ∧ s.heap.get? a = some { cls := .type "list", dict := none, data := .seq items n, slots := #[] } ∧ s.heap.get? b = some { cls := .type "list", dict := none, data := .seq items2 n2, slots := #[] } ∧
        ∃ e t, (∀ j (h1 : j < items.size) (h2 : j < items2.size), SeqAt.EqAt A.in1 s items[j] items2[j] (e j)) ∧ (∀ j (h1 : j < items.size) (h2 : j < items2.size), LtAt A.in1 s items[j] items2[j] (t j)) ∧ lexR e t (decide (items.size < items2.size)) (min items.size items2.size) 0 = lexB lt l m := by
    rintro W A s v u hu ⟨lm, a, vs, rfl, nw, ⟨n, pl⟩, p⟩ ⟨lm', b, us, rfl, nw', ⟨n', pl'⟩, p'⟩
    have e1 := Paired.length p
    have e2 := Paired.length p'
    refine ⟨a, b, vs.toArray, us.toArray, n, n', rfl, rfl, pl, pl', fun j => if hx : j < l.length ∧ j < m.length then decide (l[j]'hx.1 = m[j]'hx.2) else false, fun j => if hx : j < l.length ∧ j < m.length then lt (l[j]'hx.1) (m[j]'hx.2) else false, ?_, ?_, ?_⟩
    · intro j h1 h2
      have h1' : j < vs.length := by simpa using h1
      have h2' : j < us.length := by simpa using h2
      obtain ⟨q1, q2⟩ := paired_get2 p h1'
      obtain ⟨q3, q4⟩ := paired_get2 p' h2'
      simp only [List.getElem_toArray, q1, q3, and_self, dif_pos]
      exact (he _ _).eq W A.in1 s _ _ (by show A.units + 1 + d < cLine; lia) q2 q4
    · intro j h1 h2
      have h1' : j < vs.length := by simpa using h1
      have h2' : j < us.length := by simpa using h2
      obtain ⟨q1, q2⟩ := paired_get2 p h1'
      obtain ⟨q3, q4⟩ := paired_get2 p' h2'
      simp only [List.getElem_toArray, q1, q3, and_self, dif_pos]
      exact fun prog w E Q h => (hl _ _).lt W A.in1 s _ _ prog w E Q (by show A.units + 1 + d < cLine; lia) q2 q4 h
    · rw [List.size_toArray, List.size_toArray, e1, e2]
      exact lexR_lexB l m 0 (fun j h1 h2 => by simp [h1, h2]) (fun j h1 h2 => by simp [h1, h2])
  refine ⟨fun W A s v u prog w E C hu p q h => ?_, fun W A s v u prog w E C hu p q h => ?_⟩
  · obtain ⟨a, b, items, items2, n, n2, rfl, rfl, ho, ho2, e, t, h1, h2, h3⟩ := key W A s v u hu p q
    exact richCompare_meets_room (op := .Lt) ⟨_, ho, rfl⟩ ⟨_, ho2, rfl⟩ F.slot_list_lt F.entry_list_lt (F.args_list_lt_2 _ _) (list_ltAt a b items items2 n n2 none none #[] #[] e t)
      ⟨ho, ho2, h1, h2, show Value.bool _ ≠ Value.notImplemented ∧ C (.bool _) s from ⟨(fun x => nomatch x), h3 ▸ h⟩⟩ (by lia)
  · obtain ⟨a, b, items, items2, n, n2, rfl, rfl, ho, ho2, e, t, h1, h2, h3⟩ := key W A s v u hu p q
    rw [oneLt'_eq]
    simp only [if_true]
    refine wpAny_bind (wpAny_cRoomFor (by lia) ?_)
    refine wpAny_bind (wpAny_callSpecialIfBound?_slot (T := "list") ⟨_, ho, rfl⟩ F.slot_list_lt (call_meets F.slot_list_lt ⟨_, ho, rfl⟩ F.entry_list_lt (F.args_list_lt_2 _ _) (list_ltAt a b items items2 n n2 none none #[] #[] e t) ⟨ho, ho2, h1, h2, ?_⟩))
    show wpAny (model prog w) A (truthOfDropped (.bool _)) C E s
    rw [h3]
    exact wpAny_truthy_bool h

/-! ## orders -/
def natO : KeyOrd where
  α := Nat
  blt a b := decide (a < b)
  irrefl a := by simp
  trans a b c h1 h2 := by simp only [decide_eq_true_eq] at *; lia
  negTrans a b c h := by simp only [decide_eq_true_eq] at *; lia
  total a b h1 h2 := by simp only [decide_eq_false_iff_not] at *; lia
section
variable (O : KeyOrd) [DecidableEq O.α]
theorem lexB_trans : ∀ a b c : List O.α, lexB O.blt a b = true → lexB O.blt b c = true → lexB O.blt a c = true
  | [], [], _, h, _ => by cases h
  | [], _ :: _, [], _, h => by cases h
  | [], _ :: _, _ :: _, _, _ => rfl
  | _ :: _, [], _, h, _ => by cases h
  | _ :: _, _ :: _, [], _, h => by cases h
  | x :: a, y :: b, z :: c, h1, h2 => by
    simp only [lexB] at h1 h2 ⊢
    by_cases hxy : x = y
    · subst hxy
      rw [if_pos rfl] at h1
      by_cases hxz : x = z
      · subst hxz
        rw [if_pos rfl] at h2 ⊢
        exact lexB_trans a b c h1 h2
      · rw [if_neg hxz] at h2 ⊢; exact h2
    · rw [if_neg hxy] at h1
      by_cases hyz : y = z
      · subst hyz
        rw [if_neg hxy]; exact h1
      · rw [if_neg hyz] at h2
        have h3 := O.trans _ _ _ h1 h2
        have : x ≠ z := fun e => by rw [e, O.irrefl] at h3; cases h3
        rw [if_neg this]; exact h3
theorem lexB_neg : ∀ a b c : List O.α, lexB O.blt a c = true → lexB O.blt a b = true ∨ lexB O.blt b c = true
  | [], [], _ :: _, _ => .inr rfl
  | [], [], [], h => by cases h
  | [], _ :: _, _, _ => .inl rfl
  | _ :: _, _, [], h => by cases h
  | _ :: _, [], _ :: _, _ => .inr rfl
  | x :: a, y :: b, z :: c, h => by
    simp only [lexB] at h ⊢
    by_cases hxz : x = z
    · subst hxz
      rw [if_pos rfl] at h
      by_cases hxy : x = y
      · subst hxy
        simp only [if_true]
        exact lexB_neg a b c h
      · rw [if_neg hxy, if_neg (Ne.symm hxy)]
        cases e1 : O.blt x y with
        | true => exact .inl rfl
        | false => cases e2 : O.blt y x with
          | true => exact .inr rfl
          | false => exact absurd (O.total _ _ e1 e2) hxy
    · rw [if_neg hxz] at h
      by_cases hxy : x = y
      · subst hxy
        rw [if_neg hxz]; exact .inr h
      · rw [if_neg hxy]
        by_cases hyz : y = z
        · subst hyz; exact .inl h
        · rw [if_neg hyz]; exact O.negTrans _ _ _ h
theorem lexB_total : ∀ a b : List O.α, lexB O.blt a b = false → lexB O.blt b a = false → a = b
  | [], [], _, _ => rfl
  | [], _ :: _, h, _ => by cases h
  | _ :: _, [], _, h => by cases h
  | x :: a, y :: b, h1, h2 => by
    simp only [lexB] at h1 h2
    by_cases hxy : x = y
    · subst hxy
      rw [if_pos rfl] at h1 h2
      rw [lexB_total a b h1 h2]
    · rw [if_neg hxy] at h1
      rw [if_neg (Ne.symm hxy)] at h2
      exact absurd (O.total _ _ h1 h2) hxy
def lexO : KeyOrd where
  α := List O.α
  blt := lexB O.blt
  irrefl := lexB_self
  trans := lexB_trans O
  negTrans := lexB_neg O
  total := lexB_total O
end

/-! ## the sorted list, once -/
section
variable {O : KeyOrd}
def insL (O : KeyOrd) (x : O.α) : List O.α → List O.α
  | [] => [x]
  | y :: r => if O.blt y x then y :: insL O x r else x :: y :: r
def sortL (O : KeyOrd) : List O.α → List O.α
  | [] => []
  | x :: r => insL O x (sortL O r)
theorem insL_perm (x : O.α) : ∀ l, (insL O x l).Perm (x :: l)
  | [] => .refl _
  | y :: r => by
    unfold insL
    split
    · exact ((insL_perm x r).cons y).trans (List.Perm.swap x y r)
    · exact .refl _
theorem sortL_perm : ∀ l, (sortL O l).Perm l
  | [] => .refl _
  | x :: r => (insL_perm x _).trans ((sortL_perm r).cons x)
theorem insL_sorted {x : O.α} : ∀ {l : List O.α}, l.Pairwise O.kle → (insL O x l).Pairwise O.kle
  | [], _ => by simp [insL]
  | y :: r, h => by
    unfold insL
    rw [List.pairwise_cons] at h
    cases hb : O.blt y x with
    | true =>
      rw [if_pos rfl]
      refine List.pairwise_cons.mpr ⟨fun z hz => ?_, insL_sorted h.2⟩
      rcases List.mem_cons.mp ((insL_perm x r).mem_iff.mp hz) with rfl | hz
      · exact KeyOrd.kle_of_klt hb
      · exact h.1 z hz
    | false =>
      rw [if_neg (by decide)]
      refine List.pairwise_cons.mpr ⟨fun z hz => ?_, List.pairwise_cons.mpr h⟩
      rcases List.mem_cons.mp hz with rfl | hz
      · exact hb
      · exact KeyOrd.kle_trans hb (h.1 z hz)
theorem sortL_sorted : ∀ l, (sortL O l).Pairwise O.kle
  | [] => .nil
  | x :: r => insL_sorted (sortL_sorted r)
theorem sorted_uniq : ∀ {l m : List O.α}, l.Perm m → l.Pairwise O.kle → m.Pairwise O.kle → l = m
  | [], m, h, _, _ => (List.nil_perm.mp h).symm
  | x :: l, [], h, _, _ => by have := h.length_eq; simp at this
  | x :: l, y :: m, h, h1, h2 => by
    rw [List.pairwise_cons] at h1 h2
    have hxy : x = y := by
      rcases List.mem_cons.mp (h.mem_iff.mp (.head _)) with e | hx
      · exact e
      · rcases List.mem_cons.mp (h.symm.mem_iff.mp (.head _)) with e | hy
        · exact e.symm
        · exact KeyOrd.kle_antisymm (h1.1 y hy) (h2.1 x hx)
    subst hxy
    rw [sorted_uniq h.cons_inv h1.2 h2.2]
theorem sortL_eq {l m : List O.α} (h : m.Perm l) (hs : m.Pairwise O.kle) : m = sortL O l := sorted_uniq (h.trans (sortL_perm l).symm) hs (sortL_sorted l)
theorem sortL_perm_eq {l m : List O.α} : sortL O l = sortL O m ↔ l.Perm m :=
  ⟨fun h => (sortL_perm l).symm.trans (h ▸ sortL_perm m), fun h => sortL_eq ((sortL_perm l).trans h) (sortL_sorted l)⟩
end
end Mine
end

section
open PySem PySem.W PyProof.Rows PySem.Calls
set_option Elab.async false
set_option autoImplicit false
set_option linter.unusedVariables false
set_option maxRecDepth 100000
namespace Mine
section
variable {prog : Program} {w : World} {A : Around} {E : Value → Shared → Prop} {s : Shared} {O : KeyOrd} {key : Nat → O.α} {vs : List Value} {b : Bool}

/-- what the sort asks of the items, at any state in which the old objects stay -/
def Ask (prog : Program) (w : World) (A : Around) (b : Bool) (vs : List Value) (O : KeyOrd) (key : Nat → O.α) (s₁ : Shared) : Prop :=
  ∀ (s' : Shared) (E : Value → Shared → Prop) (Q : SortKind → Shared → Prop), (∀ c o, s₁.heap.get? c = some o → s'.heap.get? c = some o) →
    (∀ κ, (∀ i j (C : Bool → Shared → Prop), i < vs.length → j < vs.length → C (O.blt (key i) (key j)) s' → wpAny (model prog w) A (keyLt' κ ((katRev b vs).getD i .none) ((katRev b vs).getD j .none)) C (fun _ _ => False) s') → Q κ s') →
    wpAny (model prog w) A (keyKind' vs.toArray) Q E s'

def sOut (b : Bool) (vs : List Value) (p : Array Nat) : List Value := katRev b (p.toList.map fun i => (katRev b vs).getD i Value.none)

theorem range_getD : ∀ (l : List Value), (List.range l.length).map (fun i => l.getD i Value.none) = l := fun l => by
  apply List.ext_getElem
  · simp
  · intro i h1 h2
    have : i < l.length := by simpa using h1
    simp [this]
theorem katRev_katRev {α : Type} (b : Bool) (l : List α) : katRev b (katRev b l) = l := by cases b <;> simp [katRev]

theorem lsort {a : Addr} {n : Nat} {s₀ : Shared} {P : PySem.Fin → Shared → Prop} (ho : s.heap.get? a = some (seqObj "list" vs.toArray n)) (h64 : vs.length < 64) (hext : ∀ c o, s₀.heap.get? c = some o → c ≠ a ∧ s.heap.get? c = some o)
    (hk : 2 ≤ vs.length → Ask prog w A b vs O key s₀)
    (h : ∀ p h' e, Pm vs.length p → Up key p vs.length → (∀ c o, s₀.heap.get? c = some o → h'.get? c = some o) → h'.get? a = some (seqObj "list" (sOut b vs p).toArray e) → P (.done (.ret .none)) { s with heap := h' }) :
    wpAny (model prog w) A (Builtin.«list.sort» ⟨[.ref a], [(Str.ofString "reverse", .bool b)]⟩) P E s := by
  rw [list_sort_rev]
  have ha : a < s.heap.objs.size := Heap.lt_size ho
  refine wpAny_bind (listItems_at ho rfl ?_)
  refine wpAny_bind (listUpdate_at ho rfl ?_ (by rw [List.size_toArray, sizeLine_eq]; lia) (Nat.zero_le _))
  obtain ⟨e1, ho1⟩ : ∃ e1, (s.heap.update a (Obj.mapSeq fun _ => #[])).get? a = some (seqObj "list" #[] e1) := ⟨_, get?_update_seq ho (fun _ => #[])⟩
  refine wpAny_bind (seqEpoch_at ho1 rfl ?_)
  refine wpAny_bind (wpAny_newTuple ?_ (by show vs.length ≤ _; rw [sizeLine_eq]; lia))
  refine wpAny_bind (wpAny_newList ?_ (Nat.zero_le _))
  refine wpAny_holding ?_
  have ho6 : (((s.heap.update a (Obj.mapSeq fun _ => #[])).push (seqObj "tuple" vs.toArray 0)).push (seqObj "list" #[] 0)).get? a = some (seqObj "list" #[] e1) := by
    rw [Heap.get?_push_ne _ _ _ (by rw [size_push', Heap.size_update]; exact Nat.ne_of_lt (Nat.lt_succ_of_lt ha)), Heap.get?_push_ne _ _ _ (by rw [Heap.size_update]; exact Nat.ne_of_lt ha)]
    exact ho1
  have ext6 : ∀ c o, s₀.heap.get? c = some o → (((s.heap.update a (Obj.mapSeq fun _ => #[])).push (seqObj "tuple" vs.toArray 0)).push (seqObj "list" #[] 0)).get? c = some o := fun c o q => by
    obtain ⟨h1, h2⟩ := hext c o q
    refine Heap.get?_push_of_some _ (Heap.get?_push_of_some _ ?_)
    rw [Heap.get?_update_ne _ _ _ _ h1]
    exact h2
  show wpAny (model prog w) A _ P E { s with heap := ((s.heap.update a (Obj.mapSeq fun _ => #[])).push (seqObj "tuple" vs.toArray 0)).push (seqObj "list" #[] 0) }
  generalize ((s.heap.update a (Obj.mapSeq fun _ => #[])).push (seqObj "tuple" vs.toArray 0)).push (seqObj "list" #[] 0) = h6 at *
  have hsz : vs.toArray.size = vs.length := by simp
  have fin : ∀ (st : SortSt) (p : Array Nat), Pm vs.length p → Up key p vs.length → (arrOf st).map (·.2) = List.toArray (p.toList.map fun i => (katRev b vs).getD i Value.none) → failedOf st = none →
      wpAny (model prog w) A (do
        let sorted := (arrOf st).map (·.2)
        let touched := (← seqEpoch a) != e1
        Builtin.List.listUpdate (.ref a) fun _ => if b then sorted.reverse else sorted
        if let some e := failedOf st then rule "list.sort.comparison-raised"; throw e
        if touched then rule "list.sort.modified"; raiseError "ValueError" "list modified during sort"
        ret .none) P E { s with heap := h6 } := by
    intro st p hp hu har hf
    dsimp only
    have hz : (sOut b vs p).length = vs.length := by unfold sOut; rw [kat_len, List.length_map, Array.length_toList, hp.1]
    rw [har, kat_outs]
    refine wpAny_bind (seqEpoch_at ho6 rfl ?_)
    refine wpAny_bind (listUpdate_at ho6 rfl ?_ (Nat.zero_le _) (by show (List.toArray (sOut b vs p)).size ≤ _; rw [List.size_toArray, sizeLine_eq]; lia))
    rw [hf]
    simp only [bne_self_eq_false, Bool.false_eq_true, if_false]
    refine wpAny_pure (h p _ _ hp hu (fun c o q => ?_) (get?_update_seq ho6 fun _ => (sOut b vs p).toArray))
    rw [Heap.get?_update_ne _ _ _ _ (hext c o q).1]
    exact ext6 c o q
  have step : ∀ t : Sem PySem.Fin, wpAny (model prog w) A t P E { s with heap := h6 } → wpAny (model prog w) A (if b = true then (do let _ ← rule "list.sort.reverse"; t) else t) P E { s with heap := h6 } := by
    intro t ht
    split
    · exact wpAny_bind (wpAny_rule ht)
    · exact ht
  dsimp only
  refine step _ ?_
  have hlen : (katRev b vs).length = vs.length := kat_len b vs
  by_cases h2 : vs.toArray.size < 2
  · rw [if_pos h2, if_pos h2]
    refine wpAny_bind (wpAny_pure ?_)
    rw [StateT.run_pure]
    refine wpAny_bind (wpAny_pure ?_)
    refine fin (SortSt.mk' general' (if b = true then (vs.toArray.zip vs.toArray).reverse else vs.toArray.zip vs.toArray) #[] 7 none) (List.toArray (List.range vs.length)) ⟨by simp, by simp⟩ ?_ ?_ rfl
    · intro i j hij hj
      have : i = j := by lia
      subst this; exact KeyOrd.kle_refl _
    · show (if b = true then (vs.toArray.zip vs.toArray).reverse else vs.toArray.zip vs.toArray).map (·.2) = _
      rw [kat_pairs b rfl]
      have e : (List.toArray (List.range vs.length)).toList.map (fun i => (katRev b vs).getD i Value.none) = katRev b vs := by
        have := range_getD (katRev b vs)
        rw [hlen] at this
        exact this
      rw [e]
      apply Array.toList_inj.mp
      rw [Array.toList_map, Array.toList_zip]
      have : ∀ l : List Value, (l.zip l).map (·.2) = l := fun l => by induction l with
        | nil => rfl
        | cons x r ih => simp only [List.zip_cons_cons, List.map_cons, ih]
      exact this _
  · rw [if_neg h2, if_neg h2]
    have h2' : 2 ≤ vs.length := by lia
    refine wpAny_bind (hk h2' { s with heap := h6 } E _ ext6 fun κ hκ => ?_)
    rw [kat_pairs b rfl]
    have hrn : Rn vs.length O key (kas_sort vs.length) (fun p => Pm vs.length p ∧ Up key p vs.length) := rn_sort (by lia) fun p' a b => ⟨a, b⟩
    have hask : (kas_sort (katRev b vs).length).kasWp (kas_ask prog w A κ (katRev b vs)) (fun p s' => s' = { s with heap := h6 } ∧ Pm vs.length p ∧ Up key p vs.length) { s with heap := h6 } := by
      rw [hlen]
      exact Rn.wp (fun i j C h1 h2 hc => hκ i j C h1 h2 hc) (fun p hp => ⟨rfl, hp⟩) hrn
    refine wpAny_bind (wpAny_mono (kat_run (Q := fun st' s' => ∃ p : Array Nat, arrOf st' = p.map (kas_item ((List.toArray (katRev b vs)).zip (List.toArray (katRev b vs)))) ∧ failedOf st' = none ∧ s' = { s with heap := h6 } ∧ Pm vs.length p ∧ Up key p vs.length)
      rfl (by rw [hlen]; exact h2') (by rw [hlen]; exact h64) (fun p' st' s' a1 a2 a3 a4 => ⟨p', a2, a3, a4⟩) hask) ?_ fun _ _ e => e)
    rintro ⟨⟨⟩, st'⟩ s' ⟨p, har, hf, rfl, hp, hu⟩
    exact fin st' p hp hu (kat_snds rfl har) hf

theorem sort_kw0 (a : Addr) : Builtin.«list.sort» ⟨[.ref a], []⟩ = Builtin.«list.sort» ⟨[.ref a], [(Str.ofString "reverse", .bool false)]⟩ := by
  rw [list_sort_plain, list_sort_rev]; rfl

theorem sorted_of {x : Value} {kw : List (Str × Value)} {Q : Value → Shared → Prop} (hkw : (kw = [] ∧ b = false) ∨ kw = [(Str.ofString "reverse", .bool b)])
    (hc : wpAny (model prog w) A.in1 (collect x) (fun vs s₁ => vs.length < 64 ∧ (2 ≤ vs.length → Ask prog w A.in1.in1 b vs O key s₁) ∧
      ∀ p h₂ D e, Pm vs.length p → Up key p vs.length → (∀ c o, s₁.heap.get? c = some o → h₂.get? c = some o) → s₁.heap.get? D = none → h₂.get? D = some (seqObj "list" (sOut b vs p).toArray e) → Q (.ref D) { s₁ with heap := h₂ }) E s) :
    wpAny (model prog w) A (call (.builtin "sorted") [x] kw) Q E s := by
  have main : wpAny (model prog w) A.in1 (Builtin.«sorted» ⟨[x], kw⟩) (fun fin s' => ∃ v, fin = .done (.ret v) ∧ Q v s') E s := by
    unfold Builtin.«sorted»
    refine wpAny_bind (m := checkCount "sorted" 1 1 _) (wpAny_pure ?_)
    refine wpAny_bind (wpAny_mono hc (fun vs s₁ h₁ => ?_) fun _ _ x => x)
    obtain ⟨h64, hk, fin⟩ := h₁
    refine wpAny_bind (wpAny_newList ?_ (by rw [sizeLine_eq]; lia))
    have hoL : (s₁.heap.push (seqObj "list" vs.toArray 0)).get? s₁.heap.objs.size = some (seqObj "list" vs.toArray 0) := Heap.get?_push_size _ rfl
    have hD : s₁.heap.get? s₁.heap.objs.size = none := by
      cases e : s₁.heap.get? s₁.heap.objs.size with
      | none => rfl
      | some o => exact absurd (Heap.lt_size e) (Nat.lt_irrefl _)
    have body : ∀ b' : Bool, b' = b → wpAny (model prog w) A.in1.in1 (Builtin.«list.sort» ⟨[.ref s₁.heap.objs.size], [(Str.ofString "reverse", .bool b')]⟩) (fun fin s' => ∃ v, fin = .done (.ret v) ∧ wpAny (model prog w) A.in1 (ret (.ref s₁.heap.objs.size)) (fun fin s' => ∃ v, fin = .done (.ret v) ∧ Q v s') E s') E { s₁ with heap := s₁.heap.push (seqObj "list" vs.toArray 0) } := by
      rintro b' rfl
      refine lsort (s₀ := s₁) (O := O) (key := key) hoL h64 (fun c o q => ⟨Nat.ne_of_lt (Heap.lt_size q), Heap.get?_push_of_some _ q⟩) hk fun p h' e hp hu hx ho => ⟨_, rfl, wpAny_pure ⟨_, rfl, fin p h' _ e hp hu hx hD ho⟩⟩
    rcases hkw with ⟨rfl, rfl⟩ | rfl
    · exact wpAny_bind (wpAny_holding (wpAny_call_entry slot_list_sort ⟨_, hoL, rfl⟩ entry_list_sort (by rw [sort_kw0]; exact body false rfl) (args_list_sort _)))
    · exact wpAny_bind (wpAny_holding (wpAny_call_entry_kw slot_list_sort ⟨_, hoL, rfl⟩ entry_list_sort (body b rfl) (args_list_sort_rev _ _)))
  rcases hkw with ⟨rfl, rfl⟩ | rfl
  · exact Calls.call_function_entry kind_sorted plain_sorted entry_sorted (args_sorted1 _) main
  · exact call_function_entry_kw kind_sorted plain_sorted entry_sorted (args_sorted_rev _ _) main
end
end Mine
end

section
open PySem PySem.W PyProof.Rows PySem.Calls
set_option Elab.async false
set_option autoImplicit false
set_option linter.unusedVariables false
set_option maxRecDepth 100000
namespace Mine
section
variable {O : KeyOrd} [Inhabited O.α]
def lOut (b : Bool) (l : List O.α) (p : Array Nat) : List O.α := katRev b (p.toList.map fun i => (katRev b l).getD i default)
theorem katRev_paired {α : Type} {F : Value → α → Prop} {vs : List Value} {l : List α} (b : Bool) (p : Paired F vs l) : Paired F (katRev b vs) (katRev b l) := by
  cases b with
  | false => exact p
  | true => exact paired_rev p
theorem paired_pick {α : Type} {F : Value → α → Prop} {vs : List Value} {l : List α} {d : α} (p : Paired F vs l) : ∀ {is : List Nat}, (∀ i ∈ is, i < l.length) → Paired F (is.map fun i => vs.getD i Value.none) (is.map fun i => l.getD i d)
  | [], _ => .nil
  | i :: is, h => by
    have hi := h i (.head _)
    obtain ⟨v, e1, e2⟩ := Paired.get p (List.getElem?_eq_getElem hi)
    refine .cons ?_ (paired_pick p fun j hj => h j (.tail _ hj))
    dsimp only
    rw [List.getD_eq_getElem?_getD, List.getD_eq_getElem?_getD, e1, List.getElem?_eq_getElem hi]
    exact e2
theorem lOut_paired {F : Value → O.α → Prop} {vs : List Value} {l : List O.α} {b : Bool} {p : Array Nat} (hp : Pm vs.length p) (pp : Paired F vs l) : Paired F (sOut b vs p) (lOut b l p) := by
  refine katRev_paired b (paired_pick (katRev_paired b pp) fun i hi => ?_)
  rw [kat_len, ← Paired.length pp]
  exact List.mem_range.mp (hp.2.mem_iff.mp hi)
theorem map_range_getD {α : Type} (d : α) (l : List α) : (List.range l.length).map (fun i => l.getD i d) = l := by
  apply List.ext_getElem
  · simp
  · intro i h1 h2
    have : i < l.length := by simpa using h1
    simp [this]
theorem lOut_perm {l : List O.α} {b : Bool} {p : Array Nat} (hp : Pm l.length p) : (lOut b l p).Perm l := by
  have h1 : (p.toList.map fun i => (katRev b l).getD i default).Perm (katRev b l) := by
    have := hp.2.map fun i => (katRev b l).getD i default
    rw [← kat_len b l, map_range_getD] at this
    exact this
  have h2 : ∀ m : List O.α, (katRev b m).Perm m := fun m => by
    cases b with
    | false => exact .refl _
    | true => exact List.reverse_perm m
  exact (h2 _).trans (h1.trans (h2 l))
theorem pick_sorted {l : List O.α} {p : Array Nat} {n : Nat} (hp : Pm n p) (hu : Up (fun i => l.getD i default) p n) : (p.toList.map fun i => l.getD i default).Pairwise O.kle := by
  rw [List.pairwise_iff_getElem]
  intro i j hi hj hij
  have hi' : i < p.size := by simpa using hi
  have hj' : j < p.size := by simpa using hj
  have := hu i j (Nat.le_of_lt hij) (by rw [← hp.1]; exact hj')
  unfold V at this
  simp only [Array.getD, hi', hj', dif_pos] at this
  simpa using this
theorem lOut_eq0 {l : List O.α} {p : Array Nat} (hp : Pm l.length p) (hu : Up (fun i => (katRev false l).getD i default) p l.length) : lOut false l p = sortL O l :=
  sortL_eq (lOut_perm hp) (pick_sorted hp hu)
theorem lOut_eq1 {l : List O.α} {p : Array Nat} (hp : Pm l.length p) (hu : Up (fun i => (katRev true l).getD i default) p l.length) : lOut true l p = (sortL O l).reverse := by
  have h1 : (p.toList.map fun i => (katRev true l).getD i default) = sortL O l := by
    refine sortL_eq ?_ (pick_sorted hp hu)
    have := lOut_perm (b := true) hp
    exact (List.reverse_perm _).symm.trans this
  show (p.toList.map fun i => (katRev true l).getD i default).reverse = _
  rw [h1]
end

section
variable {prog : Program} {w : World} {hb : Heap} {n : Nat}

/-- what a list of one type answers to the sort -/
theorem ask_one {O : KeyOrd} [Inhabited O.α] {R : O.α → VP} {T : Value} {d : Nat} {A : Around} {vs : List Value} {l : List O.α} {W : Addr → Prop} {s₁ : Shared} (b : Bool)
    (hT : ∀ a W h v, (R a).ok W h v → Looks (model prog w) h (typeOf v) T) (hT1 : (T != Value.type "tuple") = true) (hT2 : (T == T) = true) (hl : ∀ a b, LtP (R a) (R b) (O.blt a b) d)
    (hu : A.units + d < cLine) (p : Paired (fun v x => (R x).ok W s₁.heap v) vs l) (h2 : 2 ≤ vs.length) : Ask prog w A b vs O (fun i => (katRev b l).getD i default) s₁ := by
  intro s' E Q hx hk
  have p' : Paired (fun v x => (R x).ok W s'.heap v) vs l := Paired.mono p fun _ x q => (R x).st q fun a o e na => ⟨na, hx a o e⟩
  refine kas_kind h2 (fun v hv => ?_) hT1 hT2 (hk oneType' fun i j C hi hj hc => ?_)
  · obtain ⟨x, _, q⟩ := paired_mem p' v hv
    exact hT x _ _ _ q
  · have pr := katRev_paired b p'
    have hlen := Paired.length pr
    have hi' : i < (katRev b l).length := by rw [← hlen, kat_len]; exact hi
    have hj' : j < (katRev b l).length := by rw [← hlen, kat_len]; exact hj
    obtain ⟨v, e1, e2⟩ := Paired.get pr (List.getElem?_eq_getElem hi')
    obtain ⟨u, e3, e4⟩ := Paired.get pr (List.getElem?_eq_getElem hj')
    rw [keyLt'_oneType, List.getD_eq_getElem?_getD, List.getD_eq_getElem?_getD, e1, e3]
    dsimp only at hc
    rw [List.getD_eq_getElem?_getD, List.getD_eq_getElem?_getD, List.getElem?_eq_getElem hi', List.getElem?_eq_getElem hj'] at hc
    exact (hl _ _).one W A s' v u prog w _ C hu e2 e4 hc

theorem cl_sorted {O : KeyOrd} [Inhabited O.α] {R : O.α → VP} {T : Value} {d : Nat} {l : List O.α} (hT : ∀ a W h v, (R a).ok W h v → Looks (model prog w) h (typeOf v) T) (hT1 : (T != Value.type "tuple") = true) (hT2 : (T == T) = true)
    (hl : ∀ a b, LtP (R a) (R b) (O.blt a b) d) (hd : d ≤ 90) (h64 : l.length < 64) : Cl prog w hb n (.builtin "sorted") [vList R l] (vList R (sortL O l)) := by
  intro W frs A s E vs rm st hp
  cases hp with
  | cons h r =>
  cases r
  obtain ⟨lm, a, us, rfl, nw, pl, p⟩ := h
  have hlen := Paired.length p
  refine sorted_of (O := O) (key := fun i => (katRev false l).getD i default) (b := false) (.inl ⟨rfl, rfl⟩) (collect_list pl.isList ?_ (by rw [sizeLine_eq]; lia))
  have keep : ∀ c o, s.heap.get? c = some o → ((s.heap.push (seqObj "list" #[] 0)).update s.heap.objs.size (Obj.mapSeq (· ++ us.toArray))).get? c = some o := fun c o q => by
    have hlt : c < s.heap.objs.size := Heap.lt_size q
    rw [Heap.get?_update_ne _ _ _ _ (Nat.ne_of_lt hlt), Heap.get?_push_ne _ _ _ (Nat.ne_of_lt hlt)]
    exact q
  refine ⟨by lia, fun h2 => ?_, fun q h₂ D e hp hu hx hD ho => ⟨?_, ?_⟩⟩
  · exact ask_one (W := W) false hT hT1 hT2 hl (by show A.units + 1 + 1 + d < cLine; have := rm.un; lia) (Paired.mono p fun _ x q => (R x).st q fun a o e na => ⟨na, keep a o e⟩) h2
  · exact Kp.all' fun c o q => hx c o (keep c o q)
  · rw [hlen] at hp hu
    have hDs : s.heap.get? D = none := by
      cases e : s.heap.get? D with
      | none => rfl
      | some o => rw [keep D o e] at hD; cases hD
    have nWD : ¬ W D := fun q => by obtain ⟨o, e⟩ := st.wd D q; rw [hDs] at e; cases e
    rw [← lOut_eq0 hp hu]
    refine ⟨by rw [(lOut_perm hp).length_eq]; exact lm, D, sOut false us q, rfl, nWD, ⟨e, ho⟩, ?_⟩
    refine lOut_paired (by rw [hlen]; exact hp) (Paired.mono p fun _ x q => (R x).st q fun a o e na => ⟨na, hx a o (keep a o e)⟩)
theorem looks_list {α : Type} {R : α → VP} {l : List α} {W : Addr → Prop} {h : Heap} {v : Value} (p : (vList R l).ok W h v) : Looks (model prog w) h (typeOf v) (.type "list") := by
  obtain ⟨_, a, vs, rfl, _, ⟨n, e⟩, _⟩ := p
  exact (Looks.ld e).andThen .now
def txT (m : Bool) : Value := .type (if m then "bytes" else "str")
theorem looks_tx {m : Bool} {l : List Nat} {W : Addr → Prop} {h : Heap} {v : Value} (p : (vTx m l).ok W h v) : Looks (model prog w) h (typeOf v) (txT m) := by
  obtain ⟨_, t, rfl⟩ := p
  cases m <;> exact .now
end
end Mine
end

section
open PySem PySem.W PyProof.Rows PySem.Calls
set_option Elab.async false
set_option autoImplicit false
set_option linter.unusedVariables false
set_option maxRecDepth 100000
namespace Mine
def intO : KeyOrd where
  α := Int
  blt a b := decide (a < b)
  irrefl a := by simp
  trans a b c h1 h2 := by simp only [decide_eq_true_eq] at *; omega
  negTrans a b c h := by simp only [decide_eq_true_eq] at *; omega
  total a b h1 h2 := by simp only [decide_eq_false_iff_not] at *; omega
instance : DecidableEq intO.α := inferInstanceAs (DecidableEq Int)
instance : Inhabited intO.α := inferInstanceAs (Inhabited Int)
instance : DecidableEq natO.α := inferInstanceAs (DecidableEq Nat)
instance : Inhabited natO.α := inferInstanceAs (Inhabited Nat)
instance {O : KeyOrd} [DecidableEq O.α] : Inhabited (lexO O).α := ⟨([] : List O.α)⟩
instance {O : KeyOrd} [DecidableEq O.α] : DecidableEq (lexO O).α := inferInstanceAs (DecidableEq (List O.α))
/-- a tuple of ints -/
def tupV (l : List Int) : VP := vTup (l.map vInt)

section
variable {prog : Program} {w : World} {hb : Heap} {n : Nat} {A : Around} {s : Shared} {E : Value → Shared → Prop}
theorem kat_ints {b : Bool} {Q : Bool → Shared → Prop} : ∀ {vs us : List Value} {l m : List Int} {W : Addr → Prop} {h : Heap} (i : Nat) {fin : Bool}, Paired (fun v (P : VP) => P.ok W h v) vs (l.map vInt) → Paired (fun v (P : VP) => P.ok W h v) us (m.map vInt) → l.length = m.length → fin = false →
    Q (lexB (fun a b : Int => decide (a < b)) l m) s → KatLex prog w A b fin Q (vs.zip us) i s
  | [], [], [], [], W, h, i, fin, _, _, _, hf, hq => by subst hf; exact hq
  | v :: vs, u :: us, x :: l, y :: m, W, h, i, fin, .cons ⟨t, p⟩ pr, .cons ⟨t', q⟩ qr, hlen, hf, hq => by
    subst p q
    have he : SeqAt.EqAt A s (.int x t) (.int y t') (decide (x = y)) := SeqAt.EqAt.int_int x t y t'
    refine kat_cons (he prog w _ _ ?_)
    by_cases hxy : x = y
    · subst hxy
      rw [decide_eq_true rfl]
      refine kat_yes (kat_ints (i + 1) pr qr (by simpa using hlen) hf ?_)
      rw [lexB, if_pos rfl] at hq
      exact hq
    · rw [decide_eq_false hxy]
      rw [lexB, if_neg hxy] at hq
      refine kat_no ?_
      cases hb : (b && i == 0) with
      | true => exact oneLt_int hq
      | false => exact kat_one _ _ (PyProof.Rows.lt_int hq)
  | [], [], [], _ :: _, _, _, _, _, _, _, h, _, _ => by simp at h
  | [], [], _ :: _, _, _, _, _, _, h, _, _, _, _ => by cases h
  | [], _ :: _, [], [], _, _, _, _, _, h, _, _, _ => by cases h
  | [], _ :: _, [], _ :: _, _, _, _, _, _, _, h, _, _ => by simp at h
  | [], _ :: _, _ :: _, _, _, _, _, _, h, _, _, _, _ => by cases h
  | _ :: _, _, [], _, _, _, _, _, h, _, _, _, _ => by cases h
  | _ :: _, [], _ :: _, [], _, _, _, _, _, _, h, _, _ => by simp at h
  | _ :: _, [], _ :: _, _ :: _, _, _, _, _, _, h, _, _, _ => by cases h
  | _ :: _, _ :: _, _ :: _, [], _, _, _, _, _, _, h, _, _ => by simp at h

theorem tups_firsts {W : Addr → Prop} {h : Heap} : ∀ {vs : List Value} {l : List (List Int)}, Paired (fun v x => (tupV x).ok W h v) vs l → (∀ x ∈ l, x ≠ []) → ∃ fs, KatTups h vs fs ∧ fs.length = vs.length ∧ ∀ f ∈ fs, ∃ i t, f = Value.int i t
  | _, _, .nil, _ => ⟨[], .nil, rfl, fun _ h => by cases h⟩
  | _, _, .cons (b := x) ⟨a, us, e, nw, ⟨o, ho, hc, k, hd⟩, p⟩ r, hne => by
    subst e
    obtain ⟨fs, t, hl, hi⟩ := tups_firsts r fun y hy => hne y (.tail _ hy)
    have hx := hne x (.head _)
    match x, hx, us, p with
    | i :: x', _, u :: us', .cons ⟨tk, pu⟩ _ =>
      refine ⟨u :: fs, KatTups.cons ho hc hd (by simp) t, by simp [hl], fun f hf => ?_⟩
      rcases List.mem_cons.mp hf with rfl | hf
      · exact ⟨i, tk, pu⟩
      · exact hi f hf
theorem ask_tup {W : Addr → Prop} {vs : List Value} {l : List (lexO intO).α} {s₁ : Shared} {k : Nat} (b : Bool) (hk : ∀ x ∈ l, (show List Int from x).length = k + 1) (p : Paired (fun v (x : (lexO intO).α) => (tupV x).ok W s₁.heap v) vs l) (h2 : 2 ≤ vs.length) :
    Ask prog w A b vs (lexO intO) (fun i => (katRev b l).getD i default) s₁ := by
  intro s' E Q hx hq
  have p' : Paired (fun v (x : (lexO intO).α) => (tupV x).ok W s'.heap v) vs l := Paired.mono p fun _ x q => (tupV x).st q fun a o e na => ⟨na, hx a o e⟩
  obtain ⟨fs, t, hl, hi⟩ := tups_firsts p' fun x hx e => by have := hk x hx; rw [e] at this; simp at this
  refine kat_kind (T := .type "int") t (by omega) (fun v hv => ?_) rfl (hq _ fun i j C hi hj hc => ?_)
  · obtain ⟨i, tk, rfl⟩ := hi v hv
    exact .now
  · have pr := katRev_paired b p'
    have hlen := Paired.length pr
    have hi' : i < (katRev b l).length := by rw [← hlen, kat_len]; exact hi
    have hj' : j < (katRev b l).length := by rw [← hlen, kat_len]; exact hj
    obtain ⟨v, e1, e2⟩ := Paired.get pr (List.getElem?_eq_getElem hi')
    obtain ⟨u, e3, e4⟩ := Paired.get pr (List.getElem?_eq_getElem hj')
    rw [List.getD_eq_getElem?_getD, List.getD_eq_getElem?_getD, e1, e3]
    dsimp only at hc
    rw [List.getD_eq_getElem?_getD, List.getD_eq_getElem?_getD, List.getElem?_eq_getElem hi', List.getElem?_eq_getElem hj'] at hc
    have mem : ∀ x ∈ katRev b l, x ∈ l := fun x hx => by cases b with
      | false => exact hx
      | true => exact List.mem_reverse.mp hx
    have l1 := hk _ (mem _ (List.getElem_mem hi'))
    have l2 := hk _ (mem _ (List.getElem_mem hj'))
    obtain ⟨a1, us1, rfl, _, ⟨o1, ho1, hc1, k1, hd1⟩, p1⟩ := e2
    obtain ⟨a2, us2, rfl, _, ⟨o2, ho2, hc2, k2, hd2⟩, p2⟩ := e4
    have z1 := (Paired.length p1).trans (List.length_map (as := (show List Int from (katRev b l)[i])) vInt)
    have z2 := (Paired.length p2).trans (List.length_map (as := (show List Int from (katRev b l)[j])) vInt)
    have hsz : us1.length = us2.length := by rw [z1, z2]; exact l1.trans l2.symm
    refine kat_lt ho1 hd1 ho2 hd2 ?_
    exact kat_ints 0 p1 p2 (l1.trans l2.symm) (by simp [hsz]) hc

theorem cl_sortedR {l : List (lexO intO).α} {k : Nat} {W : Addr → Prop} {frs : List Env} {A : Around} {s : Shared} {E : Value → Shared → Prop} {v : Value} (hk : ∀ x ∈ l, (show List Int from x).length = k + 1) (h64 : l.length < 64) (st : St hb W frs s) (hv : (vList (α := (lexO intO).α) tupV l).ok W s.heap v) :
    wpAny (model prog w) A (call (.builtin "sorted") [v] [(Str.ofString "reverse", .bool true)]) (fun z s' => Kp (frS frs) s s' ∧ (vList (α := (lexO intO).α) tupV (sortL (lexO intO) l).reverse).ok W s'.heap z) E s := by
  obtain ⟨lm, a, us, rfl, nw, pl, p⟩ := hv
  have hlen := Paired.length p
  refine sorted_of (O := lexO intO) (key := fun i => (katRev true l).getD i default) (b := true) (.inr rfl) (collect_list pl.isList ?_ (by rw [sizeLine_eq]; omega))
  have keep : ∀ c o, s.heap.get? c = some o → ((s.heap.push (seqObj "list" #[] 0)).update s.heap.objs.size (Obj.mapSeq (· ++ us.toArray))).get? c = some o := fun c o q => by
    have hlt : c < s.heap.objs.size := Heap.lt_size q
    rw [Heap.get?_update_ne _ _ _ _ (Nat.ne_of_lt hlt), Heap.get?_push_ne _ _ _ (Nat.ne_of_lt hlt)]
    exact q
  refine ⟨by omega, fun h2 => ?_, fun q h₂ D e hp hu hx hD ho => ⟨?_, ?_⟩⟩
  · exact ask_tup (W := W) true hk (Paired.mono p fun _ x q => (tupV x).st q fun a o e na => ⟨na, keep a o e⟩) h2
  · exact Kp.all' fun c o q => hx c o (keep c o q)
  · rw [hlen] at hp hu
    have hDs : s.heap.get? D = none := by
      cases e : s.heap.get? D with
      | none => rfl
      | some o => rw [keep D o e] at hD; cases hD
    have nWD : ¬ W D := fun q => by obtain ⟨o, e⟩ := st.wd D q; rw [hDs] at e; cases e
    rw [← lOut_eq1 (O := lexO intO) hp hu]
    refine ⟨by rw [(lOut_perm (O := lexO intO) hp).length_eq]; exact lm, D, sOut true us q, rfl, nWD, ⟨e, ho⟩, ?_⟩
    exact lOut_paired (by rw [hlen]; exact hp) (Paired.mono p fun _ x q => (tupV x).st q fun a o e na => ⟨na, hx a o (keep a o e)⟩)
theorem ev_callBR {env : Env} {σ : List (Str × VP)} {f e : Expr} {id : String} {kws : List Keyword} {v₀ : Value} {kn : Str} {pos : Pos} {P T : VP} (hf : Ev prog w hb n env σ f (vIs (.builtin id))) (he : Ev prog w hb n env σ e P)
    (hkw : ∀ (A : Around) (E : Value → Shared → Prop) (Q : List Value → Shared → Prop) (s : Shared), Q [v₀] s → wpAny (model prog w) A (evalAll ((backToKw pos (keywordEach kws env)).map (·.2))) Q E s) (hkn : (backToKw pos (keywordEach kws env)).filterMap (·.1) = [kn])
    (hcl : ∀ (W : Addr → Prop) (frs : List Env) (A : Around) (s : Shared) (E : Value → Shared → Prop) (v : Value), Rm n frs A → St hb W frs s → P.ok W s.heap v → wpAny (model prog w) A (call (.builtin id) [v] [(kn, v₀)]) (fun z s' => Kp (frS frs) s s' ∧ T.ok W s'.heap z) E s)
    (hc : eval (.Call f [e] kws pos) env = (do callWith pos (← eval f env) [] (backTo pos (starEach [e] env)) (backToKw pos (keywordEach kws env))))
    (hst : starEach [e] env = [(false, eval e env)]) (h1 : backTo pos (starEach [e] env) = (false, eval e env) :: backTo pos (starEach [] env)) (h2 : (backTo pos (starEach [e] env)).any (·.1) = false)
    (h3 : (backToKw pos (keywordEach kws env)).all (·.1.isSome) = true) (h4 : (backToKw pos (keywordEach kws env)).any (·.1.isNone) = false) :
    Ev prog w hb n env σ (.Call f [e] kws pos) T := fun W frs A s E rm o => by
  rw [hc]
  exact wpAny_bind (wpAny_mono (hf W frs A s E rm o) (fun v s₁ ⟨k₁, p₁⟩ => by
    obtain rfl : v = .builtin id := p₁
    have hev := evl_cons (pos := pos) he evl_nil hst W frs A s₁ E rm (o.kp k₁)
    refine callWith_kw (M := model prog w) (A := A) (E := E) (s := s₁) (env := env) (pos := pos) (id := id) (e := e) (rest := []) (kws := kws) ?_ h1 h2 h3 h4
    refine wpAny_mono hev (fun vs s₂ ⟨k₂, p₂⟩ => ?_) fun _ _ x => x
    refine hkw _ _ _ _ ?_
    rw [hkn]
    cases p₂ with
    | cons h r =>
    cases r
    exact wpAny_mono (hcl W frs A s₂ E _ rm ((o.toSt.kp k₁).kp k₂) h) (fun z s₃ ⟨k₃, p₃⟩ => ⟨(k₁.trans k₂).trans k₃, p₃⟩) fun _ _ x => x) fun _ _ x => x)
theorem kw_rev {env : Env} {kc : Nat} {kp kq pos : Pos} : ∀ (A : Around) (E : Value → Shared → Prop) (Q : List Value → Shared → Prop) (s : Shared), Q [.bool true] s → wpAny (model prog w) A (evalAll ((backToKw pos (keywordEach [⟨some "reverse", .Constant (.bool true) kc kp, kq⟩] env)).map (·.2))) Q E s :=
  fun A E Q s h => kws_cons (fun _ _ _ => kws_nil h)
theorem ev_sortedR {env : Env} {σ : List (Str × VP)} {f e : Expr} {kc : Nat} {kp kq pos : Pos} {l : List (lexO intO).α} {k : Nat} (hf : Ev prog w hb n env σ f (vIs (.builtin "sorted"))) (he : Ev prog w hb n env σ e (vList (α := (lexO intO).α) tupV l)) (hk : ∀ x ∈ l, (show List Int from x).length = k + 1) (h64 : l.length < 64)
    (hc : eval (.Call f [e] [⟨some "reverse", .Constant (.bool true) kc kp, kq⟩] pos) env = (do callWith pos (← eval f env) [] (backTo pos (starEach [e] env)) (backToKw pos (keywordEach [⟨some "reverse", .Constant (.bool true) kc kp, kq⟩] env))) := by rfl)
    (hst : starEach [e] env = [(false, eval e env)] := by rfl) (h1 : backTo pos (starEach [e] env) = (false, eval e env) :: backTo pos (starEach [] env) := by rfl) (h2 : (backTo pos (starEach [e] env)).any (·.1) = false := by rfl) :
    Ev prog w hb n env σ (.Call f [e] [⟨some "reverse", .Constant (.bool true) kc kp, kq⟩] pos) (vList (α := (lexO intO).α) tupV (sortL (lexO intO) l).reverse) :=
  ev_callBR (kn := "reverse") (v₀ := .bool true) hf he kw_rev rfl (fun W frs A s E v rm st hv => cl_sortedR hk h64 st hv) hc hst h1 h2 rfl rfl
end
end Mine
end

section
open PySem PySem.W PyProof.Rows PySem.Calls
set_option Elab.async false
set_option autoImplicit false
set_option linter.unusedVariables false
set_option maxRecDepth 100000
namespace Mine
section
variable {prog : Program} {w : World} {hb : Heap} {n : Nat} {env : Env} {σ : List (Str × VP)}

def AsgL (prog : Program) (w : World) (hb : Heap) (n : Nat) (env : Env) (σ : List (Str × VP)) (es : List Expr) (Ps : List VP) (τ : List (Str × VP)) : Prop :=
  ∀ (W : Addr → Prop) (frs : List Env) (A : Around) (s : Shared) (E : Value → Shared → Prop) (vs : List Value), Rm n frs A → Ok hb W frs env σ s → Paired (fun v (P : VP) => P.ok W s.heap v) vs Ps →
    wpAny (model prog w) A (assignInOrder ((assignEach es env).map (·.2)) vs) (fun _ s' => (∃ h' tk, s' = { s with heap := h', toks := tk } ∧ ∀ a o, s.heap.get? a = some o → ¬ OwnN env (τ.map (·.1)) a → h'.get? a = some o) ∧ Ok hb W frs env (τ ++ σ) s') E s
theorem asgL_nil : AsgL prog w hb n env σ [] [] [] := fun W frs A s E vs rm o p => assignInOrder_nil ⟨⟨s.heap, s.toks, rfl, fun _ _ e _ => e⟩, o⟩
theorem OwnN.mono {l l' : List Str} {a : Addr} (h : OwnN env l a) (hs : ∀ y ∈ l, y ∈ l') : OwnN env l' a := h.imp id fun ⟨y, hy, e⟩ => ⟨y, hs y hy, e⟩
theorem asgL_cons {t : Expr} {es : List Expr} {P : VP} {Ps : List VP} {τ τ₂ : List (Str × VP)} (ha : Asg prog w hb n env σ t P τ) (hr : AsgL prog w hb n env (τ ++ σ) es Ps τ₂) (hown : ∀ W frs s a, Ok hb W frs env σ s → OwnN env (τ.map (·.1)) a → W a)
    (he : assignEach (t :: es) env = (false, assign t env) :: assignEach es env := by rfl) : AsgL prog w hb n env σ (t :: es) (P :: Ps) (τ₂ ++ τ) := fun W frs A s E vs rm o p => by
  cases p with
  | cons h1 h2 =>
  rw [he]
  refine assignInOrder_cons (wpAny_mono (ha W frs A s E _ rm o h1) (fun _ s₁ h => ?_) fun _ _ x => x)
  obtain ⟨⟨h', tk, rfl, hk⟩, o'⟩ := h
  refine wpAny_mono (hr W frs A _ E _ rm o' (Paired.mono h2 fun _ P q => P.st q fun a ob e na => ⟨na, hk a ob e fun q => na (hown W frs s a o q)⟩)) (fun _ s₂ h => ?_) fun _ _ x => x
  obtain ⟨⟨h₂, tk₂, rfl, hk₂⟩, o₂⟩ := h
  refine ⟨⟨h₂, tk₂, rfl, fun a ob e na => hk₂ a ob (hk a ob e fun q => na (q.mono fun y hy => by rw [List.map_append]; exact List.mem_append_right _ hy)) fun q => na (q.mono fun y hy => by rw [List.map_append]; exact List.mem_append_left _ hy)⟩, ?_⟩
  rw [List.append_assoc]
  exact o₂
theorem ownN_W {l : List Str} : ∀ (W : Addr → Prop) frs s a, Ok hb W frs env σ s → OwnN env l a → W a := fun W frs s a o q => q.elim (fun q => q ▸ o.wl) fun ⟨y, _, e⟩ => o.wc y a e

theorem asg_tup {es : List Expr} {k : Nat} {pos : Pos} {Ps : List VP} {τ : List (Str × VP)} (h : AsgL prog w hb n env σ es Ps τ) (hl : (assignEach es env).length = Ps.length := by rfl) (hst : (assignEach es env).findIdx? (·.1) = none := by rfl) : Asg prog w hb n env σ (.Tuple es k pos) (vTup Ps) τ := by
  rintro W frs A s E v rm o ⟨a, vs, rfl, nw, ht, p⟩
  have hlen := Paired.length p
  refine wpAny_assign_Tuple rm.hh ht (by rw [hl, List.size_toArray, hlen]) hst fun h' hx => ?_
  have hfr : ∀ a o, s.heap.get? a = some o → h'.get? a = some o := fun a o e => hx a o (Nat.ne_of_lt (Heap.lt_size e)) e
  have k₁ : Kp (frS frs) s { s with heap := h' } := Kp.all' hfr
  refine wpAny_mono (h W frs A _ E vs rm (o.kp k₁) (pmono p k₁.same o.wf)) (fun _ s₂ hq => ?_) fun _ _ x => x
  obtain ⟨⟨h₂, tk₂, rfl, hk₂⟩, o₂⟩ := hq
  exact ⟨⟨h₂, tk₂, rfl, fun a ob e na => hk₂ a ob (hfr a ob e) na⟩, o₂⟩

theorem asg_tup2 {x y : Str} {px py pos : Pos} {k : Nat} {P Q : VP} (hx : StoreOk env x) (hy : StoreOk env y) : Asg prog w hb n env σ (.Tuple [.Name x px, .Name y py] k pos) (vTup [P, Q]) [(y, Q), (x, P)] :=
  asg_tup (asgL_cons (asg_name hx) (asgL_cons (asg_name hy) asgL_nil ownN_W rfl) ownN_W rfl) rfl rfl
theorem asg_tup3 {x y z : Str} {px py pz pos : Pos} {k : Nat} {P Q R : VP} (hx : StoreOk env x) (hy : StoreOk env y) (hz : StoreOk env z) : Asg prog w hb n env σ (.Tuple [.Name x px, .Name y py, .Name z pz] k pos) (vTup [P, Q, R]) [(z, R), (y, Q), (x, P)] :=
  asg_tup (asgL_cons (asg_name hx) (asgL_cons (asg_name hy) (asgL_cons (asg_name hz) asgL_nil ownN_W rfl) ownN_W rfl) ownN_W rfl) rfl rfl

theorem paired_of {α : Type} {F : Value → α → Prop} : ∀ {us : List Value} {l : List α}, us.length = l.length → (∀ (i : Nat) v, us[i]? = some v → ∃ x, l[i]? = some x ∧ F v x) → Paired F us l
  | [], [], _, _ => .nil
  | [], _ :: _, h, _ => by simp at h
  | _ :: _, [], h, _ => by simp at h
  | u :: us, x :: l, hl, hi => by
    refine .cons ?_ (paired_of (by simpa using hl) fun i v e => by simpa using hi (i + 1) v (by simpa using e))
    obtain ⟨y, e1, e2⟩ := hi 0 u rfl
    have : x = y := by simpa using e1
    exact this ▸ e2
theorem cl_listRange {a b : Int} (h1 : -1000 ≤ a ∧ a ≤ 1000) (h2 : -1000 ≤ b ∧ b ≤ 1000) (h3 : b - a ≤ 1000) : Cl prog w hb n (.type "list") [vRange a b] (vList vInt (rangeL a b)) := by
  intro W frs A s E vs rm st hp
  cases hp with
  | cons h r =>
  cases r
  obtain ⟨r, t, u, z, rfl, nw, hr⟩ := h
  have hsz : Builtin.Range.rangeSize a b 1 = (((rangeL a b).length : Nat) : Int) := by
    rw [rangeL_len]
    unfold Builtin.Range.rangeSize
    rw [if_pos (by decide)]
    split <;> omega
  have hlm : (rangeL a b).length ≤ 1000 := by rw [rangeL_len]; omega
  refine call_list_range rm.hh hr (by
    unfold Builtin.Range.small
    rw [hsz, rangeL_len]
    simp only [Builtin.Range.rangeFitsLong, Bool.and_eq_true, decide_eq_true_eq, Bool.or_eq_true, beq_iff_eq]
    rw [if_pos (by decide)]
    simp only [Bool.and_eq_true, decide_eq_true_eq]
    omega) hsz (by omega) fun h' tk acc c hk hS hacc => ⟨Kp.all hk, hlm, _, acc.toList, rfl, st.fresh, ⟨c, by simpa using hS⟩, ?_⟩
  refine paired_of (by rw [Array.length_toList]; exact hacc.1) fun i v e => ?_
  obtain ⟨t, ht⟩ := hacc.2 i v (by simpa using e)
  have hlt : i < (rangeL a b).length := by rw [← hacc.1]; exact (Array.getElem?_eq_some_iff.mp (by simpa using e)).1
  rw [rangeL_len] at hlt
  refine ⟨a + (i : Int), ?_, t, by rw [ht]; simp⟩
  simp [rangeL, hlt]

theorem cp_n {α β : Type} {R : α → VP} {R' : β → VP} {xs : List α} {p : α → Bool} {g : α → β} {scope : Scope} {t : Str} {elt iter : Expr} {ifs : List Expr} {pt pos : Pos} {Pi : VP}
    (hi : Ev prog w hb n env σ iter Pi) (hit : IterP prog w hb Pi xs R)
    (ht : ∀ C x, x ∈ xs → Trs prog w hb n (cE scope env C) ((t, R x) :: restr σ scope) ifs (p x))
    (he : ∀ C x, x ∈ xs → p x = true → Ev prog w hb n (cE scope env C) ((t, R x) :: restr σ scope) elt (R' (g x)))
    (lm : ((xs.filter p).map g).length ≤ 1000)
    (hs : scopeOk scope = true := by decide +kernel) (hf : freeOk env σ scope = true := by rfl) (htn : tgtOk scope t = true := by decide +kernel) (hfold : ∀ x, foldedSetIterable iter env x = pure x := by intro _; rfl) :
    Cp prog w hb n env σ (.ListComp elt [⟨.Name t pt, iter, ifs, 0⟩] scope pos) scope iter (vList R' ((xs.filter p).map g)) :=
  cp_1 (τ := fun x => [(t, R x)]) hi hit (fun C x hx => asg_name (storeOk_cE hs htn)) (fun x => tgt_all htn) ht he (fun x y P e => tgt_look htn e) lm hs hf hfold
theorem cp_nn {α β γ : Type} {R : α → VP} {R₂ : γ → VP} {R' : β → VP} {xs : List α} {ys : α → List γ} {g : α → γ → β} {scope : Scope} {t t₂ : Str} {elt iter iter₂ : Expr} {pt pt₂ pos : Pos} {Pi : VP} {Pi₂ : α → VP}
    (hi : Ev prog w hb n env σ iter Pi) (hit : IterP prog w hb Pi xs R)
    (hi₂ : ∀ C x, x ∈ xs → Ev prog w hb n (cE scope env C) ((t, R x) :: restr σ scope) iter₂ (Pi₂ x)) (hit₂ : ∀ x, x ∈ xs → IterP prog w hb (Pi₂ x) (ys x) R₂)
    (he : ∀ C x y, x ∈ xs → y ∈ ys x → Ev prog w hb n (cE scope env C) ((t₂, R₂ y) :: (t, R x) :: restr σ scope) elt (R' (g x y)))
    (lm : (xs.flatMap fun x => (ys x).map (g x)).length ≤ 1000)
    (hs : scopeOk scope = true := by decide +kernel) (hf : freeOk env σ scope = true := by rfl) (htn : tgtOk scope t = true := by decide +kernel) (htn₂ : tgtOk scope t₂ = true := by decide +kernel) (htt : t ≠ t₂ := by decide +kernel)
    (hfold : ∀ x, foldedSetIterable iter env x = pure x := by intro _; rfl) (hfold₂ : ∀ C x, foldedSetIterable iter₂ (cE scope env C) x = pure x := by intro _ _; rfl) :
    Cp prog w hb n env σ (.ListComp elt [⟨.Name t pt, iter, [], 0⟩, ⟨.Name t₂ pt₂, iter₂, [], 0⟩] scope pos) scope iter (vList R' (xs.flatMap fun x => (ys x).map (g x))) :=
  cp_2 (τ := fun x => [(t, R x)]) (τ₂ := fun x y => [(t₂, R₂ y)]) hi hit (fun C x hx => asg_name (storeOk_cE hs htn)) (fun x => tgt_all htn) (fun x y P e => tgt_look htn e) hi₂ hit₂
    (fun C x y hx hy => asg_name (storeOk_cE hs htn₂)) (fun x z => tgt_all htn₂) (fun x z y P e => by
      have hy : y ≠ t₂ := fun q => by
        subst q
        have e' : List.lookup y ((t, R x) :: restr σ scope) = some P := e
        rw [List.lookup_cons, beq_eq_false_iff_ne.mpr (Ne.symm htt)] at e'
        have := (restr_look e').2
        rcases tgtOk.cases htn₂ with q | q <;> (rw [q] at this; cases this)
      show List.lookup y ((t₂, R₂ z) :: _) = some P
      rw [List.lookup_cons, beq_eq_false_iff_ne.mpr hy]
      exact e) he lm hs hf hfold hfold₂
theorem mem_rangeL {a b x : Int} : x ∈ rangeL a b ↔ a ≤ x ∧ x < b := by
  unfold rangeL
  simp only [List.mem_map, List.mem_range]
  constructor
  · rintro ⟨i, h, rfl⟩; omega
  · rintro ⟨h1, h2⟩; exact ⟨(x - a).toNat, by omega, by omega⟩
end
end Mine
end

section
open PySem PySem.W PyProof.Rows PySem.Calls
set_option Elab.async false
set_option autoImplicit false
set_option linter.unusedVariables false
set_option maxRecDepth 100000
namespace Mine
noncomputable def f208 (w : World) : DefOf w 208 := ⟨(_, _), rfl, rfl⟩
section
variable {α : Type} [DecidableEq α]
def lkNames (rows : List (List α)) : List α := rows.flatMap fun r => r.map fun x => x
def lkFirst (rows : List (List α)) : Int := ((lkNames rows).length : Int) - (((rangeL 0 (lkNames rows).length).filter fun k => (lkNames rows)[k.toNat]?.elim true fun x => !decide (x ∈ (lkNames rows).take k.toNat)).length : Int)
def lkTiesI (rows : List (List α)) : List (List Int) := (rangeL 0 rows.length).flatMap fun i => (rangeL 0 i).map fun j => ([(((rows.getD i.toNat []).filter fun x => decide (x ∈ rows.getD j.toNat [])).length : Int), i, j] : List Int)
def lkTies (rows : List (List α)) : List (lexO intO).α := lkTiesI rows
def lkStep (st : Int × List Int) (t : List Int) : Int × List Int :=
  if st.2.getD (t.getD 1 0).toNat 0 = st.2.getD (t.getD 2 0).toNat 0 then st
  else (st.1 - t.getD 0 0, st.2.map fun one => if one = st.2.getD (t.getD 2 0).toNat 0 then st.2.getD (t.getD 1 0).toNat 0 else one)
def lkAll (rows : List (List α)) : List (List Int) := (sortL (lexO intO) (lkTies rows)).reverse
def lack (rows : List (List α)) : Int := ((lkAll rows).foldl lkStep (lkFirst rows, rangeL 0 rows.length)).1
end
theorem lkTies_mem {α : Type} [DecidableEq α] {rows : List (List α)} {t : List Int} (h : t ∈ lkTies rows) : ∃ k i j : Int, t = [k, i, j] ∧ 0 ≤ j ∧ j < i ∧ i < rows.length := by
  have h : t ∈ lkTiesI rows := h
  unfold lkTiesI at h
  obtain ⟨i, hi, h⟩ := List.mem_flatMap.mp h
  obtain ⟨j, hj, h⟩ := List.mem_map.mp h
  obtain ⟨a, b⟩ := mem_rangeL.mp hi
  obtain ⟨c, d⟩ := mem_rangeL.mp hj
  exact ⟨_, i, j, h.symm, c, d, b⟩
theorem lkStep_len (st : Int × List Int) (t : List Int) : (lkStep st t).2.length = st.2.length := by
  unfold lkStep; split <;> simp
theorem sum_le {l : List Nat} {b : Nat} (h : ∀ x ∈ l, x ≤ b) : l.sum ≤ l.length * b := by
  induction l with
  | nil => simp
  | cons x r ih =>
    have h1 := h x (.head _)
    have h2 := ih fun y hy => h y (.tail _ hy)
    rw [List.sum_cons, List.length_cons, Nat.succ_mul]
    lia
theorem fm_len {α β : Type} {l : List α} {f : α → List β} {b : Nat} (h : ∀ x ∈ l, (f x).length ≤ b) : (l.flatMap f).length ≤ l.length * b := by
  rw [List.length_flatMap]
  have := sum_le (l := l.map fun a => (f a).length) (b := b) (by intro x hx; obtain ⟨a, ha, rfl⟩ := List.mem_map.mp hx; exact h a ha)
  simpa using this
theorem lkNames_len {α : Type} {rows : List (List α)} (h : rows.length ≤ 10) (hr : ∀ r ∈ rows, r.length ≤ 10) : (rows.flatMap fun r => r.map fun x => x).length ≤ 100 := by
  have := fm_len (l := rows) (f := fun r => r.map fun x => x) (b := 10) (fun r hm => by simpa using hr r hm)
  have h2 : rows.length * 10 ≤ 10 * 10 := Nat.mul_le_mul_right 10 h
  lia
theorem lkTies_len {α : Type} [DecidableEq α] {rows : List (List α)} (h : rows.length ≤ 10) : (lkTies rows).length ≤ 45 := by
  have e : (lkTiesI rows).length = ((List.range rows.length).map fun i => i).sum := by
    unfold lkTiesI rangeL
    rw [List.length_flatMap, List.map_map]
    simp only [Int.sub_zero, Int.toNat_natCast]
    congr 1
    refine List.map_congr_left fun i hi => ?_
    show (List.map _ _).length = i
    rw [List.length_map, List.length_map, List.length_range]
    dsimp only
    lia
  show (lkTiesI rows).length ≤ 45
  rw [e]
  match rows.length, h with
  | 0, _ | 1, _ | 2, _ | 3, _ | 4, _ | 5, _ | 6, _ | 7, _ | 8, _ | 9, _ | 10, _ => decide
  | k + 11, h => lia

section
variable {prog : Program} {w : World} {hb : Heap} {n : Nat} {mg mb : Str → Option Value}
theorem fn_lack (G : Gd w hb mg mb) : FnAt hb 208 (f208 w).1.1 (f208 w).1.2 := fnAt G (f208 w) rfl rfl rfl rfl rfl rfl rfl
theorem foldl_take {α β : Type} {f : β → α → β} {b : β} {l : List α} {k : Nat} {x : α} (h : l[k]? = some x) : (l.take (k + 1)).foldl f b = f ((l.take k).foldl f b) x := by
  rw [List.take_add_one, h, List.foldl_append]; rfl

theorem cl_lack (G : Gd w hb mg mb) {α : Type} [Inhabited α] [DecidableEq α] {R : α → VP} (hR : Inj R) {d : Nat} (hE : ∀ a b, EqP (R a) (R b) (decide (a = b)) d) (hd : d ≤ 50) (rows : List (List α)) (h10 : rows.length ≤ 10) (hr10 : ∀ r ∈ rows, r.length ≤ 10) :
    Cl prog w hb (n + 1) (.ref 208) [vList (vList R) rows] (vInt (lack rows)) := by
  intro W frs A s E vs rm st hp
  cases hp with
  | cons h1 h2 =>
  cases h2
  rename_i v
  have nl := lkNames_len h10 hr10
  have tl := lkTies_len h10
  have nl' : (lkNames rows).length ≤ 100 := nl
  refine wpAny_call (fn_enter G (fn_lack G) (binds := [("rows", v)]) (Ps := [vList (vList R) rows]) rm st (BindsTo.of_eq rfl) (.cons h1 .nil) (by simp) rfl fun s₁ i₁ => ?_)
  have rm' := rm_deeper (env := fE (f208 w).1.1 s.heap.objs.size 208) rm
  refine seq_next (x_assign (P := vList R (lkNames rows)) i₁ rm' (ev_cp (cp_nn (R := vList R) (R₂ := R) (R' := R) (xs := rows) (ys := fun r => r) (g := fun r x => x) (ev_name rfl) iterP_list (fun C x hx => ev_name (P := vList R x) rfl) (fun x hx => iterP_list) (fun C x y hx hy => ev_name rfl) (by lia))) (.inr ⟨rfl, _, rfl⟩)) fun s₂ i₂ => ?_
  refine seq_next (x_assign (P := vInt (lkFirst rows)) i₂ rm' (ev_bin (ev_callB (ev_blt G rfl rfl (by decide) rfl) (evl_cons (ev_name (P := vList R (lkNames rows)) rfl) evl_nil) cl_len)
    (ev_callB (ev_blt G rfl rfl (by decide) rfl) (evl_cons (ev_filter (R := vInt) (xs := rangeL 0 (lkNames rows).length) (fun k => (lkNames rows)[k.toNat]?.elim true fun x => !decide (x ∈ (lkNames rows).take k.toNat))
        (ev_callT (ev_blt G rfl rfl (by decide) rfl) (evl_cons (ev_callB (ev_blt G rfl rfl (by decide) rfl) (evl_cons (ev_name (P := vList R (lkNames rows)) rfl) evl_nil) cl_len) evl_nil) cl_range1) (iterP_range (by lia) (by lia)) (fun C k hk => ?_) (by rw [rangeL_len]; lia)) evl_nil) cl_len) op_sub_int) (.inl rfl)) fun s₃ i₃ => ?_
  · obtain ⟨k1, k2⟩ := mem_rangeL.mp hk
    have hlt : k.toNat < (lkNames rows).length := by lia
    rw [List.getElem?_eq_getElem hlt]
    exact tr_cmp (ev_item (l := lkNames rows) (k := k) (ev_name rfl) (ev_name rfl) k1 (List.getElem?_eq_getElem hlt)) (ev_take (l := lkNames rows) (k := k) (ev_name rfl) (ev_name rfl) k1) (op_notIn hR hE (by lia) _ _)
  have tl' : (lkTies rows).length ≤ 1000 := by lia
  refine seq_next (x_comp (T := vList (α := (lexO intO).α) tupV (lkTies rows)) i₃ rm' (cp_nn (R := vInt) (R₂ := vInt) (R' := (tupV : (lexO intO).α → VP)) (xs := rangeL 0 rows.length) (ys := fun i => rangeL 0 i) (g := fun i j => ([(((rows.getD i.toNat []).filter fun x => decide (x ∈ rows.getD j.toNat [])).length : Int), i, j] : List Int))
    (ev_callT (ev_blt G rfl rfl (by decide) rfl) (evl_cons (ev_callB (ev_blt G rfl rfl (by decide) rfl) (evl_cons (ev_name (P := vList (vList R) rows) rfl) evl_nil) cl_len) evl_nil) cl_range1) (iterP_range (by lia) (by lia))
    (fun C i hi => ev_callT (ev_blt G rfl rfl (by decide) rfl) (evl_cons (ev_name (P := vInt i) rfl) evl_nil) cl_range1) (fun i hi => iterP_range (by lia) (by have := mem_rangeL.mp hi; lia)) (fun C i j hi hj => ?_) tl') (.inl rfl)) fun s₄ i₄ => ?_
  · have hi' := mem_rangeL.mp hi
    have hj' := mem_rangeL.mp hj
    have li : i.toNat < rows.length := by lia
    have lj : j.toNat < rows.length := by lia
    have e1 : rows.getD i.toNat [] = rows[i.toNat] := by simp [li]
    have e2 : rows.getD j.toNat [] = rows[j.toNat] := by simp [lj]
    rw [e1, e2]
    have rl := hr10 _ (List.getElem_mem li)
    exact ev_tuple (evl_cons (ev_callB (ev_blt G rfl rfl (by decide) rfl) (evl_cons (ev_filter (R := R) (xs := rows[i.toNat]) (fun x => decide (x ∈ rows[j.toNat])) (ev_item (l := rows) (k := i) (ev_name rfl) (ev_name rfl) (by lia) (List.getElem?_eq_getElem li)) iterP_list
      (fun C' x hx => tr_cmp (ev_name (P := R x) rfl) (ev_item (l := rows) (k := j) (ev_name rfl) (ev_name rfl) (by lia) (List.getElem?_eq_getElem lj)) (op_in hR hE (by lia) _ _)) (by lia)) evl_nil) cl_len) (evl_cons (ev_name rfl) (evl_cons (ev_name rfl) evl_nil))) (by simp)
  refine seq_next (x_assign (P := vList vInt (rangeL 0 rows.length)) i₄ rm' (ev_callT (ev_blt G rfl rfl (by decide) rfl) (evl_cons (ev_callT (ev_blt G rfl rfl (by decide) rfl) (evl_cons (ev_callB (ev_blt G rfl rfl (by decide) rfl) (evl_cons (ev_name (P := vList (vList R) rows) rfl) evl_nil) cl_len) evl_nil) cl_range1) evl_nil)
    (cl_listRange (by lia) (by lia) (by lia))) (.inr ⟨rfl, _, rfl⟩)) fun s₅ i₅ => ?_
  have inv : ∀ (l : List (List Int)) (st : Int × List Int), (l.foldl lkStep st).2.length = st.2.length := by
    intro l
    induction l with
    | nil => intro st; rfl
    | cons t r ih => intro st; rw [List.foldl_cons, ih, lkStep_len]
  have hmem : ∀ t ∈ (sortL (lexO intO) (lkTies rows)).reverse, ∃ k i j : Int, t = ([k, i, j] : List Int) ∧ 0 ≤ j ∧ j < i ∧ i < rows.length := fun t ht => lkTies_mem ((sortL_perm (O := lexO intO) (lkTies rows)).mem_iff.mp (List.mem_reverse.mp ht))
  refine seq_next (x_for (R := (tupV : (lexO intO).α → VP)) (xs := (sortL (lexO intO) (lkTies rows)).reverse) (τ := fun (t : List Int) => [("j", vInt (t.getD 2 0)), ("i", vInt (t.getD 1 0)), ("weight", vInt (t.getD 0 0))])
    (fun k => [("lack", vInt (((lkAll rows).take k).foldl lkStep (lkFirst rows, rangeL 0 rows.length)).1), ("group", vList vInt (((lkAll rows).take k).foldl lkStep (lkFirst rows, rangeL 0 rows.length)).2)]) (fun _ => hTrue) (fun _ => True)
    (Q := fun f s' => f = .next ∧ In hb s W (Own (fE (f208 w).1.1 s.heap.objs.size 208)) frs (fE (f208 w).1.1 s.heap.objs.size 208) [("lack", vInt (lack rows))] hTrue s')
    i₅ rm' (ev_sortedR (k := 2) (ev_blt G rfl rfl (by decide) rfl) (ev_name rfl) (fun t ht => by obtain ⟨a, b, c, e, _⟩ := lkTies_mem ht; rw [e]; rfl) (by lia)) iterP_list (fun s' i => i.to ⟨rfl, rfl, trivial⟩) trivial (fun k a d => d.elim) (fun k t ht => ?_) ?_ (fun s' _ i => ⟨rfl, ?_⟩)) fun s₆ i₆ => ?_
  · obtain ⟨a, b, c, e, _⟩ := hmem t (List.mem_of_getElem? ht)
    subst e
    exact asg_tup3 (.inl rfl) (.inr ⟨rfl, _, rfl⟩) (.inr ⟨rfl, _, rfl⟩)
  · intro N' Y k t s' E' hN ht _ i
    obtain ⟨a, b, c, e, c0, cb, bn⟩ := hmem t (List.mem_of_getElem? ht)
    subst e
    have hk : (lkAll rows)[k]? = some [a, b, c] := ht
    have hst := foldl_take (f := lkStep) (b := (lkFirst rows, rangeL 0 rows.length)) hk
    have hln := inv ((lkAll rows).take k) (lkFirst rows, rangeL 0 rows.length)
    generalize ((lkAll rows).take k).foldl lkStep (lkFirst rows, rangeL 0 rows.length) = st at *
    obtain ⟨lk, gr⟩ := st
    have hgl : gr.length = rows.length := by
      have : gr.length = (rangeL 0 rows.length).length := hln
      rw [this, rangeL_len]; lia
    have lb : b.toNat < gr.length := by lia
    have lc : c.toNat < gr.length := by lia
    have eb : gr.getD b.toNat 0 = gr[b.toNat] := by simp [lb]
    have ec : gr.getD c.toNat 0 = gr[c.toNat] := by simp [lc]
    have hs2 : lkStep (lk, gr) [a, b, c] = if gr[b.toNat] = gr[c.toNat] then (lk, gr) else (lk - a, gr.map fun one => if one = gr[c.toNat] then gr[b.toNat] else one) := by
      show (if gr.getD b.toNat 0 = gr.getD c.toNat 0 then (lk, gr) else (lk - a, gr.map fun one => if one = gr.getD c.toNat 0 then gr.getD b.toNat 0 else one)) = _
      rw [eb, ec]
    rw [hs2] at hst
    refine x_if (b := !decide (gr[b.toNat] = gr[c.toNat])) i rm' (tr_cmp (ev_item (l := gr) (k := b) (ev_name rfl) (ev_name rfl) (by lia) (List.getElem?_eq_getElem lb)) (ev_item (l := gr) (k := c) (ev_name rfl) (ev_name rfl) (by lia) (List.getElem?_eq_getElem lc)) (op_ne eqP_int (by lia))) ?_ ?_
    · intro hb₁ s₆ i₆
      have hne : ¬ gr[b.toNat] = gr[c.toNat] := by simpa using hb₁
      rw [if_neg hne] at hst
      refine seq_next (x_assign (P := vInt (lk - a)) i₆ rm' (ev_bin (ev_name rfl) (ev_name rfl) op_sub_int) (.inl rfl)) fun s₇ i₇ => ?_
      refine seq_next (x_assign (P := vList vInt (gr.map fun one => if one = gr[c.toNat] then gr[b.toNat] else one)) i₇ rm' (ev_map (R := vInt) (R' := vInt) (xs := gr) (fun one => if one = gr[c.toNat] then gr[b.toNat] else one) (ev_name rfl) iterP_list (fun C one ho =>
        ev_if (b := decide (one = gr[c.toNat])) (tr_cmp (ev_name rfl) (ev_item (l := gr) (k := c) (ev_name rfl) (ev_name rfl) (by lia) (List.getElem?_eq_getElem lc)) (op_eq eqP_int (by lia))) (fun h => ?_) (fun h => ?_)) (by lia)) (.inr ⟨rfl, _, rfl⟩)) fun s₈ i₈ => ?_
      · rw [if_pos (by simpa using h)]
        exact ev_item (l := gr) (k := b) (ev_name rfl) (ev_name rfl) (by lia) (List.getElem?_eq_getElem lb)
      · rw [if_neg (by simpa using h)]
        exact ev_name rfl
      · refine wpAny_execs_nil (wpAny_execs_nil ⟨trivial, ?_⟩)
        rw [hst]
        exact i₈.to ⟨rfl, rfl, trivial⟩
    · intro hb₁ s₆ i₆
      have hne : gr[b.toNat] = gr[c.toNat] := by simpa using hb₁
      rw [if_pos hne] at hst
      refine wpAny_execs_nil (wpAny_execs_nil ⟨trivial, ?_⟩)
      rw [hst]
      exact i₆.to ⟨rfl, rfl, trivial⟩
  · have e : (lkAll rows).take (sortL (lexO intO) (lkTies rows)).reverse.length = lkAll rows := List.take_length
    have i' : In hb s W (Own (fE (f208 w).1.1 s.heap.objs.size 208)) frs (fE (f208 w).1.1 s.heap.objs.size 208) [("lack", vInt (((lkAll rows).take (sortL (lexO intO) (lkTies rows)).reverse.length).foldl lkStep (lkFirst rows, rangeL 0 rows.length)).1)] hTrue s' := i.to ⟨rfl, trivial⟩
    rw [e] at i'
    exact i'
  · exact x_ret i₆ rm' (ev_name rfl) fun v s' i p => ⟨i.kp, VP.out p⟩
end
end Mine
end

section
open PySem PySem.W PyProof.Rows PySem.Calls
open PySem.AutoSeq1 (wpAny_loadPart')
open PySem.MeetsSeq PySem.MeetsSeq2 PySem.MeetsSeq3 PySem.SeqRoads2
set_option Elab.async false
set_option autoImplicit false
set_option linter.unusedVariables false
set_option maxRecDepth 100000
namespace Mine
theorem remove_loopAt (l : Addr) (items : Array Value) (n : Nat) (x : Value) (e : Value → Bool) (j : Nat) (hj : j < items.size) (hit : e items[j] = true) (k : Nat) (hs1 : items.size ≤ sizeLine) :
    ∀ i : Nat, j - i = k → i ≤ j → (∀ m (hm : m < items.size), i ≤ m → m < j → e items[m] = false) → Meets (Builtin.«list.remove.loop» ⟨[.ref l, x, rawInt i], []⟩)
      (fun A R s => s.heap.get? l = some { cls := .type "list", dict := none, data := .seq items n, slots := #[] } ∧ (∀ y, y ∈ items → SeqAt.EqAt A.in1 s y x (e y)) ∧ R (.ok (.ret .none)) { s with heap := s.heap.update l (Obj.mapSeq fun xs => xs.eraseIdxIfInBounds j) }) := by
  induction k with
  | zero =>
    intro i hk hij hno prog w A R s h
    obtain ⟨hp, g, d, tk, os⟩ := s; obtain ⟨hl, he, h⟩ := h
    have hij' : i = j := by lia
    subst hij'
    wp_walk using wpAny_loadPart' hl
    have hi : items[((i : Nat) : Int).toNat]? = some items[i] := by simp [hj]
    rw [hi]
    refine wpAny_bind (he _ (Array.getElem_mem hj) prog w _ _ ?_)
    rw [hit]
    have hz' : (items.eraseIdxIfInBounds i).size ≤ sizeLine + 1 := Nat.le_trans (size_erased items _) (Nat.le_succ_of_le hs1)
    wp_walk using (wpAny_updateSeq hl rfl (hz := hs1) (_hz' := hz')), wpAny_loadPart' hl
    simpa using h
  | succ k ih =>
    intro i hk hij hno prog w A R s h
    obtain ⟨hp, g, d, tk, os⟩ := s; obtain ⟨hl, he, h⟩ := h
    have hlt : i < items.size := by lia
    wp_walk using wpAny_loadPart' hl
    have hi : items[((i : Nat) : Int).toNat]? = some items[i] := by simp [hlt]
    have hc : ((i : Int) + 1) = ((i + 1 : Nat) : Int) := by push_cast; rfl
    rw [hi]
    refine wpAny_bind (he _ (Array.getElem_mem hlt) prog w _ _ ?_)
    rw [hno i hlt (Nat.le_refl _) (by lia)]
    wp_walk
    rw [hc]
    exact ⟨plainId_quiet plain_remove_loop _, codeAny_builtin entry_remove_loop (by
      rw [Around.under_plainId plain_remove_loop _]
      exact ih (i + 1) (by lia) (by lia) (fun m hm h1 h2 => hno m hm (by lia) h2) prog w A R _ ⟨hl, he, h⟩)⟩
theorem list_removeAt (l : Addr) (items : Array Value) (n : Nat) (x : Value) (e : Value → Bool) (j : Nat) (hj : j < items.size)
    (hit : e items[j] = true) (hno : ∀ m (hm : m < items.size), m < j → e items[m] = false) (hs1 : items.size ≤ sizeLine) :
    Meets (Builtin.«list.remove» ⟨[.ref l, x], []⟩)
      (fun A R s => s.heap.get? l = some { cls := .type "list", dict := none, data := .seq items n, slots := #[] } ∧ (∀ y, y ∈ items → SeqAt.EqAt A.in1 s y x (e y)) ∧ R (.ok (.ret .none)) { s with heap := s.heap.update l (Obj.mapSeq fun xs => xs.eraseIdxIfInBounds j) }) := by
  intro prog w A R s h
  obtain ⟨hp, g, d, tk, os⟩ := s; obtain ⟨hl, he, h⟩ := h
  wp_walk using wpAny_loadPart' hl
  exact ⟨plainId_quiet plain_remove_loop _, codeAny_builtin entry_remove_loop (by
    rw [Around.under_plainId plain_remove_loop _]
    exact remove_loopAt l items n x e j hj hit _ hs1 0 rfl (Nat.zero_le _) (fun m hm _ h2 => hno m hm h2) prog w A R _ ⟨hl, he, h⟩)⟩
theorem remove_loop_noneAt (l : Addr) (items : Array Value) (n : Nat) (x : Value) (e : Value → Bool) (hno : ∀ m (hm : m < items.size), e items[m] = false) (k : Nat) :
    ∀ i : Nat, items.size - i = k → Meets (Builtin.«list.remove.loop» ⟨[.ref l, x, rawInt i], []⟩)
      (fun A R s => s.heap.get? l = some { cls := .type "list", dict := none, data := .seq items n, slots := #[] } ∧ (∀ y, y ∈ items → SeqAt.EqAt A.in1 s y x (e y)) ∧ raisesNew "ValueError" A R s) := by
  induction k with
  | zero =>
    intro i hk prog w A R s h
    obtain ⟨hp, g, d, tk, os⟩ := s; obtain ⟨hl, he, h⟩ := h
    wp_walk using wpAny_loadPart' hl
    have hi : items[((i : Nat) : Int).toNat]? = none := by simp; lia
    rw [hi]
    wp_walk
    exact_raiseError plainExc_ValueError h.1 h.2
  | succ k ih =>
    intro i hk prog w A R s h
    obtain ⟨hp, g, d, tk, os⟩ := s; obtain ⟨hl, he, h⟩ := h
    have hlt : i < items.size := by lia
    wp_walk using wpAny_loadPart' hl
    have hi : items[((i : Nat) : Int).toNat]? = some items[i] := by simp [hlt]
    have hc : ((i : Int) + 1) = ((i + 1 : Nat) : Int) := by push_cast; rfl
    rw [hi]
    refine wpAny_bind (he _ (Array.getElem_mem hlt) prog w _ _ ?_)
    rw [hno i hlt]
    wp_walk
    rw [hc]
    exact ⟨plainId_quiet plain_remove_loop _, codeAny_builtin entry_remove_loop (by
      rw [Around.under_plainId plain_remove_loop _]
      exact ih (i + 1) (by lia) prog w A R _ ⟨hl, he, h⟩)⟩
theorem list_remove_noneAt (l : Addr) (items : Array Value) (n : Nat) (x : Value) (e : Value → Bool) (hno : ∀ m (hm : m < items.size), e items[m] = false) :
    Meets (Builtin.«list.remove» ⟨[.ref l, x], []⟩)
      (fun A R s => s.heap.get? l = some { cls := .type "list", dict := none, data := .seq items n, slots := #[] } ∧ (∀ y, y ∈ items → SeqAt.EqAt A.in1 s y x (e y)) ∧ raisesNew "ValueError" A R s) := by
  intro prog w A R s h
  obtain ⟨hp, g, d, tk, os⟩ := s; obtain ⟨hl, he, h⟩ := h
  wp_walk using wpAny_loadPart' hl
  exact ⟨plainId_quiet plain_remove_loop _, codeAny_builtin entry_remove_loop (by
    rw [Around.under_plainId plain_remove_loop _]
    exact remove_loop_noneAt l items n x e hno _ 0 rfl prog w A R _ ⟨hl, he, h⟩)⟩

theorem paired_eraseIdx {α : Type} {F : Value → α → Prop} {vs : List Value} {l : List α} (p : Paired F vs l) : ∀ j, Paired F (vs.eraseIdx j) (l.eraseIdx j) := by
  induction p with
  | nil => intro j; simp; exact .nil
  | cons h r ih => intro j; cases j with
    | zero => exact r
    | succ j => exact .cons h (ih j)

section
variable {prog : Program} {w : World} {hb : Heap} {n : Nat} {env : Env} {σ : List (Str × VP)} {B s : Shared} {W0 N : Addr → Prop} {fr₀ : List Env} {X Y : HP} {A : Around} {E : Value → Shared → Prop}

/-- a new exception behind a state -/
def Raised (J : Shared → Prop) (v : Value) (s₁ : Shared) : Prop := ∃ e s₀ h' tk, v = .ref e ∧ s₁ = { s₀ with heap := h', toks := tk } ∧ Heap.NewExc s₀.heap h' e "ValueError" ∧ J s₀

theorem e_remove {α : Type} [Inhabited α] [DecidableEq α] {R : α → VP} (hR : Inj R) {d : Nat} (hE : ∀ a b, EqP (R a) (R b) (decide (a = b)) d) (hd : d ≤ 80) {D : Addr} {l : List α} {z : α} {x : Str} {e : Expr} {px pa pc : Pos} (i : In hb B W0 N fr₀ env σ (hAnd Y (hList R D l)) s) (rm : Rm n (env :: fr₀) A) (hx : σ.lookup x = some (vRef D)) (he : Ev prog w hb n env σ e (R z))
    {Q : Value → Shared → Prop} (h1 : z ∈ l → ∀ s' v, In hb B W0 N fr₀ env σ (hAnd Y (hList R D (l.erase z))) s' → Q v s') (h2 : z ∉ l → ∀ v s', Raised (In hb B W0 N fr₀ env σ (hAnd Y (hList R D l))) v s' → E v s')
    (hline : (pa.endLine == pc.line) = true := by rfl) (hst : starEach [e] env = [(false, eval e env)] := by rfl) (hdb : (x == ("__debug__" : Str)) = false := by decide) (hcd : (x == ("__classdict__" : Str)) = false := by decide) :
    wpAny (model prog w) A (eval (.Call (.Attribute (.Name x px) "remove" pa) [e] [] pc) env) Q E s := by
  refine Call_method1 (by rfl) hst hline (wpAny_mono (ev_name hx hdb hcd _ _ A s E rm i.ok) (fun v s₁ ⟨k₁, p₁⟩ => ?_) fun _ _ x => x)
  obtain rfl : v = .ref D := p₁
  have i₁ := i.pure k₁
  obtain ⟨_, ⟨_, vs₁, ⟨n₁, e₁⟩, _⟩, _⟩ := i₁.xo
  refine ⟨"list", "list.remove", F.plainAttrs_list, F.slot_list_remove, F.type_list_remove, ⟨_, e₁, rfl⟩, fun a q => by injection q with q; subst q; exact ⟨_, e₁, rfl⟩, ?_⟩
  refine PySem.seqMethod1_meets F.slot_list_remove F.entry_list_remove (wpAny_mono (he _ _ A s₁ E rm i₁.ok) (fun u s₂ ⟨k₂, p₂⟩ => ?_) fun _ _ x => x)
  have i₂ := i₁.pure k₂
  obtain ⟨_, ⟨lm, vs, ⟨ne, ee⟩, pp⟩, _⟩ := i₂.xo
  have hlen := Paired.length pp
  obtain ⟨q1, q2, q3⟩ := list_any hR hE (A := A.in1) (by show A.units + 1 + d < cLine; have := rm.un; lia) pp p₂
  refine ⟨⟨_, ee, rfl⟩, F.args_list_remove_2 _ _, ?_⟩
  by_cases hz : z ∈ l
  · have hj : l.idxOf z < l.length := List.idxOf_lt_length_iff.mpr hz
    have hj' : l.idxOf z < vs.toArray.size := by rw [List.size_toArray, hlen]; exact hj
    have hdat : ∀ m (hm : m < vs.toArray.size), dat R (fun a => W0 a ∨ N a) s₂.heap vs.toArray[m] = l[m]'(by rw [List.size_toArray, hlen] at hm; exact hm) := fun m hm => by
      have hm' : m < vs.length := by simpa using hm
      obtain ⟨_, q⟩ := paired_get2 pp hm'
      rw [show vs.toArray[m] = vs[m] by simp]
      exact dat_eq hR q
    refine ⟨_, list_removeAt D vs.toArray ne u (fun y => decide (dat R (fun a => W0 a ∨ N a) s₂.heap y = z)) (l.idxOf z) hj' ?_ ?_ (by rw [List.size_toArray, sizeLine_eq]; lia), ee, q1, ?_⟩
    · rw [hdat _ hj']; simp
    · intro m hm hlt
      rw [hdat m hm]
      have := List.not_of_lt_findIdx (p := fun a => a == z) hlt
      simpa using this
    · refine h1 hz _ _ ?_
      have e3 : l.erase z = l.eraseIdx (l.idxOf z) := List.erase_eq_eraseIdx_of_idxOf rfl
      rw [e3]
      have hup := PySem.IsL.update (h := s₂.heap) (l := D) (items := vs.toArray) (n := ne) ee (fun xs => xs.eraseIdxIfInBounds (l.idxOf z))
      rw [show vs.toArray.eraseIdxIfInBounds (l.idxOf z) = (vs.eraseIdx (l.idxOf z)).toArray by simp] at hup
      exact i₂.listUpd (R' := R) (tk := s₂.toks) (vs' := vs.eraseIdx (l.idxOf z)) (fun a o e na => (Heap.get?_update_other _ _ (Ne.symm na)).trans e) ⟨_, hup⟩ (by rw [List.length_eraseIdx]; split <;> lia) (paired_eraseIdx pp _)
  · refine ⟨_, list_remove_noneAt D vs.toArray ne u (fun y => decide (dat R (fun a => W0 a ∨ N a) s₂.heap y = z)) (fun m hm => ?_), ee, q1, rm.hh, fun h' tk e hne => h2 hz _ _ ⟨e, s₂, h', tk, rfl, rfl, hne, i₂⟩⟩
    have hm' : m < vs.length := by simpa using hm
    obtain ⟨hm2, q⟩ := paired_get2 pp hm'
    rw [show vs.toArray[m] = vs[m] by simp, dat_eq hR q]
    simp only [decide_eq_false_iff_not]
    intro q
    exact hz (q ▸ List.getElem_mem hm2)
end
end Mine
end

section
open PySem PySem.W PyProof.Rows PySem.Calls
set_option Elab.async false
set_option autoImplicit false
set_option linter.unusedVariables false
set_option maxRecDepth 100000
namespace Mine

/-- an exception in flight: new objects alone (and the frames' slots) tell of it -/
def Fl (S : List Addr) (s₀ s : Shared) (e : Addr) (fl : Value) : Prop :=
  Kp S s₀ s ∧ s₀.heap.get? e = none ∧ ∃ oe vs T oT ts, s.heap.get? e = some oe ∧ oe.cls = .type "ValueError" ∧ oe.data = .fields vs ∧ vs[1]? = some (.ref T) ∧ T ≠ e ∧ s.heap.get? T = some oT ∧ oT.data = .fields ts ∧ ts[3]? = some fl ∧ s₀.heap.get? T = none

section
variable {M : Model} {A : Around} {E : Value → Shared → Prop} {s s₀ : Shared} {hb : Heap} {env : Env} {outer : List Env} {L e : Addr} {fl : Value}

theorem fl_note {Q : Unit → Shared → Prop} {h₁ : Heap} {tk : Nat} (hfr : A.frames = some (env :: outer)) (hl : s₀.heap.FunFrames hb (env :: outer)) (hf : env.frame = some L) (hn : Heap.NewExc s₀.heap h₁ e "ValueError")
    (h : ∀ s', Fl (frS (env :: outer)) s₀ s' e (rawInt L) → Q () s') : wpAny M A (noteFrame (.ref e) env) Q E { s₀ with heap := h₁, toks := tk } := by
  obtain ⟨oe, t, he, hc, hd⟩ := hn.there
  have hl₁ : h₁.FunFrames hb (env :: outer) := hl.of_keeps fun b o e _ => ⟨o, hn.keeps b o e, rfl⟩
  have hene : e ∉ (env :: outer).filterMap (·.frame) := fun hm => by
    obtain ⟨_, o, ho, hnf⟩ := hl₁.mem hm
    rw [he] at ho; injection ho with ho; subst ho; exact hnf _ hd
  unfold noteFrame
  simp only [hf]
  refine wpAny_bind (wpAny_field he hd (x := .none) rfl ?_)
  rw [if_neg (by decide)]
  refine wpAny_bind (wpAny_frameOf_fun hfr hl₁ hf fun h₂ hs₂ => ?_)
  refine wpAny_bind (wpAny_entryPlaceOf fun pl hpl => ?_)
  unfold EntryCells.newEntry newFields
  refine wpAny_bind (wpAny_newObj_type ?_ (hpl.sizeOk5 _ _ _ _ _))
  have he₁ : h₂.get? e = some oe := (hs₂.2.1 e hene).trans he
  have he₂ := Heap.get?_push_of_some (h := h₂) { cls := .type "traceback", dict := none, data := .fields ([Value.none, .ref L, .none, rawInt L, .none] ++ (if pl.isEmpty then List.replicate 6 Value.none else pl)).toArray } he₁
  refine wpAny_setField he₂ hd (by simp) ?_
  have hTe : h₂.objs.size ≠ e := Nat.ne_of_gt (Heap.lt_size he₁)
  have hd₃ := Obj.data_mapFields hd (·.setIfInBounds 1 (Value.ref h₂.objs.size))
  have he₃ := Heap.get?_update_self (Obj.mapFields (·.setIfInBounds 1 (Value.ref h₂.objs.size))) he₂ (Obj.isFreed_of_fields hd₃)
  have hT₃ := (Heap.get?_update_other (h₂.push { cls := .type "traceback", dict := none, data := .fields ([Value.none, .ref L, .none, rawInt L, .none] ++ (if pl.isEmpty then List.replicate 6 Value.none else pl)).toArray })
    (Obj.mapFields (·.setIfInBounds 1 (Value.ref h₂.objs.size))) (Ne.symm hTe)).trans (Heap.get?_push_size h₂ rfl)
  have hTn : s₀.heap.get? h₂.objs.size = none := by
    cases q : s₀.heap.get? h₂.objs.size with
    | none => rfl
    | some o =>
      obtain ⟨sl, q2⟩ := hs₂.2.2 _ o (hn.keeps _ o q)
      exact absurd (Heap.lt_size q2) (Nat.lt_irrefl _)
  refine h _ ⟨⟨_, tk, rfl, fun a o q => ?_⟩, hn.new, _, _, h₂.objs.size, _, _, he₃, (Obj.cls_mapFields _ _).trans hc, hd₃, by simp, hTe, hT₃, rfl, by simp, hTn⟩
  have hae : a ≠ e := fun q' => by rw [q', hn.new] at q; cases q
  have keep : ∀ o', h₂.get? a = some o' → ((h₂.push { cls := .type "traceback", dict := none, data := .fields ([Value.none, .ref L, .none, rawInt L, .none] ++ (if pl.isEmpty then List.replicate 6 Value.none else pl)).toArray }).update e (Obj.mapFields (·.setIfInBounds 1 (Value.ref h₂.objs.size)))).get? a = some o' := fun o' hb => by
    rw [Heap.get?_update_other _ _ (Ne.symm hae)]
    exact Heap.get?_push_of_some _ hb
  obtain ⟨sl, q2⟩ := hs₂.2.2 a o (hn.keeps a o q)
  exact ⟨fun nf => keep o ((hs₂.2.1 a nf).trans (hn.keeps a o q)), sl, keep _ q2⟩

theorem fl_set {S : List Addr} {x : Option Addr} {Q : Unit → Shared → Prop} (f : Fl S s₀ s e fl) (h : ∀ s', Fl S s₀ s' e (x.elim Value.none fun f => rawInt f) → Q () s') : wpAny M A (setFlight (.ref e) x) Q E s := by
  obtain ⟨k, hen, oe, vs, T, oT, ts, he, hc, hd, h1, hTe, hT, hdT, h3, hTn⟩ := f
  unfold setFlight
  refine wpAny_bind (wpAny_field he hd h1 ?_)
  rw [if_pos (show (Value.ref T != Value.none) = true from by simp)]
  have hsz : 3 < ts.size := (Array.getElem?_eq_some_iff.mp h3).1
  refine wpAny_setField hT hdT hsz (h _ ⟨?_, hen, oe, vs, T, _, _, ?_, hc, hd, h1, hTe, Heap.get?_update_self _ hT (Obj.isFreed_of_fields (Obj.data_mapFields hdT _)), Obj.data_mapFields hdT _, by simp [hsz], hTn⟩)
  · obtain ⟨h1, t1, rfl, e1⟩ := k
    refine ⟨_, t1, rfl, fun a o q => ?_⟩
    have haT : a ≠ T := fun q' => by rw [q', hTn] at q; cases q
    obtain ⟨q1, sl, q2⟩ := e1 a o q
    exact ⟨fun nf => (Heap.get?_update_other _ _ (Ne.symm haT)).trans (q1 nf), sl, (Heap.get?_update_other _ _ (Ne.symm haT)).trans q2⟩
  · rw [Heap.get?_update_other _ _ hTe]; exact he
theorem fl_note2 {S : List Addr} {Q : Unit → Shared → Prop} (f : Fl S s₀ s e (rawInt L)) (hf : env.frame = some L) (h : Q () s) : wpAny M A (noteFrame (.ref e) env) Q E s := by
  obtain ⟨k, hen, oe, vs, T, oT, ts, he, hc, hd, h1, hTe, hT, hdT, h3, hTn⟩ := f
  exact wpAny_noteFrame_inFlight hf he hd h1 hT hdT h3 h
theorem fl_came {S : List Addr} (f : Fl S s₀ s e fl) (hf : env.frame = some L) (h : ∀ s', Fl S s₀ s' e (rawInt L) → E (.ref e) s') : cameBackBy M A env E (.ref e) s := by
  unfold cameBackBy
  obtain ⟨oe, vs, T, oT, ts, he, hc, hd, h1, _⟩ := id f.2.2
  refine wpAny_bind (wpAny_field he hd h1 ?_)
  rw [if_neg (show ¬ ((Value.ref T == Value.none) = true) from by simp)]
  rw [hf]
  exact fl_set f h
end

section
variable {prog : Program} {w : World} {hb : Heap} {n : Nat} {env : Env} {σ : List (Str × VP)} {B s : Shared} {W0 N : Addr → Prop} {fr₀ : List Env} {X Y : HP} {A : Around} {E : Value → Shared → Prop} {mg mb : Str → Option Value}

/-- an exception, seen by the try around it -/
def Caught (fr : List Env) (env : Env) (J : Shared → Prop) (v : Value) (s₁ : Shared) : Prop :=
  Raised J v s₁ ∨ ∃ e s₀ L, v = .ref e ∧ env.frame = some L ∧ J s₀ ∧ Fl (frS (env :: fr)) s₀ s₁ e (rawInt L)

theorem exc_VE : isSubtype (.type "ValueError") (.type "BaseException") = pure true := by rw [isSubtype_type]; kernel_rfl
theorem exc_VV : isSubtype (.type "ValueError") (.type "ValueError") = pure true := by rw [isSubtype_type]; kernel_rfl
theorem exc_VT : isSubtype (.type ((Manifest.find? "ValueError").elim "type" fun x => x.metatype)) (.type "tuple") = pure false := by rw [isSubtype_type]; kernel_rfl

theorem x_catch {J : Shared → Prop} {t : Expr} {b₀ : Stmt} {suite : List Stmt} {hp : Pos} {Q : Flow → Shared → Prop} {v : Value} {s₁ : Shared} (G : Gd w hb mg mb) (rm : Rm n (env :: fr₀) A) (hJ : ∀ s₀, J s₀ → In hb B W0 N fr₀ env σ X s₀)
    (hk : env.kindOf "ValueError" = some .globalImplicit) (ht : t = .Name "ValueError" hp) {hpos : Pos}
    (c : Caught fr₀ env J v s₁) (h : ∀ e s₀ s', J s₀ → Kp (frS (env :: fr₀)) s₀ s' → wpAny (model prog w) (A.mark (some (.ref e))) (execs (b₀ :: suite) env) Q (fun _ _ => False) s') :
    wpAny (model prog w) A (noteFrame v env) (fun _ s₂ => wpAny (model prog w) A (setFlight v none) (fun _ s₃ => wpAny (model prog w) A (handleBy v env [.ExceptHandler (some t) none (b₀ :: suite) hpos]) Q E s₃) E s₂) E s₁ := by
  have go : ∀ e s₀ s₂ fl, J s₀ → Fl (frS (env :: fr₀)) s₀ s₂ e fl → wpAny (model prog w) A (setFlight (.ref e) none) (fun _ s₃ => wpAny (model prog w) A (handleBy (.ref e) env [.ExceptHandler (some t) none (b₀ :: suite) hpos]) Q E s₃) E s₂ := by
    intro e s₀ s₂ fl j f
    refine fl_set f fun s₃ f₃ => ?_
    have i₀ := hJ s₀ j
    refine wpAny_handleBy_builtin (X := "ValueError") (T := "ValueError") (b := true) exc_VE exc_VT exc_VV ?_
    subst ht
    have o₃ := (i₀.pure f₃.1).ok
    refine Name_function_global o₃.eo.kind hk (loadGlobal_builtin (mg := mg) (mb := mb) (v := .type "ValueError") (by rw [o₃.eo.glob]; exact G.g.keeps o₃.stay) (mg_none_of G.kin G.g rfl) (by rw [o₃.eo.blt]; exact G.b.keeps o₃.stay) ((G.bb _ (by decide)).trans rfl) ?_) rfl
    obtain ⟨oe, vs, T, oT, ts, he, hc, hd, h1, _⟩ := id f₃.2.2
    refine ⟨rfl, ⟨oe, he, hc⟩, ?_⟩
    rw [if_pos rfl]
    refine fl_set f₃ fun s₄ f₄ => ?_
    exact wpAny_mono (h e s₀ s₄ j f₄.1) (fun _ _ x => x) fun _ _ x => x.elim
  rcases c with ⟨e, s₀, h', tk, rfl, rfl, hne, j⟩ | ⟨e, s₀, L, rfl, hf, j, f⟩
  · have i₀ := hJ s₀ j
    exact fl_note rm.fr i₀.ok.ff i₀.fo hne fun s₂ f₂ => go e s₀ s₂ _ j f₂
  · exact fl_note2 f hf (go e s₀ s₁ _ j f)

/-- out of a loop -/
theorem caught_out {J : Shared → Prop} {v : Value} {s₁ : Shared} (rm : Rm n (env :: fr₀) A) (hJ : ∀ s₀, J s₀ → In hb B W0 N fr₀ env σ X s₀) (r : Raised J v s₁) (h : ∀ v s', Caught fr₀ env J v s' → E v s') : notedBy (model prog w) A env (cameBackBy (model prog w) A env E) v s₁ := by
  obtain ⟨e, s₀, h', tk, rfl, rfl, hne, j⟩ := r
  have i₀ := hJ s₀ j
  unfold notedBy
  refine fl_note rm.fr i₀.ok.ff i₀.fo hne fun s₂ f₂ => ?_
  exact fl_came f₂ i₀.fo fun s₃ f₃ => h _ _ (.inr ⟨e, s₀, _, rfl, i₀.fo, j, f₃⟩)
end
end Mine
end

section
open PySem PySem.W PyProof.Rows PySem.Calls
set_option Elab.async false
set_option autoImplicit false
set_option linter.unusedVariables false
set_option maxRecDepth 100000
namespace Mine
section
variable {prog : Program} {w : World} {hb : Heap} {n : Nat} {env : Env} {σ : List (Str × VP)} {B s : Shared} {W0 N : Addr → Prop} {fr₀ : List Env} {X Y : HP} {A : Around} {E : Value → Shared → Prop} {mg mb : Str → Option Value}

theorem ev_not {x : Expr} {pos : Pos} {P : VP} {b : Bool} (hx : Ev prog w hb n env σ x P) (ht : Tv prog w hb P b) : Ev prog w hb n env σ (.UnaryOp .Not x pos) (vBool (!b)) := fun W frs A s E rm o =>
  wpAny_UnaryOp (wpAny_mono (hx W frs A s E rm o) (fun v s₁ ⟨k₁, p₁⟩ => not_of (wpAny_mono (ht W frs A s₁ E v (o.toSt.kp k₁) p₁) (fun c s₂ ⟨k₂, e⟩ => ⟨k₁.trans k₂, by subst e; rfl⟩) fun _ _ x => x)) fun _ _ x => x)

/-- a value of the frame's own, new: a list that may be written -/
def EvN {α : Type} (prog : Program) (w : World) (hb : Heap) (n : Nat) (env : Env) (σ : List (Str × VP)) (e : Expr) (R : α → VP) (l : List α) : Prop :=
  ∀ (W : Addr → Prop) (frs : List Env) (A : Around) (s : Shared) (E : Value → Shared → Prop), Rm n frs A → Ok hb W frs env σ s →
    wpAny (model prog w) A (eval e env) (fun v s' => ∃ D s₂ vs, v = .ref D ∧ Kp (frS frs) s s₂ ∧ Kp (frS frs) s₂ s' ∧ s₂.heap.get? D = none ∧ l.length ≤ 1000 ∧ s'.heap.PlainList D (List.toArray vs) ∧ Paired (fun v x => (R x).ok W s₂.heap v) vs l) E s
theorem evN_list {α : Type} {R : α → VP} {l : List α} {f e : Expr} {pos : Pos} (hf : Ev prog w hb n env σ f (vIs (.type "list"))) (he : Ev prog w hb n env σ e (vList R l))
    (hc : eval (.Call f [e] [] pos) env = (do callWith pos (← eval f env) [] (backTo pos (starEach [e] env)) (backToKw pos (keywordEach [] env))) := by rfl) (hst : starEach [e] env = [(false, eval e env)] := by rfl) :
    EvN prog w hb n env σ (.Call f [e] [] pos) R l := fun W frs A s E rm o =>
  PyProof.Rows.Call_ (wpAny_mono (hf W frs A s E rm o) (fun v s₁ ⟨k₁, p₁⟩ => by
    obtain rfl : v = .type "list" := p₁
    refine PyProof.Rows.callWith_type1 (wpAny_mono (evl_cons (pos := pos) he evl_nil hst W frs A s₁ E rm (o.kp k₁)) (fun vs s₂ ⟨k₂, p₂⟩ => ?_) fun _ _ x => x) hst rfl
    cases p₂ with
    | cons h r =>
    cases r
    have o₂ := (o.kp k₁).kp k₂
    obtain ⟨lm, a, us, rfl, nw, ⟨ne, pl⟩, p⟩ := h
    have := Paired.length p
    refine call_list_seq a (.inl rfl) pl rfl rfl (fun h' c' hk hD => ⟨_, s₂, us, rfl, k₁.trans k₂, Kp.all' hk, ?_, lm, ⟨c', hD⟩, p⟩) (by rw [List.size_toArray, sizeLine_eq]; omega)
    cases q : s₂.heap.get? s₂.heap.objs.size with
    | none => rfl
    | some ob => exact absurd (Heap.lt_size q) (Nat.lt_irrefl _)) fun _ _ x => x) hc

theorem x_own {α : Type} {R : α → VP} {l : List α} {x : Str} {e : Expr} {px pos : Pos} (i : In hb B W0 N fr₀ env σ Y s) (rm : Rm n (env :: fr₀) A) (he : EvN prog w hb n env σ e R l) (nk : StoreOk env x)
    (hs : swapsWith e (some (.Name x px)) pos.line env = pure false := by rfl) :
    wpAny (model prog w) A (exec (.Assign [.Name x px] e pos) env) (fun f s' => f = .next ∧ ∃ D, In hb B W0 (fun a => N a ∨ a = D) fr₀ env ((x, vRef D) :: σ) (hAnd Y (hList R D l)) s') E s := by
  refine wpAny_Assign_Name (wpAny_mono (he _ _ A s E rm i.ok) (fun v s₁ h₁ => ?_) fun _ _ x => x) hs
  obtain ⟨D, s₂, vs, rfl, k, k', hD₂, lm, pl, pp⟩ := h₁
  have hD : s.heap.get? D = none := by
    cases q : s.heap.get? D with
    | none => rfl
    | some ob =>
      obtain ⟨_, sl, q2⟩ := k.same _ ob q
      rw [hD₂] at q2; cases q2
  have hDo : ∃ ob, s₁.heap.get? D = some ob := by obtain ⟨_, e⟩ := pl; exact ⟨_, e⟩
  have nND : ¬ (W0 D ∨ N D) := fun q => by obtain ⟨o, e⟩ := i.ok.wd D q; rw [hD] at e; cases e
  have i₁ := i.grow (Z := fun a => a = D) (k.trans k') (by rintro a rfl; exact ⟨hD, hDo⟩)
  have hl₁ : (hList R D l).ok (fun a => W0 a ∨ N a ∨ a = D) s₁.heap := by
    refine ⟨lm, vs, pl, Paired.mono pp fun _ z q => (R z).st q fun a o e na => ⟨?_, k'.get e fun m => na (i.ok.wf a m)⟩⟩
    rintro (h | h | h)
    · exact na (.inl h)
    · exact na (.inr h)
    · rw [h, hD₂] at e; cases e
  have i₂ : In hb B W0 (fun a => N a ∨ a = D) fr₀ env σ (hAnd Y (hList R D l)) s₁ :=
    { i₁ with
      xo := ⟨i₁.xo, hl₁, fun a d q => nND (by have : a = D := q; subst this; exact .inr (i.xd _ d).1)⟩
      xd := fun a d => d.elim (i₁.xd a) fun q => by
        have : a = D := q
        subst this
        exact ⟨.inr rfl, fun q => nND (.inr (q.elim (fun q => q ▸ i.nl) fun ⟨y, e⟩ => i.nc y _ e))⟩ }
  exact in_store i₂ nk (P := vRef D) rfl fun s' i' => ⟨rfl, _, i'⟩

theorem x_retR {α : Type} {R : α → VP} {D : Addr} {l : List α} (x : Str) {e : Expr} {pos : Pos} {P : VP} {Q : Flow → Shared → Prop} {rest : List Stmt} (i : In hb B W0 N fr₀ env σ (hAnd Y (hList R D l)) s) (rm : Rm n (env :: fr₀) A) (hx : σ.lookup x = some (vRef D)) (he : Ev prog w hb n env ((x, vList R l) :: σ) e P)
    (h : ∀ v s', Kp (frS fr₀) B s' → P.ok W0 s'.heap v → Q (.ret v) s') : wpAny (model prog w) A (execs (.Return (some e) pos :: rest) env) Q E s :=
  wpAny_execs_cons (wpAny_Return_some (wpAny_mono (he _ _ A s E rm (i.read hx)) (fun v s₁ ⟨k₁, p₁⟩ => by
    have i₁ := i.pure k₁
    refine h v s₁ i₁.kp (P.st p₁ fun a o e na => ⟨fun h0 => na ⟨.inl h0, fun q => ?_⟩, e⟩)
    obtain ⟨o', e'⟩ := i.b0.wd a h0
    rw [q, i.nw D i.listN.1] at e'
    cases e') fun _ _ x => x))
end
end Mine
end

section
open PySem PySem.W PyProof.Rows PySem.Calls
set_option Elab.async false
set_option autoImplicit false
set_option linter.unusedVariables false
set_option maxRecDepth 100000
namespace Mine
noncomputable def f181 (w : World) : DefOf w 181 := ⟨(_, _), rfl, rfl⟩
section
variable {α : Type} [DecidableEq α]
def rmAll : List α → List α → Option (List α)
  | [], t => some t
  | x :: xs, t => if x ∈ t then rmAll xs (t.erase x) else none
def cmpOL (l m : List α) : Bool := (rmAll (dedupL l) (dedupL m)).elim false fun t => !(!t.isEmpty)
theorem rmAll_app : ∀ (l m t : List α), rmAll (l ++ m) t = (rmAll l t).bind (rmAll m)
  | [], m, t => rfl
  | x :: l, m, t => by
    rw [List.cons_append, rmAll, rmAll]
    split
    · exact rmAll_app l m _
    · rfl
theorem rmAll_take {l t : List α} {k : Nat} {x : α} (h : l[k]? = some x) : rmAll (l.take (k + 1)) t = (rmAll (l.take k) t).bind fun u => if x ∈ u then some (u.erase x) else none := by
  rw [List.take_add_one, h]
  show rmAll (l.take k ++ [x]) t = _
  rw [rmAll_app]
  congr 1
theorem rmAll_len : ∀ {l t u : List α}, rmAll l t = some u → u.length ≤ t.length
  | [], t, u, h => by cases h; exact Nat.le_refl _
  | x :: l, t, u, h => by
    rw [rmAll] at h
    split at h
    · exact Nat.le_trans (rmAll_len h) (by rw [List.length_erase]; split <;> omega)
    · cases h
theorem rmAll_none {l m t : List α} (h : rmAll l t = none) : rmAll (l ++ m) t = none := by rw [rmAll_app, h]; rfl
end
section
variable {prog : Program} {w : World} {hb : Heap} {n : Nat} {mg mb : Str → Option Value}
theorem fn_cmp (G : Gd w hb mg mb) : FnAt hb 181 (f181 w).1.1 (f181 w).1.2 := fnAt G (f181 w) rfl rfl rfl rfl rfl rfl rfl
theorem cl_cmp (G : Gd w hb mg mb) {α : Type} [Inhabited α] [DecidableEq α] {R : α → VP} (hR : Inj R) {d : Nat} (hE : ∀ a b, EqP (R a) (R b) (decide (a = b)) d) (hd : d ≤ 50) (l m : List α) :
    Cl prog w hb (n + 2) (.ref 181) [vList R l, vList R m] (vBool (cmpOL l m)) := by
  intro W frs A s E vs rm st hp
  cases hp with
  | cons h1 h2 =>
  cases h2 with
  | cons h2 h3 =>
  cases h3
  rename_i v u
  have lmL : l.length ≤ 1000 := h1.1
  have lmM : m.length ≤ 1000 := h2.1
  have l1 := dedupL_len l
  have l2 := dedupL_len m
  refine wpAny_call (fn_enter G (fn_cmp G) (binds := [("first_args", v), ("second_args", u)]) (Ps := [vList R l, vList R m]) rm st (BindsTo.of_eq rfl) (.cons h1 (.cons h2 .nil)) (show (["first_args", "second_args"] : List Str).Nodup by decide) rfl fun s₁ i₁ => ?_)
  have rm' := rm_deeper (env := fE (f181 w).1.1 s.heap.objs.size 181) rm
  obtain ⟨o74, ho74, hd74⟩ := (fn_dedup G).ob
  refine seq_next (x_assign i₁ rm' (ev_callF ho74 hd74 (ev_glob G rfl rfl) (evl_cons (ev_name rfl) evl_nil) (cl_dedup G hR hE (by omega) l)) (.inl rfl)) fun s₂ i₂ => ?_
  refine seq_next (x_assign i₂ rm' (ev_callF ho74 hd74 (ev_glob G rfl rfl) (evl_cons (ev_name rfl) evl_nil) (cl_dedup G hR hE (by omega) m)) (.inl rfl)) fun s₃ i₃ => ?_
  refine seq_next (x_own (R := R) (l := dedupL m) i₃ rm' (evN_list (ev_blt G rfl rfl (by decide) rfl) (ev_name rfl)) (.inl rfl)) fun s₄ ⟨D, i₄⟩ => ?_
  have i₄' := (i₄.forget (Y := hList R D (dedupL m)) (fun _ _ q => q.2.1) fun a d => .inr d).to (σ' := [("t", vRef D), ("first_unhashable", vList R (dedupL l))]) ⟨rfl, rfl, trivial⟩
  refine wpAny_execs_cons (wpAny_Try_except ?_)
  refine wpAny_execs_cons (x_forE (R := R) (xs := dedupL l) (τ := fun x => [("elem", R x)]) (fun _ => [("t", vRef D), ("first_unhashable", vList R (dedupL l))]) (fun k => hList R D ((rmAll ((dedupL l).take k) (dedupL m)).getD [])) (fun k => (rmAll ((dedupL l).take k) (dedupL m)).isSome = true)
    i₄' rm' (ev_name rfl) iterP_list (fun s' i => i) rfl (fun k a d => .inr d) (fun k x hx => asg_name (.inl rfl)) ?_ ?_)
  · intro N' Y k x s' E' hE' hN hx hC i
    obtain ⟨t, ht⟩ := Option.isSome_iff_exists.mp hC
    rw [ht] at i
    have i : In hb s W N' frs (fE (f181 w).1.1 s.heap.objs.size 181) [("elem", R x), ("t", vRef D), ("first_unhashable", vList R (dedupL l))] (hAnd Y (hList R D t)) s' := i
    have hstep := rmAll_take (t := dedupL m) hx
    rw [ht] at hstep
    refine seq_next (x_expr (e_remove (z := x) hR hE (by omega) i rm' rfl (ev_name rfl) (fun hz s₅ v i₅ => ?_) (fun hz v s₅ r => ?_)) (J := fun s₅ => x ∈ t ∧ In hb s W N' frs (fE (f181 w).1.1 s.heap.objs.size 181) ([("elem", R x), ("t", vRef D), ("first_unhashable", vList R (dedupL l))]) (hAnd Y (hList R D (t.erase x))) s₅)) fun s₅ ⟨hz, i₅⟩ => ?_
    · exact ⟨hz, i₅⟩
    · subst hE'
      refine caught_out rm' (fun _ j => j) r fun v s₆ c => ?_
      refine x_catch G rm' (fun _ j => j) rfl rfl c fun e s₀ s₇ j k₇ => ?_
      have i₇ := In.pure (show In hb s W N' frs (fE (f181 w).1.1 s.heap.objs.size 181) ([("elem", R x), ("t", vRef D), ("first_unhashable", vList R (dedupL l))]) (hAnd Y (hList R D t)) s₀ from j) k₇
      refine wpAny_execs_cons (wpAny_Return_some (fun _ _ _ => ⟨i₇.kp, ?_⟩))
      show Value.bool false = Value.bool (cmpOL l m)
      have hn : rmAll (dedupL l) (dedupL m) = none := by
        have e1 : rmAll ((dedupL l).take (k + 1)) (dedupL m) = none := by rw [hstep]; simp [hz]
        rw [← List.take_append_drop (k + 1) (dedupL l)]
        exact rmAll_none e1
      unfold cmpOL
      rw [hn]
      rfl
    · refine wpAny_execs_nil ⟨?_, ?_⟩
      · rw [hstep]; simp [hz]
      · rw [hstep]
        have e : ((Option.bind (some t) fun u => if x ∈ u then some (u.erase x) else none).getD []) = t.erase x := by simp [hz]
        rw [e]
        exact i₅.to ⟨rfl, rfl, trivial⟩
  · intro s' hC i
    rw [List.take_length] at hC i
    obtain ⟨t, ht⟩ := Option.isSome_iff_exists.mp hC
    rw [ht] at i
    refine wpAny_execs_nil (wpAny_execs_nil ?_)
    have i' : In hb s W (fun a => Own (fE (f181 w).1.1 s.heap.objs.size 181) a ∨ a = D) frs (fE (f181 w).1.1 s.heap.objs.size 181) [("t", vRef D), ("first_unhashable", vList R (dedupL l))] (hAnd hTrue (hList R D t)) s' :=
      { i with xo := ⟨trivial, i.xo, fun a q => q.elim⟩, xd := fun a d => d.elim (fun q => q.elim) (i.xd a) }
    refine x_retR "t" i' rm' rfl (ev_not (ev_name rfl) tv_list) fun v s₅ k p => ⟨k, ?_⟩
    unfold cmpOL
    rw [ht]
    exact p
end
end Mine
end

section
open PySem PySem.W PyProof.Rows PySem.Calls
set_option Elab.async false
set_option autoImplicit false
set_option linter.unusedVariables false
set_option maxRecDepth 100000
namespace Mine
section
variable {prog : Program} {w : World} {hb : Heap} {n : Nat} {env : Env} {σ : List (Str × VP)} {B s : Shared} {W0 N : Addr → Prop} {fr₀ : List Env} {X Y : HP} {A : Around} {E : Value → Shared → Prop} {mg mb : Str → Option Value}

/-- a name, whatever is handled -/
theorem name_wp {W : Addr → Prop} {frs : List Env} {x : Str} {pos : Pos} {P : VP} {Q : Value → Shared → Prop} (o : Ok hb W frs env σ s) (h : σ.lookup x = some P) (hq : ∀ v, P.ok W s.heap v → Q v s) (hd : (x == ("__debug__" : Str)) = false := by decide) (hc : (x == ("__classdict__" : Str)) = false := by decide) :
    wpAny (model prog w) A (eval (.Name x pos) env) Q E s := by
  obtain ⟨μ, f, k⟩ := o.nm
  obtain ⟨nk, v, e1, e2⟩ := k x P h
  refine wpAny_Name ?_ hd
  rcases nk with l | ⟨l | l, c, hc'⟩
  · obtain ⟨m, a, b⟩ := f.ns
    exact wpAny_loadName_local o.eo.kind l a ((b x l).trans e1) (hq v e2)
  · exact wpAny_loadName_cell o.eo.kind l hc' (e1 ▸ f.cell x c hc') (hq v e2)
  · exact wpAny_loadName_free o.eo.kind l hc' (e1 ▸ f.cell x c hc') (hq v e2) hc

theorem x_appendH {α : Type} {R : α → VP} {D : Addr} {l : List α} {z : α} {x y : Str} {px py pa pc pos : Pos} (i : In hb B W0 N fr₀ env σ (hAnd Y (hList R D l)) s) (hx : σ.lookup x = some (vRef D)) (hy : σ.lookup y = some (R z)) (lm : l.length < 1000)
    (hline : (pa.endLine == pc.line) = true := by rfl) (hst : starEach [.Name y py] env = [(false, eval (.Name y py) env)] := by rfl) (hi : interactive env = false := by rfl) (hd : (x == ("__debug__" : Str)) = false := by decide) (hc : (x == ("__classdict__" : Str)) = false := by decide) (hd' : (y == ("__debug__" : Str)) = false := by decide) (hc' : (y == ("__classdict__" : Str)) = false := by decide) :
    wpAny (model prog w) A (exec (.Expr (.Call (.Attribute (.Name x px) "append" pa) [.Name y py] [] pc) pos) env) (fun f s' => f = .next ∧ In hb B W0 N fr₀ env σ (hAnd Y (hList R D (l ++ [z]))) s') E s := by
  refine x_expr ?_ hi rfl
  refine Call_method1 (by rfl) hst hline (name_wp i.ok hx (fun v p₁ => ?_) hd hc)
  obtain rfl : v = .ref D := p₁
  obtain ⟨_, ⟨_, vs, ⟨ne, ee⟩, pp⟩, _⟩ := i.xo
  refine ⟨"list", "list.append", F.plainAttrs_list, F.slot_list_append, F.type_list_append, ⟨_, ee, rfl⟩, fun a q => by injection q with q; subst q; exact ⟨_, ee, rfl⟩, ?_⟩
  refine PySem.P.append_list (name_wp i.ok hy (fun u p₂ => ?_) hd' hc')
  have hlen := Paired.length pp
  refine ⟨vs.toArray, ne, by rw [List.size_toArray, sizeLine_eq]; lia, ee, ?_⟩
  refine i.listUpd (R' := R) (tk := s.toks) (vs' := vs ++ [u]) (fun a o e na => (Heap.get?_update_other _ _ (Ne.symm na)).trans e) ⟨ne + 1, ?_⟩ (by rw [List.length_append]; simp; lia) (paired_snoc pp p₂)
  rw [Heap.get?_update_self _ ee (by rw [Obj.mapSeq_push_plain]; rfl), Obj.mapSeq_push_plain]
  simp

theorem paired_last {α : Type} {F : Value → α → Prop} {vs : List Value} {l : List α} {z : α} (p : Paired F vs (l ++ [z])) : ∃ us u, vs = us ++ [u] ∧ Paired F us l ∧ F u z := by
  induction l generalizing vs with
  | nil => cases p with
    | cons h r => cases r; exact ⟨[], _, rfl, .nil, h⟩
  | cons y l ih => cases p with
    | cons h r =>
      obtain ⟨us, u, rfl, q, hu⟩ := ih r
      exact ⟨_ :: us, u, rfl, .cons h q, hu⟩

theorem x_pop {α : Type} {R : α → VP} {D : Addr} {l : List α} {z : α} {x y : Str} {px py pa pc pos : Pos} (i : In hb B W0 N fr₀ env σ (hAnd Y (hList R D (l ++ [z]))) s) (rm : Rm n (env :: fr₀) A) (hx : σ.lookup x = some (vRef D)) (nk : StoreOk env y)
    (hline : (pa.endLine == pc.line) = true := by rfl) (hd : (x == ("__debug__" : Str)) = false := by decide) (hc : (x == ("__classdict__" : Str)) = false := by decide) :
    wpAny (model prog w) A (exec (.Assign [.Name y py] (.Call (.Attribute (.Name x px) "pop" pa) [] [] pc) pos) env) (fun f s' => f = .next ∧ In hb B W0 N fr₀ env ((y, R z) :: σ) (hAnd Y (hList R D l)) s') E s := by
  refine wpAny_Assign_Name (Call_method0 (by rfl) hline (name_wp i.ok hx (fun v p₁ => ?_) hd hc)) rfl
  obtain rfl : v = .ref D := p₁
  obtain ⟨_, ⟨lm, vs, ⟨ne, ee⟩, pp⟩, _⟩ := i.xo
  obtain ⟨us, u, rfl, pu, hu⟩ := paired_last pp
  have hlen := Paired.length pu
  rw [List.length_append] at lm
  refine ⟨"list", "list.pop", F.plainAttrs_list, F.slot_list_pop, F.type_list_pop, ⟨_, ee, rfl⟩, fun a q => by injection q with q; subst q; exact ⟨_, ee, rfl⟩, ?_⟩
  refine PySem.P.pop_list (y := u) ee (by simp) ?_ (by rw [List.size_toArray, sizeLine_eq, List.length_append]; simp at lm ⊢; lia)
  have hup := PySem.IsL.update (h := s.heap) (l := D) (items := (us ++ [u]).toArray) (n := ne) ee (fun xs => xs.eraseIdxIfInBounds ((us ++ [u]).toArray.size - 1))
  rw [show (us ++ [u]).toArray.eraseIdxIfInBounds ((us ++ [u]).toArray.size - 1) = us.toArray by simp [List.eraseIdx_append_of_length_le]] at hup
  have i₁ := i.listUpd (R' := R) (l' := l) (tk := s.toks) (vs' := us) (fun a o e na => (Heap.get?_update_other _ _ (Ne.symm na)).trans e) ⟨_, hup⟩ (by lia) pu
  refine in_store i₁ nk (P := R z) ?_ fun s' i' => ⟨rfl, i'⟩
  obtain ⟨nD, _⟩ := i.listN
  exact (R z).st hu fun a o e na => ⟨na, (Heap.get?_update_other _ _ (show D ≠ a from fun q => na (.inr (q ▸ nD)))).trans e⟩

theorem x_doc {x : Str} {k : Nat} {pc pos : Pos} (i : In hb B W0 N fr₀ env σ X s) (hi : interactive env = false := by rfl) : wpAny (model prog w) A (exec (.Expr (.Constant (.str x) k pc) pos) env) (fun f s' => f = .next ∧ In hb B W0 N fr₀ env σ X s') E s :=
  x_expr (Constant_str (i.pure (.tok1 _ _ _))) hi rfl
/-- the written lists in another order -/
theorem In.rot {P Q : HP} (i : In hb B W0 N fr₀ env σ (hAnd (hAnd Y P) Q) s) : In hb B W0 N fr₀ env σ (hAnd (hAnd Y Q) P) s :=
  { i with
    xo := ⟨⟨i.xo.1.1, i.xo.2.1, fun a d q => i.xo.2.2 a (.inl d) q⟩, i.xo.1.2.1, fun a d q => d.elim (fun d => i.xo.1.2.2 a d q) fun d => i.xo.2.2 a (.inr q) d⟩
    xd := fun a d => i.xd a (d.elim (fun d => d.elim (fun d => .inl (.inl d)) .inr) fun d => .inl (.inr d)) }
theorem In.rot3 {P Q S : HP} (i : In hb B W0 N fr₀ env σ (hAnd (hAnd (hAnd Y P) Q) S) s) : In hb B W0 N fr₀ env σ (hAnd (hAnd (hAnd Y Q) S) P) s :=
  { i with
    xo := ⟨⟨⟨i.xo.1.1.1, i.xo.1.2.1, fun a d q => i.xo.1.2.2 a (.inl d) q⟩, i.xo.2.1, fun a d q => i.xo.2.2 a (d.elim (fun d => .inl (.inl d)) .inr) q⟩, i.xo.1.1.2.1,
      fun a d q => d.elim (fun d => d.elim (fun d => i.xo.1.1.2.2 a d q) fun d => i.xo.1.2.2 a (.inr q) d) fun d => i.xo.2.2 a (.inl (.inr q)) d⟩
    xd := fun a d => i.xd a (d.elim (fun d => d.elim (fun d => d.elim (fun d => .inl (.inl (.inl d))) fun d => .inl (.inr d)) .inr) fun d => .inl (.inl (.inr d))) }
end
end Mine
end

section
open PySem PySem.W PyProof.Rows PySem.Calls
set_option Elab.async false
set_option autoImplicit false
set_option linter.unusedVariables false
set_option maxRecDepth 100000
namespace Mine
noncomputable def f71 (w : World) : DefOf w 71 := ⟨(_, _), rfl, rfl⟩
section
variable {α : Type} [DecidableEq α]
def ulist : List α → List α → List α → List α
  | [], ms, _ => ms
  | x :: xs, ms, ac => if x ∈ ac then ulist xs ms (ac.erase x) else ulist xs (ms ++ [x]) ac
def ulDiff (l m : List α) : List α := ulist l.reverse [] m
end
theorem nil_or_snoc {α : Type} (l : List α) : l = [] ∨ ∃ l' z, l = l' ++ [z] := (List.eq_nil_or_concat l).imp id fun ⟨a, b, e⟩ => ⟨a, b, by rw [e, List.concat_eq_append]⟩
section
variable {prog : Program} {w : World} {hb : Heap} {n : Nat} {env : Env} {σ : List (Str × VP)} {mg mb : Str → Option Value}
/-- lists handed over to a frame -/
theorem In.take {B s s₁ : Shared} {W : Addr → Prop} {frs : List Env} {Z : Addr → Prop} {X : HP} (i : In hb s W (Own env) frs env σ hTrue s₁) (kB : Kp (frS frs) B s) (stB : St hb W frs B) (hz : ∀ a, Z a → B.heap.get? a = none ∧ ∃ o, s.heap.get? a = some o)
    (hσ : ∀ x P v, σ.lookup x = some P → P.ok (fun a => W a ∨ Own env a) s₁.heap v → P.ok (fun a => W a ∨ (Own env a ∨ Z a)) s₁.heap v) (hX : X.ok (fun a => W a ∨ (Own env a ∨ Z a)) s₁.heap) (hXZ : ∀ a, X.ds a → Z a) : In hb B W (fun a => Own env a ∨ Z a) frs env σ X s₁ := by
  have exZ : ∀ a, Z a → ∃ o, s₁.heap.get? a = some o := fun a h => by
    obtain ⟨o, e⟩ := (hz a h).2
    obtain ⟨_, sl, e'⟩ := i.kp.same a o e
    exact ⟨_, e'⟩
  refine ⟨kB.trans i.kp, ?_, fun a h => h.elim (fun h => ?_) fun h => (hz a h).1, stB, i.fo, .inl i.nl, fun x c e => .inl (i.nc x c e), hX, fun a d => ⟨.inr (hXZ a d), fun q => ?_⟩⟩
  · refine i.ok.more (fun a h => h.imp id .inl) (fun a h n1 n2 => ?_) (fun a h n1 => ?_) hσ
    · rcases h with h | h | h
      · exact n1 (.inl h)
      · exact n1 (.inr h)
      · obtain ⟨o, e⟩ := exZ a h; rw [n2] at e; cases e
    · rcases h with h | h | h
      · exact absurd (.inl h) n1
      · exact absurd (.inr h) n1
      · cases e : hb.get? a with
        | none => rfl
        | some o => have := stB.stay a o e; rw [(hz a h).1] at this; cases this
  · cases e : B.heap.get? a with
    | none => rfl
    | some o =>
      obtain ⟨_, sl, e'⟩ := kB.same a o e
      rw [i.nw a h] at e'; cases e'
  · have := i.nw a q
    obtain ⟨o, e⟩ := (hz a (hXZ a d)).2
    rw [this] at e; cases e

theorem fn_diff (G : Gd w hb mg mb) : FnAt hb 71 (f71 w).1.1 (f71 w).1.2 := fnAt G (f71 w) rfl rfl rfl rfl rfl rfl rfl

theorem run_diff (G : Gd w hb mg mb) {α : Type} [Inhabited α] [DecidableEq α] {R : α → VP} (hR : Inj R) {d : Nat} (hE : ∀ a b, EqP (R a) (R b) (decide (a = b)) d) (hd : d ≤ 50) (l m : List α) (lml : l.length ≤ 1000) (lmm : m.length ≤ 1000)
    {W : Addr → Prop} {frs : List Env} {A : Around} {B s : Shared} {E : Value → Shared → Prop} {D₁ D₂ : Addr} {vs us : List Value} (rm : Rm (n + 1) frs A) (stB : St hb W frs B) (kB : Kp (frS frs) B s) (h1 : B.heap.get? D₁ = none) (h2 : B.heap.get? D₂ = none) (h12 : D₁ ≠ D₂)
    (p1 : s.heap.PlainList D₁ vs.toArray) (p2 : s.heap.PlainList D₂ us.toArray) (q1 : Paired (fun v x => (R x).ok W B.heap v) vs l) (q2 : Paired (fun v x => (R x).ok W B.heap v) us m) :
    wpAny (model prog w) A (call (.ref 71) [.ref D₁, .ref D₂]) (fun z s' => Kp (frS frs) B s' ∧ ∃ M, (vTup [vRef M, vRef D₂]).ok W s'.heap z ∧ (vList R (ulDiff l m)).ok W s'.heap (.ref M)) E s := by
  have st := stB.kp kB
  refine wpAny_call (fn_enter G (fn_diff G) (binds := [("expected", .ref D₁), ("actual", .ref D₂)]) (Ps := [vRef D₁, vRef D₂]) rm st (BindsTo.of_eq rfl) (.cons rfl (.cons rfl .nil)) (show (["expected", "actual"] : List Str).Nodup by decide) rfl fun s₁ i₀ => ?_)
  have rm' := rm_deeper (env := fE (f71 w).1.1 s.heap.objs.size 71) rm
  have nd : ∀ a, a = D₁ ∨ a = D₂ → B.heap.get? a = none ∧ ∃ o, s.heap.get? a = some o := by
    rintro a (rfl | rfl)
    · obtain ⟨_, e⟩ := p1; exact ⟨h1, _, e⟩
    · obtain ⟨_, e⟩ := p2; exact ⟨h2, _, e⟩
  have nF : ∀ a, a = D₁ ∨ a = D₂ → a ∉ frS frs := fun a h hm => by
    obtain ⟨o, e⟩ := stB.wd a (stB.wf a hm)
    rw [(nd a h).1] at e; cases e
  have dom : ∀ a o, B.heap.get? a = some o → ¬ W a → ¬ (W a ∨ (Own (fE (f71 w).1.1 s.heap.objs.size 71) a ∨ (a = D₁ ∨ a = D₂))) ∧ s₁.heap.get? a = some o := fun a o e na => by
    have e1 := kB.get e fun hm => na (stB.wf a hm)
    refine ⟨?_, i₀.kp.get e1 fun hm => na (stB.wf a hm)⟩
    rintro (h | h | h)
    · exact na h
    · rw [i₀.nw a h] at e1; cases e1
    · rw [(nd a h).1] at e; cases e
  have i₁ : In hb B W (fun a => Own (fE (f71 w).1.1 s.heap.objs.size 71) a ∨ (a = D₁ ∨ a = D₂)) frs (fE (f71 w).1.1 s.heap.objs.size 71) [("expected", vRef D₁), ("actual", vRef D₂)] (hAnd (hAnd hTrue (hList R D₁ l)) (hList R D₂ m)) s₁ := by
    refine In.take (Z := fun a => a = D₁ ∨ a = D₂) i₀ kB stB nd ?_ ⟨⟨trivial, ⟨lml, vs, p1.at fun o e => i₀.kp.get e (nF _ (.inl rfl)), Paired.mono q1 fun _ x q => (R x).st q dom⟩, fun a q => q.elim⟩, ⟨lmm, us, p2.at fun o e => i₀.kp.get e (nF _ (.inr rfl)), Paired.mono q2 fun _ x q => (R x).st q dom⟩, ?_⟩ ?_
    · intro x P v hx hv
      have hm := mem_of_lookup hx
      simp at hm
      rcases hm with ⟨_, rfl⟩ | ⟨_, rfl⟩ <;> exact hv
    · rintro a (h | h) q
      · exact h.elim
      · exact h12 ((show a = D₁ from h).symm.trans (show a = D₂ from q))
    · rintro a ((h | h) | h)
      · exact h.elim
      · exact .inl h
      · exact .inr h
  refine seq_next (x_doc i₁) fun s₁' i₁ => ?_
  refine seq_next (x_new (R := R) i₁ rm' (.inl rfl)) fun s₂ ⟨M, i₂⟩ => ?_
  refine seq_next (x_while (I := fun k s' => ∃ (rest ms ac : List α), k = rest.length + 1 ∧ ulist rest.reverse ms ac = ulDiff l m ∧ rest.length + ms.length ≤ l.length ∧
      In hb B W (fun a => (Own (fE (f71 w).1.1 s.heap.objs.size 71) a ∨ (a = D₁ ∨ a = D₂)) ∨ a = M) frs (fE (f71 w).1.1 s.heap.objs.size 71) [("missing", vRef M), ("expected", vRef D₁), ("actual", vRef D₂)] (hAnd (hAnd (hAnd hTrue (hList R D₁ rest)) (hList R D₂ ac)) (hList R M ms)) s') (l.length + 1)
    (Q := fun f s' => f = .next ∧ ∃ ac, In hb B W (fun a => (Own (fE (f71 w).1.1 s.heap.objs.size 71) a ∨ (a = D₁ ∨ a = D₂)) ∨ a = M) frs (fE (f71 w).1.1 s.heap.objs.size 71) [("missing", vRef M), ("expected", vRef D₁), ("actual", vRef D₂)] (hAnd (hAnd (hAnd hTrue (hList R D₁ [])) (hList R D₂ ac)) (hList R M (ulDiff l m))) s') ?_ ?_) fun s₃ ⟨ac, i₃⟩ => ?_
  · rintro k s' E' ⟨rest, ms, ac, rfl, hu, hlen, i⟩
    have ir := i.rot3
    refine wpAny_mono (tr_of (ev_name (P := vList R rest) rfl) tv_list rfl _ _ _ s' E' rm' (ir.read (x := "expected") rfl)) (fun b s₄ h₄ => ?_) fun _ _ x => x
    obtain ⟨k₄, rfl⟩ := h₄
    have ir₄ := ir.pure k₄
    rcases nil_or_snoc rest with rfl | ⟨rest', z, rfl⟩
    · rw [if_neg (by simp)]
      have hm : ms = ulDiff l m := hu
      subst hm
      exact ⟨rfl, ac, ir₄.rot3.rot3⟩
    · rw [if_pos (by simp)]
      have hlen : rest'.length + 1 + ms.length ≤ l.length := by rw [List.length_append] at hlen; exact hlen
      have hu' : (if z ∈ ac then ulist rest'.reverse ms (ac.erase z) else ulist rest'.reverse (ms ++ [z]) ac) = ulDiff l m := by
        rw [← hu, List.reverse_append]; rfl
      refine seq_next (x_pop ir₄ rm' rfl (.inl rfl)) fun s₅ i₅ => ?_
      have i₅' := i₅.rot3.rot3.rot
      refine wpAny_execs_cons (wpAny_Try_except ?_)
      refine seq_next (x_expr (e_remove (z := z) hR hE (by lia) i₅' rm' rfl (ev_name rfl) (fun hz s₆ v i₆ => ?_) (fun hz v s₆ r => ?_)) (J := fun s₆ => z ∈ ac ∧ In hb B W (fun a => (Own (fE (f71 w).1.1 s.heap.objs.size 71) a ∨ (a = D₁ ∨ a = D₂)) ∨ a = M) frs (fE (f71 w).1.1 s.heap.objs.size 71) [("item", R z), ("missing", vRef M), ("expected", vRef D₁), ("actual", vRef D₂)] (hAnd (hAnd (hAnd hTrue (hList R D₁ rest')) (hList R M ms)) (hList R D₂ (ac.erase z))) s₆)) fun s₆ ⟨hz, i₆⟩ => ?_
      · exact ⟨hz, i₆⟩
      · refine x_catch G rm' (fun _ j => j) rfl rfl (.inl r) fun e s₀ s₇ j k₇ => ?_
        have i₇ := (In.pure (show In hb B W (fun a => (Own (fE (f71 w).1.1 s.heap.objs.size 71) a ∨ (a = D₁ ∨ a = D₂)) ∨ a = M) frs (fE (f71 w).1.1 s.heap.objs.size 71) [("item", R z), ("missing", vRef M), ("expected", vRef D₁), ("actual", vRef D₂)] (hAnd (hAnd (hAnd hTrue (hList R D₁ rest')) (hList R M ms)) (hList R D₂ ac)) s₀ from j) k₇).rot
        refine seq_next (x_appendH (z := z) i₇ rfl rfl (by lia)) fun s₈ i₈ => ?_
        refine wpAny_execs_nil (wpAny_execs_nil ⟨rest'.length + 1, by simp, rest', ms ++ [z], ac, rfl, ?_, by simp; lia, i₈.to ⟨rfl, rfl, rfl, trivial⟩⟩)
        rw [← hu', if_neg hz]
      · refine wpAny_execs_nil (wpAny_execs_nil (wpAny_execs_nil ⟨rest'.length + 1, by simp, rest', ms, ac.erase z, rfl, ?_, by lia, i₆.rot.to ⟨rfl, rfl, rfl, trivial⟩⟩))
        rw [← hu', if_pos hz]
  · exact ⟨l, [], m, rfl, rfl, by simp, i₂⟩
  · refine x_ret i₃ rm' (ev_tuple (evl_cons (ev_name rfl) (evl_cons (ev_name rfl) evl_nil)) (by simp)) fun v s' i p => ⟨i.kp, M, VP.out p, i.give⟩
end
end Mine
end

section
open PySem PySem.W PyProof.Rows PySem.Calls
set_option Elab.async false
set_option autoImplicit false
set_option linter.unusedVariables false
set_option maxRecDepth 100000
namespace Mine
section
variable {prog : Program} {w : World} {hb : Heap} {n : Nat} {env : Env} {σ : List (Str × VP)} {mg mb : Str → Option Value}
theorem name_wp2 {W : Addr → Prop} {frs : List Env} {A : Around} {s s₁ : Shared} {E : Value → Shared → Prop} {x : Str} {pos : Pos} {P : VP} {Q : Value → Shared → Prop} (o : Ok hb W frs env σ s) (kp : Kp (frS frs) s s₁) (h : σ.lookup x = some P) (hq : ∀ v, P.ok W s.heap v → Q v s₁) (hd : (x == ("__debug__" : Str)) = false) (hc : (x == ("__classdict__" : Str)) = false) :
    wpAny (model prog w) A (eval (.Name x pos) env) Q E s₁ := by
  obtain ⟨μ, f, k⟩ := o.nm
  obtain ⟨nk, v, e1, e2⟩ := k x P h
  have f := f.sameF kp.same
  refine wpAny_Name ?_ hd
  rcases nk with l | ⟨l | l, c, hc'⟩
  · obtain ⟨m, a, b⟩ := f.ns
    exact wpAny_loadName_local o.eo.kind l a ((b x l).trans e1) (hq v e2)
  · exact wpAny_loadName_cell o.eo.kind l hc' (e1 ▸ f.cell x c hc') (hq v e2)
  · exact wpAny_loadName_free o.eo.kind l hc' (e1 ▸ f.cell x c hc') (hq v e2) hc
/-- a call list(x) of a name, step by step -/
theorem list_of_name {α : Type} {R : α → VP} {l : List α} {x : Str} {px pl pos : Pos} {W : Addr → Prop} {frs : List Env} {A : Around} {s s₁ : Shared} {E : Value → Shared → Prop} {Q : Value → Shared → Prop} (G : Gd w hb mg mb) (o : Ok hb W frs env σ s) (kp : Kp (frS frs) s s₁) (hx : σ.lookup x = some (vList R l)) (hk : env.kindOf "list" = some .globalImplicit)
    (h : ∀ vs h', (∀ a ob, s₁.heap.get? a = some ob → h'.get? a = some ob) → h'.PlainList s₁.heap.objs.size (List.toArray vs) → Paired (fun v x => (R x).ok W s.heap v) vs l → l.length ≤ 1000 → Q (.ref s₁.heap.objs.size) { s₁ with heap := h' })
    (hc : eval (.Call (.Name "list" pl) [.Name x px] [] pos) env = (do callWith pos (← eval (.Name "list" pl) env) [] (backTo pos (starEach [.Name x px] env)) (backToKw pos (keywordEach [] env))) := by rfl) (hst : starEach [.Name x px] env = [(false, eval (.Name x px) env)] := by rfl)
    (hd : (x == ("__debug__" : Str)) = false := by decide) (hcd : (x == ("__classdict__" : Str)) = false := by decide) : wpAny (model prog w) A (eval (.Call (.Name "list" pl) [.Name x px] [] pos) env) Q E s₁ := by
  have o₁ := o.kp kp
  refine PyProof.Rows.Call_ ?_ hc
  refine Name_function_global o.eo.kind hk (loadGlobal_builtin (mg := mg) (mb := mb) (v := .type "list") (by rw [o.eo.glob]; exact G.g.keeps o₁.stay) (mg_none_of G.kin G.g rfl) (by rw [o.eo.blt]; exact G.b.keeps o₁.stay) ((G.bb _ (by decide)).trans rfl) ?_) rfl
  refine PyProof.Rows.callWith_type1 (args_cons (name_wp2 o kp hx (fun v p => args_nil ?_) hd hcd) hst) hst rfl
  obtain ⟨lm, a, us, rfl, nw, ⟨ne, pl⟩, p⟩ := p
  have := Paired.length p
  exact call_list_seq a (.inl rfl) (kp.get pl fun m => nw (o.wf a m)) rfl rfl (fun h' c' hk hD => h us h' hk ⟨c', hD⟩ p lm) (by rw [List.size_toArray, sizeLine_eq]; omega)

theorem ev_diff (G : Gd w hb mg mb) {α : Type} [Inhabited α] [DecidableEq α] {R : α → VP} (hR : Inj R) {d : Nat} (hE : ∀ a b, EqP (R a) (R b) (decide (a = b)) d) (hd : d ≤ 50) {l m : List α} {x y : Str} {pf px py pl1 pl2 pc1 pc2 pc p0 pos : Pos} {k0 : Nat}
    (hx : σ.lookup x = some (vList R l)) (hy : σ.lookup y = some (vList R m)) (hkl : env.kindOf "list" = some .globalImplicit) (hkf : env.kindOf "unorderable_list_difference" = some .globalImplicit)
    (hst : ∀ e1 e2, e1 = Expr.Call (.Name "list" pl1) [.Name x px] [] pc1 → e2 = Expr.Call (.Name "list" pl2) [.Name y py] [] pc2 → starEach [e1, e2] env = [(false, eval e1 env), (false, eval e2 env)] := by rintro _ _ rfl rfl; rfl)
    (hd1 : (x == ("__debug__" : Str)) = false := by decide) (hc1 : (x == ("__classdict__" : Str)) = false := by decide) (hd2 : (y == ("__debug__" : Str)) = false := by decide) (hc2 : (y == ("__classdict__" : Str)) = false := by decide) :
    Ev prog w hb (n + 1) env σ (.Subscript (.Call (.Name "unorderable_list_difference" pf) [.Call (.Name "list" pl1) [.Name x px] [] pc1, .Call (.Name "list" pl2) [.Name y py] [] pc2] [] pc) (.Constant (.int 0) k0 p0) pos) (vList R (ulDiff l m)) := by
  intro W frs A s E rm o
  obtain ⟨ob, hob, hfd⟩ := (fn_diff G).ob
  refine Subscript_ (PyProof.Rows.Call_ ?_ rfl)
  refine Name_function_global o.eo.kind hkf (loadGlobal_global (mg := mg) (by rw [o.eo.glob]; exact G.g.keeps o.stay) (mg_of (v := .ref 71) G.kin G.g rfl) ?_) rfl
  refine PyProof.Rows.callWith_def hfd (args_cons (list_of_name G o (.refl _ _) hx hkl (fun vs h₁ hk₁ p1 q1 lm1 => ?_) rfl rfl hd1 hc1) (hst _ _ rfl rfl)) (hst _ _ rfl rfl)
  have k₁ : Kp (frS frs) s { s with heap := h₁ } := Kp.all' hk₁
  refine args_cons (list_of_name G o k₁ hy hkl (fun us h₂ hk₂ p2 q2 lm2 => args_nil ?_) rfl rfl hd2 hc2) rfl
  have k₂ : Kp (frS frs) s { s with heap := h₂ } := k₁.trans (Kp.all' (s := { s with heap := h₁ }) hk₂)
  have fresh : s.heap.get? s.heap.objs.size = none := by
    cases q : s.heap.get? s.heap.objs.size with
    | none => rfl
    | some ob => exact absurd (Heap.lt_size q) (Nat.lt_irrefl _)
  have fresh₂ : s.heap.get? h₁.objs.size = none := by
    cases q : s.heap.get? h₁.objs.size with
    | none => rfl
    | some ob => exact absurd (Heap.lt_size (hk₁ _ _ q)) (Nat.lt_irrefl _)
  have ne : s.heap.objs.size ≠ h₁.objs.size := by
    obtain ⟨_, e⟩ := p1
    exact Nat.ne_of_lt (Heap.lt_size e)
  refine ⟨(o.kp k₂).stay 71 ob hob, wpAny_mono (run_diff G hR hE hd l m lm1 lm2 rm o.toSt k₂ fresh fresh₂ ne (p1.at fun ob e => hk₂ _ ob e) p2 q1 q2) (fun z s₃ h₃ => ?_) fun _ _ x => x⟩
  obtain ⟨k₃, M, ⟨T, ts, rfl, nT, ht, pt⟩, hM⟩ := h₃
  refine wpAny_Constant_int ?_
  cases pt with
  | cons e1 r =>
  cases r with
  | cons e2 r =>
  cases r
  obtain rfl := e1
  exact item_tupleT (j := 0) (ht.keeps fun a ob e => e) (by decide) (by decide) (by rfl) rfl ⟨k₃.trans (.tok1 _ _ _), hM⟩
end
end Mine
end

section
open PySem PySem.W PyProof.Rows PySem.Calls
set_option Elab.async false
set_option autoImplicit false
set_option linter.unusedVariables false
set_option maxRecDepth 100000
namespace Mine
/-! ## dicts of names -/
def nmIs (m : Bool) (k : Nat) (v : Value) : Bool := decide (k < 32) && (if m then isBytes ((sg k).map UInt8.ofNat) v else Value.isStrOf ⟨(sg k).toArray⟩ v)
theorem sg_codes {k : Nat} (h : k < 32) : ∀ c ∈ sg k, c < 128 := by
  cases k with
  | zero => intro c hc; cases hc
  | succ k => intro c hc; have := List.mem_singleton.mp hc; lia
theorem nmIs_shape {m : Bool} {k : Nat} {v : Value} (h : nmIs m k v = true) : k < 32 ∧ ∃ t, v = txV m (sg k) t := by
  unfold nmIs at h
  simp only [Bool.and_eq_true, decide_eq_true_eq] at h
  refine ⟨h.1, ?_⟩
  cases m with
  | true =>
    obtain ⟨t, rfl⟩ := isBytes_shape (by simpa using h.2)
    exact ⟨t, rfl⟩
  | false =>
    obtain ⟨t, rfl⟩ := Value.isStrOf_shape (by simpa using h.2)
    exact ⟨t, rfl⟩
theorem nmIs_of {m : Bool} {k : Nat} {W : Addr → Prop} {h : Heap} {v : Value} (p : (nmV m k).ok W h v) : nmIs m k v = true := by
  obtain ⟨hc, t, rfl⟩ := p
  have hk : k < 32 := by
    cases k with
    | zero => lia
    | succ k => have := hc (97 + k) (.head _); lia
  unfold nmIs
  rw [decide_eq_true hk]
  cases m with
  | true => simp [txV, isBytes]
  | false => simp [txV, Value.isStrOf]
theorem nmIs_snd {m : Bool} {k : Nat} {v : Value} (h : nmIs m k v = true) : (if m then isBytes ((sg k).map UInt8.ofNat) v else Value.isStrOf ⟨(sg k).toArray⟩ v) = true := by
  unfold nmIs at h
  simp only [Bool.and_eq_true] at h
  exact h.2
theorem nmIs_ok {m : Bool} {k : Nat} {W : Addr → Prop} {h : Heap} {v : Value} (p : nmIs m k v = true) : (nmV m k).ok W h v := by
  obtain ⟨hk, t, rfl⟩ := nmIs_shape p
  exact ⟨sg_codes hk, t, rfl⟩
def nmKind (prog : Program) (w : World) (m : Bool) : PySem.KeyKind prog w Nat where
  is := nmIs m
  hash k := if m then hashW w.params (.bytes ((sg k).map UInt8.ofNat)) else hashStr w ⟨(sg k).toArray⟩
  inj v a b ha hb := nm_inj (m := m) (fun _ => False) default v a b (nmIs_ok ha) (nmIs_ok hb)
  byValue k v h := by
    obtain ⟨_, t, rfl⟩ := nmIs_shape h
    cases m <;> rfl
  pyHash := fun {A E s k v Q} hv h => by
    have h2 := nmIs_snd hv
    cases m with
    | true => exact (bytesKind prog w).pyHash (k := (sg k).map UInt8.ofNat) h2 h
    | false => exact (PySem.strKind prog w).pyHash (k := ⟨(sg k).toArray⟩) h2 h
  eqBool := fun {A E s a b u v Q} hu hv h => by
    have h2 := nmIs_snd hu
    have h3 := nmIs_snd hv
    have ka := (nmIs_shape hu).1
    have kb := (nmIs_shape hv).1
    cases m with
    | true =>
      refine (bytesKind prog w).eqBool (a := (sg a).map UInt8.ofNat) (b := (sg b).map UInt8.ofNat) h2 h3 ?_
      rw [show decide ((sg a).map UInt8.ofNat = (sg b).map UInt8.ofNat) = decide (a = b) from decide_eq_decide.mpr ⟨fun e => sg_inj (u8_inj (sg_codes ka) (sg_codes kb) e), fun e => by rw [e]⟩]
      exact h
    | false =>
      refine (PySem.strKind prog w).eqBool (a := ⟨(sg a).toArray⟩) (b := ⟨(sg b).toArray⟩) h2 h3 ?_
      rw [show decide ((⟨(sg a).toArray⟩ : Str) = ⟨(sg b).toArray⟩) = decide (a = b) from decide_eq_decide.mpr ⟨fun e => sg_inj (by injection e with e; simpa using e), fun e => by rw [e]⟩]
      exact h
  «strs» := fun k x t v h => by
    obtain ⟨hk, u, e⟩ := nmIs_shape h
    cases m with
    | true => cases e
    | false =>
      have e' : x = ⟨(sg k).toArray⟩ := by injection e
      subst e'
      unfold nmIs
      rw [decide_eq_true hk]
      cases v <;> rfl

/-- a dict whose keys are names, each with None -/
def vDct (prog : Program) (w : World) (m : Bool) (l : List Nat) : VP :=
  ⟨fun W h v => l.length ≤ 1000 ∧ ∃ d ep, v = .ref d ∧ ¬ W d ∧ (d == sysModules) = false ∧ h.DictAt (nmKind prog w m) d (l.map fun k => (k, Value.none)) ep,
   fun {W W' h h' v} ⟨lm, d, ep, e, n, hd, o, es, ho, r⟩ k => ⟨lm, d, ep, e, (k d o ho n).1, hd, o, es, (k d o ho n).2, r⟩⟩

section
variable {prog : Program} {w : World} {hb : Heap} {n : Nat} {mg mb : Str → Option Value}
theorem paired_keys {m : Bool} {W : Addr → Prop} {h : Heap} {l : List Nat} {acc : Array Value} (hacc : ItemsOf (fun i v => ∃ k x, (l.map fun k => (k, Value.none))[i]? = some (k, x) ∧ (nmKind prog w m).is k v = true) acc (l.map fun k => (k, Value.none)).length) : Paired (fun v x => (nmV m x).ok W h v) acc.toList l := by
  refine paired_of (by rw [Array.length_toList, hacc.1, List.length_map]) fun i v e => ?_
  obtain ⟨k, x, e1, e2⟩ := hacc.2 i v (by simpa using e)
  rw [List.getElem?_map] at e1
  cases hq : l[i]? with
  | none => rw [hq] at e1; cases e1
  | some y =>
    rw [hq] at e1
    have : y = k := by simpa using congrArg (fun o => o.map Prod.fst) e1
    exact ⟨y, rfl, nmIs_ok (this ▸ e2)⟩
theorem cl_listDict {m : Bool} {l : List Nat} : Cl prog w hb n (.type "list") [vDct prog w m l] (vList (nmV m) l) := by
  intro W frs A s E vs rm st hp
  cases hp with
  | cons h r =>
  cases r
  obtain ⟨lm, d, ep, rfl, nw, hd, hm⟩ := h
  refine kdl_call (kdl_dict hd) rm.hh hm (by rw [List.length_map, sizeLine_eq]; lia) fun h' tk acc c hk hS hacc => ⟨Kp.all hk, lm, _, acc.toList, rfl, st.fresh, ⟨c, by simpa using hS⟩, paired_keys hacc⟩
end
end Mine
end

section
open PySem PySem.W PyProof.Rows PySem.Calls
set_option Elab.async false
set_option autoImplicit false
set_option linter.unusedVariables false
set_option maxRecDepth 100000
namespace Mine
section
variable {prog : Program} {w : World} {hb : Heap} {n : Nat} {mg mb : Str → Option Value} {A : Around} {E : Value → Shared → Prop} {s : Shared}
theorem collect_src {T : String} {r d : Addr} {k : Nat} {P : Nat → Value → Prop} {OK : Heap → Prop} {Q : List Value → Shared → Prop} (K : KdlSrc prog w T r d k P OK) (hh : A.handled = none) (hok : OK s.heap) (hn : k ≤ sizeLine)
    (h : ∀ h' tk acc, (∀ b o, s.heap.get? b = some o → h'.get? b = some o) → ItemsOf P acc k → Q acc.toList { s with heap := h', toks := tk }) : wpAny (model prog w) A (collect (.ref r)) Q E s := by
  unfold collect
  have hlt := K.there _ hok
  refine wpAny_bind (wpAny_runValue (codeAny_builtin entry_proto_collect' ?_))
  show wpAny _ _ (do again (.builtin "list.__iadd__" ⟨[← newList [], .ref r], []⟩)) _ _ s
  refine wpAny_bind (wpAny_newList (wpAny_pure ⟨Code.quiet_builtin _ (by decide +kernel), codeAny_builtin entry_list_iadd' ?_⟩) (by simp [sizeLine_eq]))
  have hS : (s.heap.push (seqObj "list" #[] 0)).get? s.heap.objs.size = some (seqObj "list" #[] 0) := Heap.get?_push_size _ rfl
  rw [Around.under_plainId (show plainId "list.__iadd__" = true by decide +kernel) _]
  show wpAny (model prog w) A.in1 (Builtin.List.listExtendWith (.ref s.heap.objs.size) (.ref r) (.ref s.heap.objs.size)) _ _ { s with heap := s.heap.push (seqObj "list" #[] 0) }
  refine kdl_extend (R := fun r s' => match r with
      | .ok (.ret v) => wpAny (model prog w) A (match v with
          | .ref a => do
            let o ← load a
            match o.data with
            | .seq xs _ => pure xs.toList
            | _ => unsupported "internal:collect"
          | _ => unsupported "internal:collect") Q E s'
      | .ok _ => False
      | .error e => E e s') (A := A) (s := { s with heap := s.heap.push (seqObj "list" #[] 0) }) K hh (K.keep _ _ hok fun b _ o e => Heap.get?_push_of_some _ e) s.heap.objs.size (Nat.ne_of_gt hlt.1) (Nat.ne_of_gt hlt.2) (.ref s.heap.objs.size) 0 hS (fun h' tk acc c hk hS' hacc => ?_) hn
  show wpAny (model prog w) A (do
      let o ← load s.heap.objs.size
      match o.data with
      | .seq xs _ => pure xs.toList
      | _ => unsupported "internal:collect") Q E { s with heap := h', toks := tk }
  refine wpAny_bind (wpAny_load hS' ?_)
  exact wpAny_pure (h h' tk acc (fun b o e => hk b o (Nat.ne_of_lt (Heap.lt_size e)) (Heap.get?_push_of_some _ e)) hacc)
theorem cl_sortedDict {m : Bool} {l : List natO.α} (h64 : l.length < 64) : Cl prog w hb n (.builtin "sorted") [vDct prog w m l] (vList (α := natO.α) (nmV m) (sortL natO l)) := by
  intro W frs A s E vs rm st hp
  cases hp with
  | cons h r =>
  cases r
  obtain ⟨lm, d, ep, rfl, nw, hd, hm⟩ := h
  have hsz : (List.map (fun k => (k, Value.none)) (show List Nat from l)).length ≤ sizeLine := Nat.le_trans (Nat.le_of_eq (List.length_map (as := (show List Nat from l)) _)) (by rw [sizeLine_eq]; exact Nat.le_trans lm (by decide))
  refine sorted_of (O := natO) (key := fun i => (katRev false l).getD i default) (b := false) (.inl ⟨rfl, rfl⟩) (collect_src (kdl_dict hd) rm.hh hm hsz fun h' tk acc hk hacc => ?_)
  have p : Paired (fun v (x : natO.α) => (nmV m x).ok W h' v) acc.toList l := paired_keys hacc
  have hlen : acc.toList.length = l.length := Paired.length p
  have lm' : l.length ≤ 1000 := lm
  refine ⟨by rw [hlen]; exact h64, fun h2 => ?_, fun q h₂ D e hp hu hx hD ho => ⟨?_, ?_⟩⟩
  · exact ask_one (O := natO) (R := nmV m) (T := txT m) (d := 0) (W := W) false (fun a W h v q => looks_tx q) (by cases m <;> decide) (by cases m <;> decide) (fun a b => ltP_nm a b) (by show A.units + 1 + 1 + 0 < cLine; have := rm.un; lia) p h2
  · exact Kp.all fun c o q => hx c o (hk c o q)
  · rw [hlen] at hp hu
    have hDs : s.heap.get? D = none := by
      cases e : s.heap.get? D with
      | none => rfl
      | some o => rw [hk D o e] at hD; cases hD
    have nWD : ¬ W D := fun q => by obtain ⟨o, e⟩ := st.wd D q; rw [hDs] at e; cases e
    rw [← lOut_eq0 (O := natO) hp hu]
    refine ⟨by rw [(lOut_perm (O := natO) hp).length_eq]; exact lm', D, sOut false acc.toList q, rfl, nWD, ⟨e, ho⟩, ?_⟩
    exact lOut_paired (by rw [hlen]; exact hp) (Paired.mono p fun _ x q => (nmV m x).st q fun a o e na => ⟨na, hx a o e⟩)
end
end Mine
end

section
open PySem PySem.W PyProof.Rows PySem.Calls
set_option Elab.async false
set_option autoImplicit false
set_option linter.unusedVariables false
set_option maxRecDepth 100000
namespace Mine
/-! ## dict.fromkeys -/
section
variable {prog : Program} {w : World} {hb : Heap} {n : Nat} {mg mb : Str → Option Value} {A : Around} {E : Value → Shared → Prop} {s : Shared}
theorem typeCall_dict0 : checkTypeCall "dict" ⟨[], []⟩ = pure () := by kernel_rfl
theorem newCall_dict0 : checkBuiltinCall "dict.__new__" ⟨[.type "dict"], []⟩ = pure () := by kernel_rfl
theorem isType_dict : isType (.type "dict") = pure true := by first | rfl | kernel_rfl | (unfold isType; rw [isSubtype_type]; kernel_rfl)
theorem mro_dict : mroOf (.type "dict") = pure [.type "dict", .type "object"] := by rw [mroOf_type]; kernel_rfl
theorem call_dict0 {Q : Value → Shared → Prop} (h : Q (.ref s.heap.objs.size) { s with heap := s.heap.push { cls := .type "dict", data := .dict #[] } }) : wpAny (model prog w) A (call (.type "dict") []) Q E s := by
  refine callType_codes (Q₁ := fun obj s₁ => obj = .ref s.heap.objs.size ∧ s₁ = { s with heap := s.heap.push { cls := .type "dict", data := .dict #[] } }) PySem.F.kt_called_dict typeCall_dict0 F.entry_dict_init ?_ fun obj s₁ h₁ => ?_
  · refine codeAny_call_builtin PySem.F.kt_plain_dict_new PySem.F.kt_entry_dict_new (wpAny_of_eq newCall_dict0 ?_)
    have hsub := PySem.F.kt_sub_dict
    have hmro := PySem.F.kt_mro_dict
    obtain ⟨hp, g, d, tk, os⟩ := s
    unfold Builtin.«dict.__new__»
    wp_walk
    exact ⟨rfl, rfl⟩
  · obtain ⟨rfl, rfl⟩ := h₁
    have hnew : (s.heap.push { cls := .type "dict", data := .dict #[] }).DictOf (nmKind prog w false) s.heap.objs.size [] := Heap.DictOf.new s.heap
    refine ⟨hnew.typeIs, by unfold argsOk; kernel_rfl, ?_⟩
    unfold Builtin.«dict.__init__»
    refine wpAny_bind ?_
    unfold Builtin.Dict.selfAndRest
    refine wpAny_bind (wpAny_notOrdered_dict hnew.typeIs ?_)
    show wpAny _ _ (pure (s.heap.objs.size, ([] : List Value))) _ _ _
    refine wpAny_pure ?_
    show wpAny _ _ (Builtin.Dict.updateCommon "dict.__init__" "dict" s.heap.objs.size [] []) _ _ _
    unfold Builtin.Dict.updateCommon
    exact wpAny_bind (wpAny_of_eq (a := ()) (by rfl) (wpAny_pure ⟨rfl, h⟩))

theorem entry_fkloop : entryFor table "dict.fromkeys.loop" = some Builtin.«dict.fromkeys.loop» := entryFor_of_tree (by kernel_rfl)
theorem plain_fkloop : plainId "dict.fromkeys.loop" = true := by decide +kernel
def dkv (l : List Nat) : List (Nat × Value) := l.map fun k => (k, Value.none)
theorem stored_dkv {l : List Nat} {x : Nat} : stored (dkv l) x Value.none = dkv (if x ∈ l then l else l ++ [x]) := by
  unfold stored dkv
  by_cases h : x ∈ l
  · rw [if_pos h, if_pos (by simpa using h), List.map_map]
    refine List.map_congr_left fun k _ => ?_
    show (if k = x then (k, Value.none) else (k, Value.none)) = (k, Value.none)
    split <;> rfl
  · rw [if_neg h, if_neg (by simpa using h), List.map_append]
    rfl

theorem fk_loop {m : Bool} {l : List Nat} {d I : Addr} {fp : List Addr} {Pt : Nat → Value → Prop} {S : Nat → Heap → Prop} {R : Result → Shared → Prop} (it : Itr prog w A.in1 I fp l.length Pt S) (hdI : d ≠ I) (hdf : d ∉ fp) (hPt : ∀ i v, Pt i v → ∃ x, l[i]? = some x ∧ nmIs m x v = true) (lm : l.length ≤ 1000)
    (s₀ : Shared) (hR : ∀ h' tk, (∀ a o, a ≠ d → a ≠ I → s₀.heap.get? a = some o → h'.get? a = some o) → h'.DictOf (nmKind prog w m) d (dkv (dedupL l)) → R (.ok (.ret (.ref d))) { s₀ with heap := h', toks := tk }) :
    ∀ (k i : Nat) (h₁ : Heap) (tk : Nat), i + k = l.length → S i h₁ → h₁.DictOf (nmKind prog w m) d (dkv (dedupL (l.take i))) → (∀ a o, a ≠ d → a ≠ I → s₀.heap.get? a = some o → h₁.get? a = some o) →
      codeAny (model prog w) A (.builtin "dict.fromkeys.loop" ⟨[.ref d, .ref I, .none], []⟩) R { s₀ with heap := h₁, toks := tk }
  | 0, i, h₁, tk, hk, hS, hm, hx => by
    refine codeAny_builtin entry_fkloop ?_
    rw [Around.under_plainId plain_fkloop _]
    unfold Builtin.«dict.fromkeys.loop»
    have hi : i = l.length := by lia
    subst hi
    refine wpAny_bind (it.done { s₀ with heap := h₁, toks := tk } _ _ hS fun h' tk' hk' => wpAny_pure ?_)
    have hk2 : ∀ b o, b ≠ I → h₁.get? b = some o → h'.get? b = some o := fun b o hb e => hk' b o (by simpa using hb) e
    rw [List.take_length] at hm
    refine hR h' tk' (fun a o n1 n2 e => hk2 a o n2 (hx a o n1 n2 e)) ?_
    obtain ⟨o, es, ep, ho, r⟩ := hm
    exact ⟨o, es, ep, hk2 d o hdI ho, r⟩
  | k + 1, i, h₁, tk, hk, hS, hm, hx => by
    refine codeAny_builtin entry_fkloop ?_
    rw [Around.under_plainId plain_fkloop _]
    unfold Builtin.«dict.fromkeys.loop»
    have hi : i < l.length := by lia
    refine wpAny_bind (it.item i { s₀ with heap := h₁, toks := tk } _ _ hi hS fun v h' tk' hp hS' hk' => ?_)
    have hk2 : ∀ b o, b ≠ I → h₁.get? b = some o → h'.get? b = some o := fun b o hb e => hk' b o (by simpa using hb) e
    obtain ⟨x, hxl, hv⟩ := hPt i v hp
    have hm' : h'.DictOf (nmKind prog w m) d (dkv (dedupL (l.take i))) := by
      obtain ⟨o, es, ep, ho, r⟩ := hm
      exact ⟨o, es, ep, hk2 d o hdI ho, r⟩
    have hdl : (dkv (dedupL (l.take i))).length ≤ sizeLine := by
      have := dedupL_len (l.take i)
      rw [List.length_take] at this
      unfold dkv
      rw [List.length_map, sizeLine_eq]
      lia
    refine wpAny_bind (wpAny_typeOf (s := { s₀ with heap := h', toks := tk' }) hm'.typeIs ?_)
    rw [if_pos (by decide)]
    refine wpAny_bind (wpAny_of_eq (a := d) rfl (wpAny_bind (wpAny_holding (wpAny_dictSet_pairs (knd := nmKind prog w m) (s := { s₀ with heap := h', toks := tk' }) (k := x) hv hm' (fun h₂ hm₂ hs₂ => ?_) hdl))))
    refine wpAny_pure ⟨plainId_quiet plain_fkloop _, ?_⟩
    rw [stored_dkv, ← dedupL_take hxl] at hm₂
    exact fk_loop it hdI hdf hPt lm s₀ hR k (i + 1) h₂ _ (by lia) (it.frame _ _ _ hS' fun b hb o e => (hs₂.2 b fun q => hdf (q ▸ hb)).trans e) hm₂ fun a o n1 n2 e => (hs₂.2 a n1).trans (hk2 a o n2 (hx a o n1 n2 e))
end
end Mine
end

section
open PySem PySem.W PyProof.Rows PySem.Calls
set_option Elab.async false
set_option autoImplicit false
set_option linter.unusedVariables false
set_option maxRecDepth 100000
namespace Mine
def fkB : Obj := { cls := .type "builtin_function_or_method", data := .fields #[.builtin "dict.fromkeys", .type "dict"] }
theorem type_fk : typeOf (.builtin "dict.fromkeys") = pure (.type "classmethod_descriptor") := by show builtinType _ = _; rw [builtinType_eq_fast]; kernel_rfl
theorem entry_fk : entryFor table "dict.fromkeys" = some Builtin.«dict.fromkeys» := entryFor_of_tree (by kernel_rfl)
theorem quiet_fk {as : Args} : (Code.builtin "dict.fromkeys" as).quiet = true := Code.quiet_builtin _ (by decide +kernel)
theorem plain_fk : plainId "dict.fromkeys" = true := by decide +kernel
theorem owner_fk : (kfb_private% "ownerAndName") "dict.fromkeys" = ("dict", "fromkeys") := by first | decide +kernel | kernel_rfl
section
variable {prog : Program} {w : World} {hb : Heap} {n : Nat} {mg mb : Str → Option Value} {M : Model} {A : Around} {E : Value → Shared → Prop} {s : Shared}
theorem fk_get {P : PySem.Fin → Shared → Prop} (h : P (.done (.ret (.ref s.heap.objs.size))) { s with heap := s.heap.push fkB }) :
    wpAny M A (Builtin.«classmethod_descriptor.__get__» ⟨[.builtin "dict.fromkeys", .none, .type "dict"], []⟩) P E s := by
  unfold Builtin.«classmethod_descriptor.__get__»
  refine wpAny_bind (wpAny_of_eq (a := (.builtin "dict.fromkeys", none, some (.type "dict"))) (by first | rfl | kernel_rfl) ?_)
  simp only [owner_fk]
  refine wpAny_bind (wpAny_of_eq (a := .type "dict") rfl ?_)
  refine wpAny_bind (wpAny_of_eq (a := true) isType_dict ?_)
  refine KFB.if_not rfl ?_
  refine wpAny_bind (wpAny_of_eq (a := true) isSubtype_dict_dict ?_)
  refine KFB.if_not rfl ?_
  exact wpAny_bind (wpAny_newObj_type (wpAny_pure h))
theorem fk_getm {pl : Sem Bool} {Q : Value × List Value → Shared → Prop} (X : (KF w).In s.heap)
    (h : Q (.ref s.heap.objs.size, []) { s with heap := s.heap.push fkB, toks := s.toks + 1 }) : wpAny (model prog w) A (getMethod (.type "dict") (PySem.Str.ofString "fromkeys") pl) Q E s := by
  have hstub : opaqueClassAbove (.type "dict") = pure none := by unfold opaqueClassAbove; dsimp only; rw [show Manifest.isStub "dict" = false by decide +kernel]; rfl
  have ht : typeOf (.type "dict") = pure (.type "type") := by first | rfl | kernel_rfl
  have L0 : Looks (model prog w) s.heap (typeOf (.type "dict")) (.type "type") := Looks.of_pure ht
  have hg : findIn (KF w) (.type "type") "__getattribute__" = some (some (.builtin "type.__getattribute__")) := type_tga
  have e : findCls (KF w) (.type "dict") (.type "type") (PySem.Str.ofString "fromkeys") = some (.get (.builtin "classmethod_descriptor.__get__") (.builtin "dict.fromkeys") .none (.type "dict")) := by rfl
  unfold getMethod specialOf
  refine wpAny_bind (wpAny_bind (L0.here ((looks_findIn X hg).here ?_)))
  dsimp only
  rw [if_pos canon_tga]
  refine wpAny_bind (wpAny_mono (Q := fun v => Q (v, [])) (E := E) ?_ (fun _ _ z => wpAny_pure z) fun _ _ z => z)
  have LO : Looks (model prog w) s.heap (opaqueClassAbove (.type "dict")) none := Looks.of_pure hstub
  refine cls_open X LO L0 hg (looks_hook X (r := none) (by rfl)) (by show subIn (KF w) _ _ = _; rfl) e ?_
  show wpAny _ _ (holding [.builtin "dict.fromkeys"] (call (.builtin "classmethod_descriptor.__get__") [.builtin "dict.fromkeys", .none, .type "dict"]) >>= fun v => ret v) _ _ _
  exact wpAny_bind (wpAny_holding (wpAny_call_entry KFB.slot_get type_fk KFB.entry_get (fk_get ⟨_, rfl, wpAny_pure (wpAny_pure h)⟩) (KFB.args_get _ _ _)))
theorem fk_callWith {pos : Pos} {u : Addr} {first : List Value} {args : List (Bool × Sem Value)} {Q : Value → Shared → Prop} (hplain : args.any (·.1) = false)
    (h : wpAny M A (evalArgs (.ref u) true args []) (fun x s₁ => s₁.heap.get? u = some fkB ∧ wpAny M A (call (.ref u) (first ++ x.pos) x.kw) Q E s₁) E s) : wpAny M A (callWith pos (.ref u) first args []) Q E s := by
  unfold callWith
  refine wpAny_bind (wpAny_holding (wpAny_mono h (fun x s₁ h₁ => wpAny_bind (wpAny_standAt ?_)) fun _ _ x => x))
  obtain ⟨ho, hcall⟩ := h₁
  simp only [hplain, List.any_nil, Bool.or_false]
  refine wpAny_bind (m := keeperOf (.ref u)) ?_
  unfold keeperOf
  refine wpAny_bind (wpAny_load ho ?_)
  simp only [fkB, show (Value.type "builtin_function_or_method" != Value.type "method") = true by decide, show (Value.type "builtin_function_or_method" == Value.type "builtin_function_or_method" || Value.type "builtin_function_or_method" == Value.type "method-wrapper") = true by decide, if_true]
  refine wpAny_pure ?_
  exact wpAny_bind (wpAny_mono hcall (fun r s₂ hr => wpAny_bind (wpAny_holding (wpAny_point (wpAny_pure hr)))) fun _ _ x => x)
theorem check_fk (v : Value) : checkBoundCall "dict.fromkeys" ⟨[.type "dict", v], []⟩ = pure () := by first | kernel_rfl | rfl

/-- dict.fromkeys(names) -/
theorem fk_call {m : Bool} {l : List Nat} {W : Addr → Prop} {frs : List Env} {x : Addr} {v : Value} (rm : Rm n frs A) (st : St hb W frs s) (hlow : 1 < s.heap.objs.size) (ho : s.heap.get? x = some fkB) (hv : (vList (nmV m) l).ok W s.heap v) :
    wpAny (model prog w) A (call (.ref x) [v]) (fun z s' => Kp (frS frs) s s' ∧ (vDct prog w m (dedupL l)).ok W s'.heap z) E s := by
  have lm : l.length ≤ 1000 := hv.1
  refine wpAny_call (codeAny_of_tree ?_)
  show wpAny _ A.in1 (callAny (.ref x) ⟨[v], []⟩) _ _ s
  simp only [callAny]
  refine wpAny_bind (wpAny_load ho ?_)
  simp only [fkB, show (Value.type "builtin_function_or_method" == Value.type "method" || Value.type "builtin_function_or_method" == Value.type "builtin_function_or_method" || Value.type "builtin_function_or_method" == Value.type "method-wrapper") = true by decide, if_true]
  refine KFB.if_so (by decide) ?_
  refine wpAny_bind (wpAny_of_eq (a := ()) (check_fk v) ?_)
  refine wpAny_bind (wpAny_pure (wpAny_pure ⟨quiet_fk, codeAny_builtin entry_fk ?_⟩))
  rw [Around.under_plainId plain_fk _]
  unfold Builtin.«dict.fromkeys»
  refine wpAny_bind (wpAny_of_eq (a := true) isType_dict ?_)
  refine KFB.if_not rfl ?_
  refine wpAny_bind (wpAny_of_eq (a := true) isSubtype_dict_dict ?_)
  refine KFB.if_not rfl ?_
  refine KFB.if_not rfl ?_
  refine wpAny_bind (wpAny_rule ?_)
  refine wpAny_bind (wpAny_pure ?_)
  show wpAny (model prog w) A.in1 (call (.type "dict") [] >>= fun d => _) _ _ s
  refine wpAny_bind (call_dict0 ?_)
  refine wpAny_holding ?_
  have hnew : (s.heap.push { cls := .type "dict", data := .dict #[] }).DictOf (nmKind prog w m) s.heap.objs.size [] := Heap.DictOf.new s.heap
  have k₁ : Kp (frS frs) s { s with heap := s.heap.push { cls := .type "dict", data := .dict #[] } } := Kp.push1 _ _ _
  have st₁ := st.kp k₁
  have hv₁ := VP.kp hv k₁.same st.wf
  have hvT : ({ s with heap := s.heap.push { cls := .type "dict", data := .dict #[] } } : Shared).TypeIs v "list" := by
    obtain ⟨_, a, us, rfl, _, ⟨ne, e⟩, _⟩ := hv₁
    exact ⟨_, e, rfl⟩
  refine wpAny_bind (wpAny_typeOf hvT ?_)
  refine wpAny_bind (wpAny_typeOf hnew.typeIs ?_)
  rw [if_neg (by decide)]
  refine wpAny_bind (wpAny_typeOf hnew.typeIs ?_)
  rw [if_neg (by decide)]
  obtain ⟨_, a, us, rfl, nwa, ⟨ne, ea⟩, pa⟩ := hv
  have hlen := Paired.length pa
  have had : a ≠ s.heap.objs.size := Nat.ne_of_lt (Heap.lt_size ea)
  have hpl : (s.heap.push { cls := .type "dict", data := .dict #[] }).IsList a us.toArray := (show s.heap.PlainList a us.toArray from ⟨ne, ea⟩).isList.push _
  refine wpAny_bind (wpAny_pyIter_list (s := { s with heap := s.heap.push { cls := .type "dict", data := .dict #[] } }) hpl ?_)
  refine wpAny_pure ⟨plainId_quiet plain_fkloop _, ?_⟩
  have hsz : (s.heap.push { cls := .type "dict", data := .dict #[] }).objs.size = s.heap.objs.size + 1 := Heap.size_push ..
  have haI : a ≠ (s.heap.push { cls := .type "dict", data := .dict #[] }).objs.size := by rw [hsz]; exact Nat.ne_of_lt (Nat.lt_succ_of_lt (Heap.lt_size ea))
  have hdI : s.heap.objs.size ≠ (s.heap.push { cls := .type "dict", data := .dict #[] }).objs.size := by rw [hsz]; exact Nat.ne_of_lt (Nat.lt_succ_self _)
  have it := Itr.list (prog := prog) (w := w) (A := A.in1) rm.hh (s.heap.push { cls := .type "dict", data := .dict #[] }).objs.size a haI us.toArray
  rw [show us.toArray.size = l.length by rw [List.size_toArray, hlen]] at it
  have hfresh : ∀ c o, s.heap.get? c = some o → c ≠ s.heap.objs.size ∧ c ≠ (s.heap.push { cls := .type "dict", data := .dict #[] }).objs.size := fun c o e => ⟨Nat.ne_of_lt (Heap.lt_size e), by rw [hsz]; exact Nat.ne_of_lt (Nat.lt_succ_of_lt (Heap.lt_size e))⟩
  refine fk_loop (m := m) (l := l) it hdI (by simp only [List.mem_cons, List.not_mem_nil, or_false, not_or]; exact ⟨hdI, Ne.symm had⟩) (fun i v e => ?_) lm { s with heap := (s.heap.push { cls := .type "dict", data := .dict #[] }).push { cls := .type "list_iterator", data := .fields #[.ref a, .int 0 0] } } (fun h' tk hk hm => ?_) l.length 0 _ s.toks (by lia)
    ⟨⟨_, Heap.get?_push_size _ rfl, rfl, rfl⟩, hpl.push _⟩ (hnew.push _) (fun _ _ _ _ e => e)
  · obtain ⟨x, e1, e2⟩ := Paired.get' pa (i := i) (a := v) (by simpa using e)
    exact ⟨x, e1, nmIs_of e2⟩
  · obtain ⟨ep, hat⟩ := hm.dictAt
    refine ⟨Kp.all fun c o e => hk c o (hfresh c o e).1 (hfresh c o e).2 (Heap.get?_push_of_some _ (Heap.get?_push_of_some _ e)), ?_, s.heap.objs.size, ep, rfl, st.fresh, ?_, hat⟩
    · have := dedupL_len l; lia
    · rw [beq_eq_false_iff_ne]
      show s.heap.objs.size ≠ 1
      lia
end
end Mine
end

section
open PySem PySem.W PyProof.Rows PySem.Calls
set_option Elab.async false
set_option autoImplicit false
set_option linter.unusedVariables false
set_option maxRecDepth 100000
namespace Mine
noncomputable def f167 (w : World) : DefOf w 167 := ⟨(_, _), rfl, rfl⟩
section
variable {prog : Program} {w : World} {hb : Heap} {n : Nat} {mg mb : Str → Option Value} {env : Env} {σ : List (Str × VP)}
theorem low_size {W : Addr → Prop} {frs : List Env} {s : Shared} (G : Gd w hb mg mb) (st : St hb W frs s) : 1 < s.heap.objs.size := by
  have h := st.stay 174 _ (G.kin _ _ (f174 w).2.1)
  exact Nat.lt_of_le_of_lt (show 1 ≤ 174 by decide) (Heap.lt_size h)
theorem ev_fromkeys (G : Gd w hb mg mb) {m : Bool} {l : List Nat} {e : Expr} {pd pa pc : Pos} (hk : env.kindOf "dict" = some .globalImplicit) (he : Ev prog w hb n env σ e (vList (nmV m) l)) (hline : (pa.endLine == pc.line) = true := by rfl) (hst : starEach [e] env = [(false, eval e env)] := by rfl) :
    Ev prog w hb n env σ (.Call (.Attribute (.Name "dict" pd) "fromkeys" pa) [e] [] pc) (vDct prog w m (dedupL l)) := by
  intro W frs A s E rm o
  rw [arm_eval_Call, show attributeBase (.Name "dict" pd) "fromkeys" env (eval (.Name "dict" pd) env) = eval (.Name "dict" pd) env from rfl]
  refine wpAny_bind (wpAny_mono (ev_blt (pos := pd) G (x := "dict") (v := .type "dict") rfl rfl (by decide) hk rfl W frs A s E rm o) (fun v s₁ ⟨k₁, p₁⟩ => ?_) fun _ _ x => x)
  obtain rfl : v = .type "dict" := p₁
  have o₁ := o.kp k₁
  refine wpAny_bind (wpAny_standAt ?_)
  rw [hst]
  have hform : methodCallForm ([e].length + ([] : List Keyword).length) (backTo pc [(false, eval e env)]) (backToKw pc (keywordEach [] env)) = true := rfl
  have hpos : methodCallPos true (.Name "dict" pd) env pa pc = pure pc := by unfold methodCallPos; simp [hline]
  unfold methodCall
  rw [hform]
  refine wpAny_bind (wpAny_holding (fk_getm (fun a o e => o₁.stay a o (G.kin a o e)) ?_))
  refine wpAny_bind (wpAny_of_eq hpos ?_)
  have k₂ : Kp (frS frs) s₁ { s₁ with heap := s₁.heap.push fkB, toks := s₁.toks + 1 } := Kp.all fun a ob e => Heap.get?_push_of_some _ e
  have o₂ := o₁.kp k₂
  have hx : (s₁.heap.push fkB).get? s₁.heap.objs.size = some fkB := Heap.get?_push_size _ rfl
  have nf : s₁.heap.objs.size ∉ frS frs := fun q => o₁.toSt.fresh (o₁.wf _ q)
  refine fk_callWith rfl (evalArgs_plain (Calls.spliced_cons (wpAny_mono (he W frs A _ E rm o₂) (fun v s₃ ⟨k₃, p₃⟩ => Calls.spliced_nil ?_) fun _ _ x => x)))
  refine ⟨k₃.get hx nf, ?_⟩
  have o₃ := o₂.kp k₃
  exact wpAny_mono (fk_call rm o₃.toSt (low_size G o₃.toSt) (k₃.get hx nf) p₃) (fun z s₄ ⟨k₄, p₄⟩ => ⟨((k₁.trans k₂).trans k₃).trans k₄, p₄⟩) fun _ _ x => x

theorem fn_fk (G : Gd w hb mg mb) : FnAt hb 167 (f167 w).1.1 (f167 w).1.2 := fnAt G (f167 w) rfl rfl rfl rfl rfl rfl rfl
theorem cl_dd (G : Gd w hb mg mb) {m : Bool} (l : List Nat) : Cl prog w hb (n + 1) (.ref 167) [vList (nmV m) l] (vDct prog w m (dedupL l)) := by
  intro W frs A s E vs rm st hp
  cases hp with
  | cons h1 h2 =>
  cases h2
  rename_i v
  have hbind : BindsTo s (f167 w).1.1 ⟨[v], []⟩ [("params", v), ("unhashable_fallback", .bool false)] := fun M A E Q hq => by
    have X : (KF w).In s.heap := fun a o e => st.stay a o (G.kin a o e)
    exact (Looks.of_peek X rfl).here hq
  refine wpAny_call (fn_enter G (fn_fk G) (Ps := [vList (nmV m) l, vBool false]) rm st hbind (.cons h1 (.cons rfl .nil)) (show (["params", "unhashable_fallback"] : List Str).Nodup by decide) rfl fun s₁ i₁ => ?_)
  have rm' := rm_deeper (env := fE (f167 w).1.1 s.heap.objs.size 167) rm
  refine wpAny_execs_cons (wpAny_Try_except ?_)
  exact x_ret i₁ rm' (ev_fromkeys G rfl (ev_name rfl)) fun v s' i p => ⟨i.kp, VP.out p⟩
end
end Mine
end

section
open PySem PySem.W PyProof.Rows PySem.Calls
set_option Elab.async false
set_option autoImplicit false
set_option linter.unusedVariables false
set_option maxRecDepth 100000
namespace Mine
noncomputable def f159 (w : World) : DefOf w 159 := ⟨(_, _), rfl, rfl⟩
section
variable {prog : Program} {w : World} {hb : Heap} {n : Nat} {mg mb : Str → Option Value} {env : Env} {σ : List (Str × VP)}
theorem cl_isBytes {m : Bool} {l : List Nat} : Cl prog w hb n (.builtin "isinstance") [vTx m l, vIs (.type "bytes")] (vBool m) := by
  intro W frs A s E vs rm st hp
  cases hp with
  | cons h1 h2 =>
  cases h2 with
  | cons h2 h3 =>
  cases h3
  obtain ⟨_, t, rfl⟩ := h1
  obtain rfl := h2
  cases m with
  | true => exact call_isinstance (isinstance_true (Tx := "bytes") F.isi_meta_bytes F.sub_bytes_bytes) ⟨rfl, .refl _ _, rfl⟩
  | false => exact IsiPair.str_bytes ⟨.tok1 _ _ _, rfl⟩
theorem fn_sep (G : Gd w hb mg mb) : FnAt hb 159 (f159 w).1.1 (f159 w).1.2 := fnAt G (f159 w) rfl rfl rfl rfl rfl rfl rfl
theorem cl_sep (G : Gd w hb mg mb) {m : Bool} {l : List Nat} : Cl prog w hb (n + 1) (.ref 159) [vTx m l] (vTx m [47]) := by
  intro W frs A s E vs rm st hp
  cases hp with
  | cons h1 h2 =>
  cases h2
  rename_i v
  refine wpAny_call (fn_enter G (fn_sep G) (binds := [("path", v)]) (Ps := [vTx m l]) rm st (BindsTo.of_eq rfl) (.cons h1 .nil) (by simp) rfl fun s₁ i₁ => ?_)
  have rm' := rm_deeper (env := fE (f159 w).1.1 s.heap.objs.size 159) rm
  refine x_if (b := m) i₁ rm' (tr_of (ev_callB (ev_blt G rfl rfl (by decide) rfl) (evl_cons (ev_name rfl) (evl_cons (ev_blt G rfl rfl (by decide) rfl) evl_nil)) cl_isBytes) tv_bool) ?_ ?_
  · rintro rfl s₂ i₂
    exact x_ret i₂ rm' (ev_bytes (l := [47]) rfl (by decide)) fun v s' i p => ⟨i.kp, VP.out p⟩
  · rintro rfl s₂ i₂
    exact x_ret i₂ rm' (ev_str (l := [47]) rfl (by decide)) fun v s' i p => ⟨i.kp, VP.out p⟩
end
end Mine
end

section
open PySem PySem.W PyProof.Rows PySem.Calls
set_option Elab.async false
set_option autoImplicit false
set_option linter.unusedVariables false
set_option maxRecDepth 100000
namespace Mine
section
variable {prog : Program} {w : World} {hb : Heap} {n : Nat} {env : Env} {σ : List (Str × VP)} {B s s' : Shared} {W0 N : Addr → Prop} {fr₀ : List Env} {X : HP} {A : Around} {E : Value → Shared → Prop}
theorem In.eqN {N' : Addr → Prop} (i : In hb B W0 N fr₀ env σ X s) (h : ∀ a, N a ↔ N' a) : In hb B W0 N' fr₀ env σ X s := by
  have : N = N' := funext fun a => propext (h a)
  exact this ▸ i

/-- a loop whose turns may make new written lists -/
theorem x_forN {α : Type} {R : α → VP} {xs : List α} {Pi : VP} {t iter : Expr} {body : List Stmt} {pos : Pos} {τ : α → List (Str × VP)} {Q : Flow → Shared → Prop}
    (σi : Nat → List (Str × VP)) (Rel : Nat → HP → Prop)
    (i : In hb B W0 N fr₀ env σ X s) (rm : Rm n (env :: fr₀) A) (hi : Ev prog w hb n env σ iter Pi) (hit : IterP prog w hb Pi xs R)
    (h0 : Has σ (σi 0)) (r0 : Rel 0 X)
    (ha : ∀ k x, xs[k]? = some x → Asg prog w hb n env (σi k) t (R x) (τ x))
    (turn : ∀ N' Y X' k x s' (E : Value → Shared → Prop), (∀ a, N a → N' a) → xs[k]? = some x → Rel k X' → In hb B W0 N' fr₀ env (τ x ++ σi k) (hAnd Y X') s' → wpAny (model prog w) A (execs body env) (fun f s'' => match f with
      | .next | .cont => ∃ N'' X'', (∀ a, N' a → N'' a ∨ X'.ds a) ∧ (∀ a, N a → N'' a) ∧ Rel (k + 1) X'' ∧ In hb B W0 N'' fr₀ env (σi (k + 1)) (hAnd Y X'') s''
      | .brk => Q .next s''
      | .ret v => Q (.ret v) s'') E s')
    (fin : ∀ s' N' X', (∀ a, N a → N' a) → Rel xs.length X' → In hb B W0 N' fr₀ env (σi xs.length) X' s' → Q .next s')
    (hs : ∀ x, foldedSetIterable iter env x = pure x := by intro _; rfl) :
    wpAny (model prog w) A (exec (.For t iter body [] pos) env) Q E s := by
  refine wpAny_For (wpAny_mono (hi _ _ A s E rm i.ok) (fun v s₁ ⟨k₁, p₁⟩ => ?_) fun _ _ x => x) hs
  have i₁ := (i.pure k₁).to h0
  refine hit _ _ A s₁ E v _ rm.hh i₁.ok.toSt p₁ fun I fp Pt S h' it hk hI hfp hS0 hPt => ?_
  have nWI : ¬ (W0 I ∨ N I) := fun q => by obtain ⟨o, e⟩ := i₁.ok.wd I q; rw [hI] at e; cases e
  have hko : Kp (frS (env :: fr₀)) s₁ { s₁ with heap := h' } := Kp.all' hk
  have i₂ := i₁.grow (Z := fun a => a = I) hko (by rintro a rfl; exact ⟨hI, it.there 0 _ hS0⟩)
  have domI : ∀ a o, s₁.heap.get? a = some o → ¬ (W0 a ∨ N a) → ¬ (W0 a ∨ N a ∨ a = I) := fun a o e na => by
    rintro (h | h | rfl)
    · exact na (.inl h)
    · exact na (.inr h)
    · rw [hI] at e; cases e
  have nOwnI : ¬ Own env I := fun q => nWI (.inr (q.elim (fun q => q ▸ i.nl) fun ⟨y, e⟩ => i.nc y I e))
  have nW0I : ¬ W0 I := fun q => nWI (.inl q)
  have nfI : I ∉ frS (env :: fr₀) := fun m => nWI (i.ok.wf I m)
  have srcOk : ∀ b ∈ fp, b ≠ I → ¬ (W0 b ∨ N b ∨ b = I) ∧ ∃ ob, s₁.heap.get? b = some ob ∧ h'.get? b = some ob := fun b hb q => by
    obtain ⟨nb, ob, e⟩ := (hfp b hb).resolve_left q
    exact ⟨domI b ob e nb, ob, e, hk b ob e⟩
  have itOk : ∀ i v, Pt i v → ∃ x, xs[i]? = some x ∧ (R x).ok (fun a => W0 a ∨ N a ∨ a = I) h' v := fun i v p => by
    obtain ⟨x, e1, e2⟩ := hPt i v p
    exact ⟨x, e1, (R x).st e2 fun a o e na => ⟨domI a o e na, hk a o e⟩⟩
  refine for_loop it (fun k s' => ∃ N' X' o, Rel k X' ∧ N' I ∧ (∀ a, N a → N' a) ∧ (∀ a, X'.ds a → a ≠ I) ∧ S k s'.heap ∧ (hSrc I o fp s₁.heap Pt xs R).ok (fun a => W0 a ∨ N' a) s'.heap ∧ In hb B W0 N' fr₀ env (σi k) X' s') ?_ ?_ ?_ ?_
  · rintro k s' ⟨_, _, _, _, _, _, _, h, _⟩
    exact h
  · rintro k s' v h₂ tk E' hE' hlt ⟨N', X', o, rk, NI, hNN, hXI, hS, ⟨e1, e2, e3⟩, ik⟩ hp hS1 hk2
    obtain ⟨x, hx, hv⟩ := e3 k v hp
    obtain ⟨o₂, eo⟩ := it.there _ _ hS1
    have chg : ∀ a ob, s'.heap.get? a = some ob → ¬ (W0 a ∨ N' a) → ¬ (W0 a ∨ N' a) ∧ h₂.get? a = some ob := fun a ob e na => ⟨na, hk2 a ob (fun q => na (.inr (q ▸ NI))) e⟩
    have oi : Ok hb (fun a => W0 a ∨ N' a) (env :: fr₀) env (σi k) { s' with heap := h₂, toks := tk } :=
      ik.ok.upd (fun a => a = I) (fun a ob e na => hk2 a ob na e) (by rintro z rfl; exact ⟨.inr NI, nfI, nOwnI, o₂, eo⟩)
    have ik2 := ik.chg (σ' := σi k) (tk := tk) (fun a => a = I) (fun a q => q ▸ NI) (fun a ob e na => hk2 a ob na e) (fun a d q => hXI a d q) oi
    have y2 : (hSrc I o₂ fp s₁.heap Pt xs R).ok (fun a => W0 a ∨ N' a) h₂ :=
      ⟨eo, fun b hb q => let ⟨nw, ob, f1, f2⟩ := e2 b hb q; ⟨nw, ob, f1, hk2 b ob q f2⟩, fun j u pj => let ⟨z, g1, g2⟩ := e3 j u pj; ⟨z, g1, (R z).st g2 chg⟩⟩
    have ik3 : In hb B W0 N' fr₀ env (σi k) (hAnd (hSrc I o₂ fp s₁.heap Pt xs R) X') { s' with heap := h₂, toks := tk } :=
      { ik2 with xo := ⟨y2, ik2.xo, fun a q d => hXI a d q⟩, xd := fun a d => d.elim (fun q => by have : a = I := q; subst this; exact ⟨NI, nOwnI⟩) (ik2.xd a) }
    refine in_asg ik3 rm (ha k x hx) ((R x).st hv chg) fun s₃ i₃ => wpAny_mono (turn _ _ _ k x s₃ E' hNN hx rk i₃) (fun f s₄ h₄ => ?_) fun _ _ x => x
    have nxt : (∃ N'' X'', (∀ a, N' a → N'' a ∨ X'.ds a) ∧ (∀ a, N a → N'' a) ∧ Rel (k + 1) X'' ∧ In hb B W0 N'' fr₀ env (σi (k + 1)) (hAnd (hSrc I o₂ fp s₁.heap Pt xs R) X'') s₄) →
        ∃ N' X' o, Rel (k + 1) X' ∧ N' I ∧ (∀ a, N a → N' a) ∧ (∀ a, X'.ds a → a ≠ I) ∧ S (k + 1) s₄.heap ∧ (hSrc I o fp s₁.heap Pt xs R).ok (fun a => W0 a ∨ N' a) s₄.heap ∧ In hb B W0 N' fr₀ env (σi (k + 1)) X' s₄ := by
      rintro ⟨N'', X'', hN2, hN3, rk2, i₄⟩
      obtain ⟨y4, x4, hdis⟩ := i₄.xo
      refine ⟨N'', X'', o₂, rk2, (hN2 I NI).resolve_right fun d => hXI I d rfl, hN3, fun a d q => hdis a q d, it.frame _ _ _ hS1 fun b hb ob e => ?_, y4, i₄.forget (fun W h q => q.2.1) fun a d => .inr d⟩
      by_cases q : b = I
      · subst q
        rw [eo] at e; cases e
        exact y4.1
      · obtain ⟨_, ob1, f1, f2⟩ := y2.2.1 b hb q
        obtain ⟨_, ob2, f3, f4⟩ := y4.2.1 b hb q
        rw [f2] at e; cases e
        rw [f1] at f3; cases f3
        exact f4
    cases f with
    | next => exact nxt h₄
    | cont => exact nxt h₄
    | brk => exact h₄
    | ret v => exact h₄
  · rintro s' h₂ tk ⟨N', X', o, rk, NI, hNN, hXI, hS, _, ik⟩ hk2
    have ne : ∀ a, N a → N' a ∧ a ≠ I := fun a h => ⟨hNN a h, fun q => nWI (.inr (q ▸ h))⟩
    refine fin _ (fun a => N' a ∧ a ≠ I) X' ne rk ?_
    have ik' := ik.eqN (N' := fun a => (N' a ∧ a ≠ I) ∨ a = I) fun a => ⟨fun h => if q : a = I then .inr q else .inl ⟨h, q⟩, fun h => h.elim (·.1) fun q => q ▸ NI⟩
    exact ik'.drop (by rintro z rfl (h | h); exact nW0I h; exact h.2 rfl) (fun a ob e na => hk2 a ob na e) (ne _ i₁.nl) (fun x c e => ne _ (i₁.nc x c e)) fun a d => ⟨(ik.xd a d).1, hXI a d⟩
  · obtain ⟨o, eo⟩ := it.there 0 _ hS0
    exact ⟨fun a => N a ∨ a = I, X, o, r0, .inr rfl, fun a h => .inl h, fun a d q => nWI (.inr (q ▸ (i₁.xd a d).1)), hS0, ⟨eo, srcOk, itOk⟩, i₂⟩
end
end Mine
end

section
open PySem PySem.W PyProof.Rows PySem.Calls
set_option Elab.async false
set_option autoImplicit false
set_option linter.unusedVariables false
set_option maxRecDepth 100000
namespace Mine
/-- a list of lists whose last is still written -/
def hPcs (P : Addr) (pre : List (List Int)) (L : Addr) (cur : List Int) : HP :=
  ⟨fun W h => pre.length < 1000 ∧ cur.length ≤ 1000 ∧ P ≠ L ∧ ∃ vs us, h.PlainList P (List.toArray (vs ++ [Value.ref L])) ∧ Paired (fun v x => (vList vInt x).ok W h v) vs pre ∧ h.PlainList L (List.toArray us) ∧ Paired (fun v x => (vInt x).ok W h v) us cur,
   fun a => a = P ∨ a = L,
   fun {W W' h h'} ⟨l1, l2, hne, vs, us, ⟨n1, e1⟩, p1, ⟨n2, e2⟩, p2⟩ k kd => ⟨l1, l2, hne, vs, us, ⟨n1, kd P _ (.inl rfl) e1⟩, Paired.mono p1 fun _ x q => (vList vInt x).st q k, ⟨n2, kd L _ (.inr rfl) e2⟩, Paired.mono p2 fun _ x q => (vInt x).st q k⟩⟩
section
variable {prog : Program} {w : World} {hb : Heap} {n : Nat} {env : Env} {σ : List (Str × VP)} {B s s' : Shared} {W0 N : Addr → Prop} {fr₀ : List Env} {X Y : HP} {A : Around} {E : Value → Shared → Prop} {mg mb : Str → Option Value}
variable {P L : Addr} {pre : List (List Int)} {cur : List Int}

theorem In.pcN (i : In hb B W0 N fr₀ env σ (hAnd Y (hPcs P pre L cur)) s) : ∀ a, a = P ∨ a = L → N a ∧ ¬ Own env a ∧ a ∉ frS (env :: fr₀) ∧ ¬ Y.ds a := fun a h => by
  obtain ⟨x, y⟩ := i.xd a (.inr h)
  refine ⟨x, y, fun m => ?_, fun d => i.xo.2.2 a d h⟩
  rw [frS_cons i.fo] at m
  rcases List.mem_cons.mp m with q | q
  · exact y (.inl q)
  · exact i.notFr x q

/-- the last list is written no more -/
theorem In.seal (i : In hb B W0 N fr₀ env σ (hAnd Y (hPcs P pre L cur)) s) : In hb B W0 (fun a => N a ∧ a ≠ L) fr₀ env σ (hAnd Y (hList (vList vInt) P (pre ++ [cur]))) s := by
  obtain ⟨nP, oP, fP, yP⟩ := i.pcN P (.inl rfl)
  obtain ⟨nL, oL, fL, yL⟩ := i.pcN L (.inr rfl)
  obtain ⟨yo, ⟨l1, l2, hne, vs, us, p1, q1, p2, q2⟩, hdis⟩ := i.xo
  have hl : N env.locals ∧ env.locals ≠ L := ⟨i.nl, fun q => oL (.inl q.symm)⟩
  have hc : ∀ x c, env.cells.lookup x = some c → N c ∧ c ≠ L := fun x c e => ⟨i.nc x c e, fun q => oL (.inr ⟨x, q ▸ e⟩)⟩
  have sub : ∀ a, (W0 a ∨ N a ∧ a ≠ L) → W0 a ∨ N a := fun a h => h.imp id (·.1)
  have nW0 : ¬ W0 L := fun h => by
    obtain ⟨o, e⟩ := i.b0.wd L h
    rw [i.nw L nL] at e; cases e
  have mono : ∀ (V : VP) v, V.ok (fun a => W0 a ∨ N a) s.heap v → V.ok (fun a => W0 a ∨ N a ∧ a ≠ L) s.heap v := fun V v q => V.st q fun a o e na => ⟨fun h => na (sub a h), e⟩
  have iY : In hb B W0 N fr₀ env σ Y s := i.forget (fun _ _ q => q.1) fun a d => .inl d
  have iY' := iY.less (N := fun a => N a ∧ a ≠ L) (fun a h => h.1) hl hc fun a d => ⟨(i.xd a (.inl d)).1, fun q => yL (q ▸ d)⟩
  exact { iY' with
    xo := ⟨iY'.xo, ⟨by rw [List.length_append]; simp; omega, vs ++ [.ref L], p1, Paired.app (Paired.mono q1 fun v x q => mono _ v q) (.cons ⟨l2, L, us, rfl, fun h => h.elim nW0 fun h => h.2 rfl, p2, Paired.mono q2 fun v x q => mono _ v q⟩ .nil)⟩, fun a d q => yP (by have : a = P := q; exact this ▸ d)⟩
    xd := fun a d => d.elim (iY'.xd a) fun q => by
      have : a = P := q
      subst this
      exact ⟨⟨nP, hne⟩, oP⟩ }

/-- a new list at the end -/
theorem x_appendNew {l : List (List Int)} {x : Str} {px pa pc pl pos : Pos} (i : In hb B W0 N fr₀ env σ (hAnd Y (hList (vList vInt) P l)) s) (rm : Rm n (env :: fr₀) A) (hx : σ.lookup x = some (vRef P)) (lm : l.length < 1000)
    (hline : (pa.endLine == pc.line) = true := by rfl) (hi : interactive env = false := by rfl) (hd : (x == ("__debug__" : Str)) = false := by decide) (hc : (x == ("__classdict__" : Str)) = false := by decide) :
    wpAny (model prog w) A (exec (.Expr (.Call (.Attribute (.Name x px) "append" pa) [.List [] pl] [] pc) pos) env) (fun f s' => f = .next ∧ ∃ L, ¬ N L ∧ In hb B W0 (fun a => N a ∨ a = L) fr₀ env σ (hAnd Y (hPcs P l L [])) s') E s := by
  refine x_expr (J := fun s' => ∃ L, ¬ N L ∧ In hb B W0 (fun a => N a ∨ a = L) fr₀ env σ (hAnd Y (hPcs P l L [])) s') ?_ hi rfl
  refine Call_method1 (by rfl) rfl hline (name_wp i.ok hx (fun v p₁ => ?_) hd hc)
  obtain rfl : v = .ref P := p₁
  obtain ⟨_, ⟨_, vs, ⟨ne, ee⟩, pp⟩, _⟩ := i.xo
  refine ⟨"list", "list.append", F.plainAttrs_list, F.slot_list_append, F.type_list_append, ⟨_, ee, rfl⟩, fun a q => by injection q with q; subst q; exact ⟨_, ee, rfl⟩, ?_⟩
  refine PySem.P.append_list (PyProof.Rows.List_ (args_nil (wpAny_newList ?_ (by simp [sizeLine_eq]))))
  have hlen := Paired.length pp
  have hDo : (s.heap.push { cls := .type "list", data := .seq [].toArray }).get? s.heap.objs.size = some { cls := .type "list", data := .seq [].toArray } := Heap.get?_push_size _ rfl
  have hD : s.heap.get? s.heap.objs.size = none := by
    cases e : s.heap.get? s.heap.objs.size with
    | none => rfl
    | some o => exact absurd (Heap.lt_size e) (Nat.lt_irrefl _)
  have nND : ¬ (W0 s.heap.objs.size ∨ N s.heap.objs.size) := i.ok.toSt.fresh
  have eP : (s.heap.push { cls := .type "list", data := .seq [].toArray }).get? P = some { cls := .type "list", data := .seq vs.toArray ne } := Heap.get?_push_of_some _ ee
  refine ⟨vs.toArray, ne, by rw [List.size_toArray, sizeLine_eq]; omega, eP, s.heap.objs.size, fun h => nND (.inr h), ?_⟩
  obtain ⟨nP, oP, fP, yP⟩ := i.listN
  have hPL : P ≠ s.heap.objs.size := Nat.ne_of_lt (Heap.lt_size ee)
  have i₁ := i.grow (Z := fun a => a = s.heap.objs.size) (s' := { s with heap := s.heap.push { cls := .type "list", data := .seq [].toArray } }) (Kp.push1 _ _ _) (by rintro a rfl; exact ⟨hD, _, hDo⟩)
  have hup : ((s.heap.push { cls := .type "list", data := .seq [].toArray }).update P (Obj.mapSeq fun xs => xs.push (Value.ref s.heap.objs.size))).get? P = some { cls := .type "list", data := .seq (vs ++ [Value.ref s.heap.objs.size]).toArray (ne + 1) } := by
    rw [Heap.get?_update_self _ eP (by rw [Obj.mapSeq_push_plain]; rfl), Obj.mapSeq_push_plain]
    simp
  have hoth : ∀ a o, (s.heap.push { cls := .type "list", data := .seq [].toArray }).get? a = some o → a ≠ P → ((s.heap.push { cls := .type "list", data := .seq [].toArray }).update P (Obj.mapSeq fun xs => xs.push (Value.ref s.heap.objs.size))).get? a = some o := fun a o e na => (Heap.get?_update_other _ _ (Ne.symm na)).trans e
  have oi : Ok hb (fun a => W0 a ∨ (N a ∨ a = s.heap.objs.size)) (env :: fr₀) env σ { s with heap := (s.heap.push { cls := .type "list", data := .seq [].toArray }).update P (Obj.mapSeq fun xs => xs.push (Value.ref s.heap.objs.size)) } :=
    i₁.ok.upd (tk := s.toks) (fun a => a = P) (fun a o e na => hoth a o e na) (by rintro z rfl; exact ⟨.inr (.inl nP), fP, oP, _, hup⟩)
  have iY : In hb B W0 (fun a => N a ∨ a = s.heap.objs.size) fr₀ env σ Y { s with heap := s.heap.push { cls := .type "list", data := .seq [].toArray } } := i₁.forget (fun _ _ q => q.1) fun a d => .inl d
  have iY' := iY.chg (σ' := σ) (tk := s.toks) (fun a => a = P) (fun a q => q ▸ .inl nP) (fun a o e na => hoth a o e na) (fun a d q => yP (q ▸ d)) oi
  have yL : ¬ Y.ds s.heap.objs.size := fun d => nND (.inr (i.xd _ (.inl d)).1)
  have oL : ¬ Own env s.heap.objs.size := fun q => nND (.inr (q.elim (fun q => q ▸ i.nl) fun ⟨y, e⟩ => i.nc y _ e))
  have sk : ∀ a o, s.heap.get? a = some o → ¬ (W0 a ∨ N a) → ¬ (W0 a ∨ (N a ∨ a = s.heap.objs.size)) ∧ ((s.heap.push { cls := .type "list", data := .seq [].toArray }).update P (Obj.mapSeq fun xs => xs.push (Value.ref s.heap.objs.size))).get? a = some o := fun a o e na => by
    refine ⟨?_, hoth a o (Heap.get?_push_of_some _ e) fun q => na (.inr (q ▸ nP))⟩
    rintro (h | h | h)
    · exact na (.inl h)
    · exact na (.inr h)
    · rw [h, hD] at e; cases e
  exact { iY' with
    xo := ⟨iY'.xo, ⟨lm, by simp, hPL, vs, [], ⟨ne + 1, hup⟩, Paired.mono pp fun _ x q => (vList vInt x).st q sk, ⟨0, hoth _ _ hDo (Ne.symm hPL)⟩, .nil⟩, fun a d q => q.elim (fun q => yP (q ▸ d)) fun q => yL (q ▸ d)⟩
    xd := fun a d => d.elim (iY'.xd a) fun q => q.elim (fun q => by rw [q]; exact ⟨.inl nP, oP⟩) fun q => by rw [q]; exact ⟨.inr rfl, oL⟩ }
end
end Mine
end

section
open PySem PySem.W PyProof.Rows PySem.Calls
set_option Elab.async false
set_option autoImplicit false
set_option linter.unusedVariables false
set_option maxRecDepth 100000
namespace Mine
noncomputable def f188 (w : World) : DefOf w 188 := ⟨(_, _), rfl, rfl⟩
section
variable {prog : Program} {w : World} {hb : Heap} {n : Nat} {env : Env} {σ : List (Str × VP)} {B s s' : Shared} {W0 N : Addr → Prop} {fr₀ : List Env} {X Y : HP} {A : Around} {E : Value → Shared → Prop} {mg mb : Str → Option Value}
variable {P L : Addr} {pre : List (List Int)} {cur : List Int}
/-- the written list of lists, read -/
theorem In.readP {x : Str} (i : In hb B W0 N fr₀ env σ (hAnd Y (hPcs P pre L cur)) s) (hx : σ.lookup x = some (vRef P)) :
    Ok hb (fun a => (W0 a ∨ N a) ∧ a ≠ P ∧ a ≠ L) (env :: fr₀) env ((x, vList (vList vInt) (pre ++ [cur])) :: σ) s := by
  obtain ⟨nP, oP, fP, yP⟩ := i.pcN P (.inl rfl)
  obtain ⟨nL, oL, fL, yL⟩ := i.pcN L (.inr rfl)
  have o := i.ok.less (W := fun a => (W0 a ∨ N a) ∧ a ≠ P ∧ a ≠ L) (fun a h => h.1) (fun a m => ⟨i.ok.wf a m, fun q => fP (q ▸ m), fun q => fL (q ▸ m)⟩) ⟨i.ok.wl, fun q => oP (.inl q.symm), fun q => oL (.inl q.symm)⟩ fun y c e => ⟨i.ok.wc y c e, fun q => oP (.inr ⟨y, q ▸ e⟩), fun q => oL (.inr ⟨y, q ▸ e⟩)⟩
  refine { o with nm := ?_ }
  obtain ⟨μ, f, r⟩ := o.nm
  obtain ⟨nk, v, e1, e2⟩ := r x _ hx
  obtain rfl : v = .ref P := e2
  obtain ⟨_, ⟨l1, l2, hne, vs, us, p1, q1, p2, q2⟩, _⟩ := i.xo
  have mono : ∀ (V : VP) v, V.ok (fun a => W0 a ∨ N a) s.heap v → V.ok (fun a => (W0 a ∨ N a) ∧ a ≠ P ∧ a ≠ L) s.heap v := fun V v q => V.st q fun a o e na => ⟨fun h => na h.1, e⟩
  refine ⟨μ, f, fun y Q e => ?_⟩
  by_cases hy : y = x
  · subst hy
    rw [List.lookup_cons_self] at e
    cases e
    exact ⟨nk, _, e1, by rw [List.length_append]; simp; lia, P, vs ++ [.ref L], rfl, fun h => h.2.1 rfl, p1, Paired.app (Paired.mono q1 fun v x q => mono _ v q) (.cons ⟨l2, L, us, rfl, fun h => h.2.2 rfl, p2, Paired.mono q2 fun v x q => mono _ v q⟩ .nil)⟩
  · rw [List.lookup_cons, beq_eq_false_iff_ne.mpr hy] at e
    exact r y Q e

theorem x_appendLast {x : Str} {e : Expr} {z : Int} {px pa pc ps pu p1 pos : Pos} {k1 : Nat} (i : In hb B W0 N fr₀ env σ (hAnd Y (hPcs P pre L cur)) s) (rm : Rm n (env :: fr₀) A) (hx : σ.lookup x = some (vRef P)) (he : Ev prog w hb n env σ e (vInt z)) (lm : cur.length < 1000)
    (hline : (pa.endLine == pc.line) = true := by rfl) (hst : starEach [e] env = [(false, eval e env)] := by rfl) (hi : interactive env = false := by rfl) (hd : (x == ("__debug__" : Str)) = false := by decide) (hc : (x == ("__classdict__" : Str)) = false := by decide)  :
    wpAny (model prog w) A (exec (.Expr (.Call (.Attribute (.Subscript (.Name x px) (.UnaryOp .USub (.Constant (.int 1) k1 p1) pu) ps) "append" pa) [e] [] pc) pos) env) (fun f s' => f = .next ∧ In hb B W0 N fr₀ env σ (hAnd Y (hPcs P pre L (cur ++ [z]))) s') E s := by
  refine x_expr (J := fun s' => In hb B W0 N fr₀ env σ (hAnd Y (hPcs P pre L (cur ++ [z]))) s') ?_ hi rfl
  refine Call_method1 (by rfl) hst hline (Subscript_ (name_wp i.ok hx (fun v p₁ => ?_) hd hc))
  obtain rfl : v = .ref P := p₁
  refine wpAny_mono (ev_neg (pos := pu) (ev_int (k := k1) (pos := p1)) _ _ A s E rm i.ok) (fun u s₁ ⟨k₁, p₁⟩ => ?_) fun _ _ x => x
  obtain ⟨tk, rfl⟩ := p₁
  have i₁ := i.pure k₁
  obtain ⟨_, ⟨l1, l2, hne, vs, us, pl1, q1, ⟨n2, e2⟩, q2⟩, _⟩ := i₁.xo
  have hlast : (vs ++ [Value.ref L]).toArray[(-1 + ((vs ++ [Value.ref L]).toArray.size : Int)).toNat]? = some (Value.ref L) := by
    have e : (-1 + ((vs ++ [Value.ref L]).toArray.size : Int)).toNat = vs.length := by simp; lia
    rw [e]; simp
  refine tail_any pl1.isList.typeIs slot_list_getitem.lookup (wpAny_getItem_list_neg (x := .ref L) pl1.isList (by decide) (by simp; lia) (by decide) hlast ?_) (by with_unfolding_all rfl)
  refine ⟨"list", "list.append", F.plainAttrs_list, F.slot_list_append, F.type_list_append, ⟨_, e2, rfl⟩, fun a q => by injection q with q; subst q; exact ⟨_, e2, rfl⟩, ?_⟩
  refine PySem.P.append_list (wpAny_mono (he _ _ A s₁ E rm i₁.ok) (fun u s₂ ⟨k₂, p₂⟩ => ?_) fun _ _ x => x)
  have i₂ := i₁.pure k₂
  obtain ⟨nP, oP, fP, yP⟩ := i₂.pcN P (.inl rfl)
  obtain ⟨nL, oL, fL, yL⟩ := i₂.pcN L (.inr rfl)
  obtain ⟨_, ⟨l1, l2, hne, vs, us, ⟨n1, e1⟩, q1, ⟨n2, e2⟩, q2⟩, hdis⟩ := i₂.xo
  have hlen := Paired.length q2
  refine ⟨us.toArray, n2, by rw [List.size_toArray, sizeLine_eq]; lia, e2, ?_⟩
  have hup : (s₂.heap.update L (Obj.mapSeq fun xs => xs.push u)).get? L = some { cls := .type "list", data := .seq (us ++ [u]).toArray (n2 + 1) } := by
    rw [Heap.get?_update_self _ e2 (by rw [Obj.mapSeq_push_plain]; rfl), Obj.mapSeq_push_plain]
    simp
  have hoth : ∀ a o, s₂.heap.get? a = some o → a ≠ L → (s₂.heap.update L (Obj.mapSeq fun xs => xs.push u)).get? a = some o := fun a o e na => (Heap.get?_update_other _ _ (Ne.symm na)).trans e
  have oi : Ok hb (fun a => W0 a ∨ N a) (env :: fr₀) env σ { s₂ with heap := s₂.heap.update L (Obj.mapSeq fun xs => xs.push u) } :=
    i₂.ok.upd (tk := s₂.toks) (fun a => a = L) (fun a o e na => hoth a o e na) (by rintro z rfl; exact ⟨.inr nL, fL, oL, _, hup⟩)
  have iY : In hb B W0 N fr₀ env σ Y s₂ := i₂.forget (fun _ _ q => q.1) fun a d => .inl d
  have iY' := iY.chg (σ' := σ) (tk := s₂.toks) (fun a => a = L) (fun a q => q ▸ nL) (fun a o e na => hoth a o e na) (fun a d q => yL (q ▸ d)) oi
  have sk : ∀ a o, s₂.heap.get? a = some o → ¬ (W0 a ∨ N a) → ¬ (W0 a ∨ N a) ∧ (s₂.heap.update L (Obj.mapSeq fun xs => xs.push u)).get? a = some o := fun a o e na => ⟨na, hoth a o e fun q => na (.inr (q ▸ nL))⟩
  exact { iY' with
    xo := ⟨iY'.xo, ⟨l1, by rw [List.length_append]; simp; lia, hne, vs, us ++ [u], ⟨n1, hoth P _ e1 hne⟩, Paired.mono q1 fun _ x q => (vList vInt x).st q sk, ⟨n2 + 1, hup⟩, Paired.app (Paired.mono q2 fun _ x q => (vInt x).st q sk) (.cons p₂ .nil)⟩, hdis⟩
    xd := fun a d => i₂.xd a d }
end
end Mine
end

section
open PySem PySem.W PyProof.Rows PySem.Calls
set_option Elab.async false
set_option autoImplicit false
set_option linter.unusedVariables false
set_option maxRecDepth 100000
namespace Mine
def pcD (x : Int) : Int := if x.fmod 11 ≠ 0 then (x.fmod 11 - 1).fmod 5 + 1 else 0
def pcStep (acc : List (List Int)) (x : Int) : List (List Int) :=
  match acc.getLast? with
  | none => [[pcD x]]
  | some c => if 5 < x.fmod 11 then acc ++ [[pcD x]] else acc.dropLast ++ [c ++ [pcD x]]
def pieces (ns : List Int) : List (List Int) := ns.foldl pcStep []
theorem pcStep_snoc (pre : List (List Int)) (cur : List Int) (x : Int) : pcStep (pre ++ [cur]) x = if 5 < x.fmod 11 then (pre ++ [cur]) ++ [[pcD x]] else pre ++ [cur ++ [pcD x]] := by
  unfold pcStep; simp
section
variable {prog : Program} {w : World} {hb : Heap} {n : Nat} {mg mb : Str → Option Value}
theorem fn_pcs (G : Gd w hb mg mb) : FnAt hb 188 (f188 w).1.1 (f188 w).1.2 := fnAt G (f188 w) rfl rfl rfl rfl rfl rfl rfl
theorem tr_big {env : Env} {σ : List (Str × VP)} {x : Int} {px p1 p2 p3 p4 : Pos} {k1 k2 : Nat} (hx : σ.lookup ("x" : Str) = some (vInt x)) : Tr prog w hb n env σ (.Compare (.BinOp (.Name "x" px) .Mod (.Constant (.int 11) k1 p1) p2) [.Gt] [.Constant (.int 5) k2 p3] p4) (decide (5 < x.fmod 11)) :=
  tr_cmp (ev_bin (ev_name hx) ev_int (op_mod_int (by decide))) ev_int op_gt_int
theorem cl_pcs (G : Gd w hb mg mb) (ns : List Int) (h10 : ns.length ≤ 10) : Cl prog w hb (n + 1) (.ref 188) [vList vInt ns] (vList (vList vInt) (pieces ns)) := by
  intro W frs A s E vs rm st hp
  cases hp with
  | cons h1 h2 =>
  cases h2
  rename_i v
  refine wpAny_call (fn_enter G (fn_pcs G) (binds := [("numbers", v)]) (Ps := [vList vInt ns]) rm st (BindsTo.of_eq rfl) (.cons h1 .nil) (by simp) rfl fun s₁ i₁ => ?_)
  have rm' := rm_deeper (env := fE (f188 w).1.1 s.heap.objs.size 188) rm
  refine seq_next (x_new (R := vList vInt) i₁ rm' (.inl rfl)) fun s₂ ⟨P, i₂⟩ => ?_
  have i₂' : In hb s W (fun a => Own (fE (f188 w).1.1 s.heap.objs.size 188) a ∨ a = P) frs (fE (f188 w).1.1 s.heap.objs.size 188) [("pieces", vRef P), ("numbers", vList vInt ns)] (hList (vList vInt) P []) s₂ := i₂.forget (fun _ _ q => q.2.1) fun a d => .inr d
  refine seq_next (x_forN (R := vInt) (xs := ns) (τ := fun x => [("x", vInt x)]) (fun _ => [("pieces", vRef P), ("numbers", vList vInt ns)])
    (fun k X => (k = 0 ∧ X = hList (vList vInt) P []) ∨ ∃ pre L cur, X = hPcs P pre L cur ∧ pieces (ns.take k) = pre ++ [cur] ∧ (pre.length < k ∧ cur.length ≤ k) ∧ ¬ (Own (fE (f188 w).1.1 s.heap.objs.size 188) L ∨ L = P))
    (Q := fun f s' => f = .next ∧ ∃ N', In hb s W N' frs (fE (f188 w).1.1 s.heap.objs.size 188) [("pieces", vRef P), ("numbers", vList vInt ns)] (hAnd hTrue (hList (vList vInt) P (pieces ns))) s')
    i₂' rm' (ev_name rfl) iterP_list ⟨rfl, rfl, trivial⟩ (.inl ⟨rfl, rfl⟩) (fun k x hx => asg_name (.inl rfl)) ?_ ?_) fun s₃ ⟨N', i₃⟩ => ?_
  · intro N' Y X' k x s' E' hNN hx rk i
    have hkl : k < ns.length := (List.getElem?_eq_some_iff.mp hx).1
    have hst := foldl_take (f := pcStep) (b := ([] : List (List Int))) hx
    have hP : N' P := hNN P (.inr rfl)
    -- the digit
    have dig : ∀ {px p1 p2 p3 p4 p5 p6 p7 p8 p9 pa pb : Pos} {k1 k2 k3 k4 k5 k6 : Nat} {px' p1' : Pos}, Ev prog w hb n (fE (f188 w).1.1 s.heap.objs.size 188) [("x", vInt x), ("pieces", vRef P), ("numbers", vList vInt ns)]
        (.IfExp (.BinOp (.Name "x" px) .Mod (.Constant (.int 11) k1 p1) p2) (.BinOp (.BinOp (.BinOp (.BinOp (.Name "x" px') .Mod (.Constant (.int 11) k2 p1') p3) .Sub (.Constant (.int 1) k3 p4) p5) .Mod (.Constant (.int 5) k4 p6) p7) .Add (.Constant (.int 1) k5 p8) p9) (.Constant (.int 0) k6 pa) pb) (vInt (pcD x)) := by
      intros
      refine ev_if (tr_of (ev_bin (ev_name (P := vInt x) rfl) ev_int (op_mod_int (by decide))) tv_int) (fun h => ?_) fun h => ?_
      · have : x.fmod 11 ≠ 0 := by simpa using h
        unfold pcD
        rw [if_pos this]
        exact ev_bin (ev_bin (ev_bin (ev_bin (ev_name (P := vInt x) rfl) ev_int (op_mod_int (by decide))) ev_int op_sub_int) ev_int (op_mod_int (by decide))) ev_int op_add_int
      · have : ¬ x.fmod 11 ≠ 0 := by simpa using h
        unfold pcD
        rw [if_neg this]
        exact ev_int
    rcases rk with ⟨rfl, rfl⟩ | ⟨pre, L, cur, rfl, hpc, hlen, hL⟩
    · refine x_ifR (b := (decide (([] : List (List Int)) = []) || decide (5 < x.fmod 11))) "pieces" i rm' rfl (tr_or (tr_cmp (ev_name (P := vList (vList vInt) []) rfl) (ev_list (l := []) evl_nil (by simp)) (op_eq (eqP_list (inj_list inj_int) (eqP_list inj_int fun a b => eqP_int) [] []) (by omega))) fun _ => tr_big rfl) ?_ ?_
      · intro _ s₄ i₄
        refine seq_next (x_appendNew i₄ rm' rfl (by simp)) fun s₅ ⟨L, hL, i₅⟩ => wpAny_execs_nil ?_
        refine seq_next (x_appendLast (z := pcD x) i₅ rm' rfl dig (by simp)) fun s₆ i₆ => wpAny_execs_nil ?_
        refine ⟨_, _, fun a h => .inl (.inl h), fun a h => .inl (hNN a h), .inr ⟨[], L, [pcD x], rfl, ?_, ⟨by simp, by simp⟩, fun h => hL (hNN L h)⟩, i₆.to ⟨rfl, rfl, trivial⟩⟩
        show (ns.take (0 + 1)).foldl pcStep [] = _
        rw [hst]
        rfl
      · intro hf
        simp at hf
    · have hs2 : pieces (ns.take (k + 1)) = if 5 < x.fmod 11 then (pre ++ [cur]) ++ [[pcD x]] else pre ++ [cur ++ [pcD x]] := by
        rw [← pcStep_snoc, ← hpc]
        exact hst
      refine x_ifW (b := (decide ((pre ++ [cur] : List (List Int)) = []) || decide (5 < x.fmod 11))) i ((tr_or (tr_cmp (ev_name (P := vList (vList vInt) (pre ++ [cur])) rfl) (ev_list (l := []) evl_nil (by simp)) (op_eq (eqP_list (inj_list inj_int) (eqP_list inj_int fun a b => eqP_int) (pre ++ [cur]) []) (by omega))) fun _ => tr_big rfl) _ _ _ s' E' rm' (i.readP (x := "pieces") rfl)) ?_ ?_
      · intro hb₁ s₄ i₄
        have h5 : 5 < x.fmod 11 := by simpa using hb₁
        refine seq_next (x_appendNew i₄.seal rm' rfl (by rw [List.length_append]; simp; omega)) fun s₅ ⟨L', hL', i₅⟩ => wpAny_execs_nil ?_
        refine seq_next (x_appendLast (z := pcD x) i₅ rm' rfl dig (by simp)) fun s₆ i₆ => wpAny_execs_nil ?_
        have nL : ∀ a, (Own (fE (f188 w).1.1 s.heap.objs.size 188) a ∨ a = P) → N' a ∧ a ≠ L := fun a h => ⟨hNN a h, fun q => hL (q ▸ h)⟩
        refine ⟨_, _, fun a h => if q : a = L then .inr (.inr q) else .inl (.inl ⟨h, q⟩), fun a h => .inl (nL a h), .inr ⟨pre ++ [cur], L', [pcD x], rfl, ?_, ⟨by rw [List.length_append]; simp; omega, by simp⟩, fun h => hL' (nL L' h)⟩, i₆.to ⟨rfl, rfl, trivial⟩⟩
        rw [hs2, if_pos h5]
      · intro hb₁ s₄ i₄
        have h5 : ¬ 5 < x.fmod 11 := by simpa using hb₁
        refine wpAny_execs_nil ?_
        refine seq_next (x_appendLast (z := pcD x) i₄ rm' rfl dig (by omega)) fun s₆ i₆ => wpAny_execs_nil ?_
        refine ⟨_, _, fun a h => .inl h, hNN, .inr ⟨pre, L, cur ++ [pcD x], rfl, ?_, ⟨by omega, by rw [List.length_append]; simp; omega⟩, hL⟩, i₆.to ⟨rfl, rfl, trivial⟩⟩
        rw [hs2, if_neg h5]
  · rintro s' N' X' hNN rk i
    have i' : In hb s W N' frs (fE (f188 w).1.1 s.heap.objs.size 188) [("pieces", vRef P), ("numbers", vList vInt ns)] (hAnd hTrue X') s' :=
      { i with xo := ⟨trivial, i.xo, fun a q => q.elim⟩, xd := fun a d => d.elim (fun q => q.elim) (i.xd a) }
    refine ⟨rfl, ?_⟩
    rcases rk with ⟨h0, rfl⟩ | ⟨pre, L, cur, rfl, hpc, hlen, hL⟩
    · have : ns = [] := List.eq_nil_of_length_eq_zero h0
      subst this
      exact ⟨_, i'⟩
    · rw [List.take_length] at hpc
      rw [hpc]
      exact ⟨_, i'.seal⟩
  · exact x_retO i₃ rm' rfl fun s' k p => ⟨k, p⟩
end
end Mine
end

section
open PySem PySem.W PyProof.Rows PySem.Calls
set_option Elab.async false
set_option autoImplicit false
set_option linter.unusedVariables false
set_option maxRecDepth 100000
namespace Mine
/-! ## a text cut at a sign -/
/-- the places of c -/
def plc (c : Nat) : List Nat → List Nat
  | [] => []
  | x :: l => if x = c then 0 :: (plc c l).map (· + 1) else (plc c l).map (· + 1)
/-- the parts between -/
def cutL (c : Nat) : List Nat → List (List Nat)
  | [] => [[]]
  | x :: l => if x = c then [] :: cutL c l else match cutL c l with
    | [] => [[x]]
    | p :: r => (x :: p) :: r
def sub2 (l : List Nat) (p : Nat × Nat) : List Nat := (l.take p.2).drop p.1
theorem parts_cut (c : Nat) : ∀ l : List Nat, (((0 :: (plc c l).map (· + 1)).zip (plc c l ++ [l.length])).map (sub2 l)) = cutL c l
  | [] => rfl
  | x :: l => by
    have ih := parts_cut c l
    have sh : ∀ (as bs : List Nat), ((as.map (· + 1)).zip (bs.map (· + 1))).map (sub2 (x :: l)) = (as.zip bs).map (sub2 l) := by
      intro as
      induction as with
      | nil => intro bs; rfl
      | cons a as ih2 => intro bs; cases bs with
        | nil => rfl
        | cons b bs => simp only [List.map_cons, List.zip_cons_cons, ih2]; rfl
    have hm : (plc c l ++ [l.length]).map (· + 1) = (plc c l).map (· + 1) ++ [(x :: l).length] := by simp
    by_cases h : x = c
    · rw [plc, if_pos h, cutL, if_pos h, ← ih, ← sh, hm]
      rfl
    · rw [plc, if_neg h, cutL, if_neg h, ← hm]
      have key : ∀ (as bs : List Nat), bs ≠ [] → ((0 :: (as.map (· + 1)).map (· + 1)).zip (bs.map (· + 1))).map (sub2 (x :: l)) = match ((0 :: as.map (· + 1)).zip bs).map (sub2 l) with
          | [] => [[x]]
          | p :: r => (x :: p) :: r := by
        intro as bs hb
        cases bs with
        | nil => exact absurd rfl hb
        | cons b bs =>
          simp only [List.map_cons, List.zip_cons_cons, sh]
          rfl
      rw [key _ _ (by simp), ih]
theorem filter_plc (c : Nat) : ∀ (l : List Nat), (List.range l.length).filter (fun i => l[i]? == some c) = plc c l
  | [] => rfl
  | x :: l => by
    rw [List.length_cons, List.range_succ_eq_map, List.filter_cons, List.filter_map, plc, ← filter_plc c l]
    by_cases h : x = c
    · subst h
      simp
      rfl
    · simp [h]
      rfl
end Mine
end

section
open PySem PySem.W PyProof.Rows PySem.Calls
set_option Elab.async false
set_option autoImplicit false
set_option linter.unusedVariables false
set_option maxRecDepth 100000
namespace Mine
theorem occ_run (l : List Nat) (c : Nat) : ∀ (m i : Nat) (found : Array Nat) (free : Nat), i + m = l.length + 1 → free ≤ i → found.size ≤ i →
    (forIn (List.range' i m) (found, free) (StrLaws.occBody ⟨l.toArray⟩ ⟨#[c]⟩ l.length (l.length + 1))).run.fst.toList = found.toList ++ (List.range' i m).filter (fun j => l[j]? == some c)
  | 0, i, found, free, h, hf, hs => by simp
  | m + 1, i, found, free, h, hf, hs => by
    rw [List.range'_succ, List.forIn_cons]
    unfold StrLaws.occBody
    have hone := StrLaws.subAt_one ⟨l.toArray⟩ c i
    have hone' : (i + (⟨#[c]⟩ : Str).length ≤ l.length ∧ Builtin.Str.subAt ⟨l.toArray⟩ ⟨#[c]⟩ i = true) ↔ l[i]? = some c := by
      have e : (⟨l.toArray⟩ : Str).length = l.length := by simp [Str.length]
      rw [e] at hone
      simpa using hone
    by_cases hc : l[i]? = some c
    · have h2 := hone'.mpr hc
      rw [if_pos ⟨⟨⟨by show found.size < l.length + 1; lia, hf⟩, h2.1⟩, h2.2⟩]
      have ih := occ_run l c m (i + 1) (found.push i) (i + 1) (by lia) (Nat.le_refl _) (by rw [Array.size_push]; lia)
      rw [List.filter_cons_of_pos (by simp [hc])]
      refine Eq.trans ih ?_
      simp
    · rw [if_neg (fun q => hc (hone'.mp ⟨q.1.2, q.2⟩))]
      have ih := occ_run l c m (i + 1) found free (by lia) (by lia) (by lia)
      rw [List.filter_cons_of_neg (by simp [hc])]
      exact ih
theorem occ_plc (l : List Nat) (c : Nat) : Builtin.Str.occurrences ⟨l.toArray⟩ ⟨#[c]⟩ 0 l.length (l.length + 1) = plc c l := by
  rw [StrLaws.occ_eq]
  have := occ_run l c (l.length + 1) 0 #[] 0 (by lia) (Nat.le_refl _) (by simp)
  rw [Nat.sub_zero, this]
  rw [← filter_plc c l, ← List.range_eq_range', List.range_succ, List.filter_append]
  simp
theorem parts_plc (l : List Nat) (c : Nat) : (Builtin.Str.partsBetween ⟨l.toArray⟩ (plc c l) 1) = (cutL c l).map fun p => (⟨p.toArray⟩ : Str) := by
  rw [← parts_cut c l, List.map_map]
  unfold Builtin.Str.partsBetween
  have e : (⟨l.toArray⟩ : Str).length = l.length := by simp [Str.length]
  rw [e]
  refine List.map_congr_left fun p _ => ?_
  show (⟨l.toArray.extract p.1 p.2⟩ : Str) = ⟨(sub2 l p).toArray⟩
  unfold sub2
  congr 1
  apply Array.toList_inj.mp
  simp [List.extract_eq_take_drop, List.drop_take]
end Mine
end

section
open PySem PySem.W PyProof.Rows PySem.Calls
set_option Elab.async false
set_option autoImplicit false
set_option linter.unusedVariables false
set_option maxRecDepth 100000
namespace Mine
def u8s (l : List Nat) : Array UInt8 := (l.map UInt8.ofNat).toArray
theorem u8s_ext (l : List Nat) (p q : Nat) : (u8s l).extract p q = u8s (sub2 l (p, q)) := by
  unfold u8s sub2
  apply Array.toList_inj.mp
  simp [List.extract_eq_take_drop, List.drop_take, List.map_take, List.map_drop]
theorem u8s_one {l : List Nat} {c i : Nat} (hl : ∀ x ∈ l, x < 128) (hc : c < 128) : ((u8s l).extract i (i + 1) == #[UInt8.ofNat c]) = (l[i]? == some c) := by
  rw [u8s_ext]
  unfold sub2
  by_cases h : i < l.length
  · rw [List.getElem?_eq_getElem h]
    have e : (l.take (i + 1)).drop i = [l[i]] := by
      rw [List.drop_take]
      rw [show i + 1 - i = 1 by lia, List.drop_eq_getElem_cons h]
      rfl
    show (u8s ((l.take (i + 1)).drop i) == _) = _
    rw [e]
    have h1 := hl _ (List.getElem_mem h)
    rw [Bool.eq_iff_iff]
    simp only [u8s, List.map_cons, List.map_nil, beq_iff_eq, Option.some.injEq]
    constructor
    · intro q
      have q2 : UInt8.ofNat l[i] = UInt8.ofNat c := by simpa using q
      have := congrArg UInt8.toNat q2
      simp at this
      lia
    · intro q; rw [q]
  · rw [List.getElem?_eq_none (by lia)]
    have e : (l.take (i + 1)).drop i = [] := List.drop_eq_nil_of_le (by rw [List.length_take]; lia)
    show (u8s ((l.take (i + 1)).drop i) == _) = _
    rw [e]
    rfl
theorem bocc_run (l : List Nat) (c : Nat) (hl : ∀ x ∈ l, x < 128) (hc : c < 128) : ∀ (is : List Nat) (acc : List Nat) (fr : Nat), (∀ i ∈ is, fr ≤ i) → is.Pairwise (· < ·) →
    (is.foldl (fun (acc : List Nat × Nat) (i : Nat) => if i ≥ acc.2 && (u8s l).extract i (i + (#[UInt8.ofNat c] : Array UInt8).size) == #[UInt8.ofNat c] then (i :: acc.1, i + (#[UInt8.ofNat c] : Array UInt8).size) else acc) (acc, fr)).1.reverse = acc.reverse ++ is.filter (fun i => l[i]? == some c)
  | [], acc, fr, _, _ => by simp
  | i :: is, acc, fr, h, hp => by
    rw [List.foldl_cons]
    have hi : fr ≤ i := h i (.head _)
    obtain ⟨hp1, hp2⟩ := List.pairwise_cons.mp hp
    have e : ((u8s l).extract i (i + (#[UInt8.ofNat c] : Array UInt8).size) == #[UInt8.ofNat c]) = (l[i]? == some c) := u8s_one hl hc
    simp only [e]
    by_cases hq : l[i]? = some c
    · rw [if_pos (by simp [hq, hi])]
      rw [bocc_run l c hl hc is (i :: acc) _ (fun j hj => by have := hp1 j hj; show i + 1 ≤ j; lia) hp2, List.filter_cons_of_pos (by simp [hq])]
      simp
    · rw [if_neg (by simp [hq])]
      rw [bocc_run l c hl hc is acc fr (fun j hj => h j (.tail _ hj)) hp2, List.filter_cons_of_neg (by simp [hq])]
theorem bocc_plc (l : List Nat) (c : Nat) (hl : ∀ x ∈ l, x < 128) (hc : c < 128) : Builtin.Bytes.occurrences (u8s l) #[UInt8.ofNat c] 0 (u8s l).size = plc c l := by
  unfold Builtin.Bytes.occurrences
  have hz : (u8s l).size = l.length := by simp [u8s]
  have e : (List.range ((u8s l).size + 1 - (0 + (#[UInt8.ofNat c] : Array UInt8).size))).map (· + 0) = List.range l.length := by
    rw [hz]; simp
  rw [e]
  have := bocc_run l c hl hc (List.range l.length) [] 0 (fun _ _ => Nat.zero_le _) List.pairwise_lt_range
  rw [filter_plc] at this
  exact this
theorem betw_run (b : Array UInt8) : ∀ (ps : List Nat) (acc : Array (Array UInt8)) (last : Nat),
    (((ps.foldl (fun (x : Array (Array UInt8) × Nat) p => (x.1.push (b.extract x.2 p), p + 1)) (acc, last)).1.push (b.extract (ps.foldl (fun (x : Array (Array UInt8) × Nat) p => (x.1.push (b.extract x.2 p), p + 1)) (acc, last)).2 b.size)).toList) = acc.toList ++ ((last :: ps.map (· + 1)).zip (ps ++ [b.size])).map fun p => b.extract p.1 p.2
  | [], acc, last => by simp
  | p :: ps, acc, last => by
    rw [List.foldl_cons, betw_run b ps]
    simp
theorem betw_plc (l : List Nat) (c : Nat) : Builtin.Bytes.between (u8s l) 1 (plc c l) = (cutL c l).map u8s := by
  have h := betw_run (u8s l) (plc c l) #[] 0
  unfold Builtin.Bytes.between
  refine Eq.trans h ?_
  rw [← parts_cut c l, List.map_map]
  have hz : (u8s l).size = l.length := by simp [u8s]
  rw [hz]
  refine List.map_congr_left fun p _ => ?_
  exact u8s_ext l p.1 p.2
theorem plc_nil {c : Nat} : ∀ {l : List Nat}, plc c l = [] → cutL c l = [l]
  | [], _ => rfl
  | x :: l, h => by
    unfold plc at h
    by_cases hx : x = c
    · rw [if_pos hx] at h; cases h
    · rw [if_neg hx] at h
      have h' : plc c l = [] := by simpa using h
      rw [cutL, if_neg hx, plc_nil h']
end Mine
end

section
open PySem PySem.W PyProof.Rows PySem.Calls
set_option Elab.async false
set_option autoImplicit false
set_option linter.unusedVariables false
set_option maxRecDepth 100000
namespace Mine
theorem slot_bytes_split : Slot "bytes" "split" "bytes.split" :=
  .of (owner := "bytes") (n := "split") (by rw [typeLookup_type, builtinLookup_eq_fast]; kernel_rfl) (by decide +kernel) (by decide +kernel) (by decide +kernel)
    (by first | exact .inl (by decide +kernel) | exact .inr (by decide +kernel)) (by rw [isSubtype_type]; kernel_rfl)
theorem type_bytes_split : typeOf (.builtin "bytes.split") = pure (.type "method_descriptor") := by show builtinType _ = _; rw [builtinType_eq_fast]; kernel_rfl
theorem entry_bytes_split : entryFor table "bytes.split" = some Builtin.«bytes.split» := entryFor_of_tree (by kernel_rfl)
theorem args_bytes_split_2 (a b : Value) : argsOk "bytes.split" ⟨[a, b], []⟩ := by
  unfold argsOk; rw [signature?_of (id := "bytes.split") (n := ['t', 'i', 'l', 'p', 's']) (o := ['s', 'e', 't', 'y', 'b']) (by kernel_rfl) FB.owner_bytes]; kernel_rfl
theorem cutL_len (c : Nat) : ∀ l : List Nat, (cutL c l).length ≤ l.length + 1
  | [] => by simp [cutL]
  | x :: l => by
    have ih := cutL_len c l
    unfold cutL
    split
    · simp; lia
    · cases h : cutL c l with
      | nil => simp
      | cons p r => rw [h] at ih; simp at ih ⊢; lia
theorem cutL_mem (c : Nat) : ∀ (l p : List Nat), p ∈ cutL c l → ∀ x ∈ p, x ∈ l
  | [], p, h, x, hx => by simp [cutL] at h; rw [h] at hx; cases hx
  | y :: l, p, h, x, hx => by
    have ih := cutL_mem c l
    unfold cutL at h
    split at h
    · rcases List.mem_cons.mp h with rfl | h
      · cases hx
      · exact .tail _ (ih p h x hx)
    · cases hq : cutL c l with
      | nil =>
        rw [hq] at h
        simp at h
        rw [h] at hx
        simp at hx
        exact hx ▸ .head _
      | cons a r =>
        rw [hq] at h ih
        rcases List.mem_cons.mp h with rfl | h
        · rcases List.mem_cons.mp hx with rfl | hx
          · exact .head _
          · exact .tail _ (ih a (.head _) x hx)
        · exact .tail _ (ih p (.tail _ h) x hx)
theorem cutL_short (c : Nat) : ∀ (l p : List Nat), p ∈ cutL c l → p.length ≤ l.length
  | [], p, h => by simp [cutL] at h; simp [h]
  | y :: l, p, h => by
    have ih := cutL_short c l
    unfold cutL at h
    split at h
    · rcases List.mem_cons.mp h with rfl | h
      · simp
      · have := ih p h; simp; lia
    · cases hq : cutL c l with
      | nil => rw [hq] at h; simp at h; simp [h]
      | cons a r =>
        rw [hq] at h ih
        rcases List.mem_cons.mp h with rfl | h
        · have := ih a (.head _); simp; lia
        · have := ih p (.tail _ h); simp; lia
theorem paired_strsFrom {W : Addr → Prop} {h : Heap} : ∀ (tk : Nat) (ps : List (List Nat)), (∀ p ∈ ps, ∀ x ∈ p, x < 128) → Paired (fun v p => (vTx false p).ok W h v) (strsFrom tk (ps.map fun p => (⟨p.toArray⟩ : Str))) ps
  | tk, [], _ => .nil
  | tk, p :: ps, hp => .cons ⟨hp p (.head _), tk, rfl⟩ (paired_strsFrom (tk + 1) ps fun q hq => hp q (.tail _ hq))
section
variable {prog : Program} {w : World} {A : Around} {E : Value → Shared → Prop} {s : Shared}
theorem wp_mapM_mkBytes {M : Model} : ∀ (xs : List (List Nat)) (s : Shared) (Q : List Value → Shared → Prop), (∀ x ∈ xs, x.length ≤ 100000) → (∀ p ∈ xs, ∀ x ∈ p, x < 128) →
    (∀ vs k, (∀ (W : Addr → Prop) h, Paired (fun v p => (vTx true p).ok W h v) vs xs) → Q vs { s with toks := k }) → wpAny M A ((xs.map u8s).mapM (Builtin.Bytes.Kind.new .bytes)) Q E s
  | [], s, Q, _, _, h => by rw [List.map_nil, List.mapM_nil]; exact wpAny_pure (h [] s.toks fun _ _ => .nil)
  | x :: r, s, Q, hx, hp, h => by
    rw [List.map_cons, List.mapM_cons]
    refine wpAny_bind (wpAny_mkBytes (wpAny_bind (wp_mapM_mkBytes r _ _ (fun y hy => hx y (.tail _ hy)) (fun y hy => hp y (.tail _ hy)) fun vs k hv => wpAny_pure ?_)) (by
      have := hx x (.head _)
      rw [sizeLine_eq]; simp [u8s]; lia))
    exact h _ k fun W h => .cons ⟨hp x (.head _), s.toks, rfl⟩ (hv W h)
/-- the cut of a text, as a method's rule -/
theorem meets_cut {m : Bool} {l : List Nat} {t u : Tok} {Q : Value → Shared → Prop} (hl : ∀ c ∈ l, c < 128) (lm : l.length ≤ 999)
    (hq : ∀ (vs : List Value) tk, (∀ (W : Addr → Prop) h, Paired (fun v p => (vTx m p).ok W h v) vs (cutL 47 l)) → Q (.ref s.heap.objs.size) { s with heap := s.heap.push { cls := .type "list", data := .seq vs.toArray }, toks := tk }) :
    ∃ S, Meets ((if m then Builtin.«bytes.split» else Builtin.«str.split») ⟨[txV m l t, txV m [47] u], []⟩) S ∧ S A (wants Q E) s := by
  have hcl := cutL_len 47 l
  have hp : ∀ p ∈ cutL 47 l, ∀ x ∈ p, x < 128 := fun p hp x hx => hl x (cutL_mem 47 l p hp x hx)
  cases m with
  | false =>
    show ∃ S, Meets (Builtin.«str.split» ⟨[.str ⟨l.toArray⟩ t, .str ⟨#[47]⟩ u], []⟩) S ∧ _
    have hx : (⟨l.toArray⟩ : Str).length = l.length := by simp [Str.length]
    have one : (⟨#[47]⟩ : Str).length = 1 := rfl
    have hocc : Builtin.Str.occurrences ⟨l.toArray⟩ ⟨#[47]⟩ 0 (⟨l.toArray⟩ : Str).length ((⟨l.toArray⟩ : Str).length + 1) = plc 47 l := by rw [hx]; exact occ_plc l 47
    have itself : plc 47 l = [] → Q (.ref s.heap.objs.size) { s with heap := s.heap.push { cls := .type "list", data := .seq #[.str ⟨l.toArray⟩ t] } } := fun hn => by
      refine hq [.str ⟨l.toArray⟩ t] s.toks fun W h => ?_
      rw [plc_nil hn]
      exact .cons ⟨hl, t, rfl⟩ .nil
    cases h1 : (decide ((⟨l.toArray⟩ : Str).length < (⟨#[47]⟩ : Str).length) || decide (Builtin.Str.strKind ⟨l.toArray⟩ < Builtin.Str.strKind ⟨#[47]⟩))
    · cases hf : (Builtin.Str.occurrences ⟨l.toArray⟩ ⟨#[47]⟩ 0 (⟨l.toArray⟩ : Str).length ((⟨l.toArray⟩ : Str).length + 1)).isEmpty
      · refine ⟨_, meets_str_split_sep ⟨l.toArray⟩ ⟨#[47]⟩ t u h1 rfl hf (by rw [hx, sizeLine_eq]; lia) (by rw [hocc, one, parts_plc, List.length_map, sizeLine_eq]; lia), ?_⟩
        show wants Q E _ _
        rw [hocc, one, parts_plc]
        exact hq _ _ fun W h => paired_strsFrom _ _ hp
      · refine ⟨_, meets_str_split_not_found ⟨l.toArray⟩ ⟨#[47]⟩ t u h1 rfl hf, ?_⟩
        rw [hocc] at hf
        exact itself (List.isEmpty_iff.mp hf)
    · refine ⟨_, meets_str_split_cannot_occur ⟨l.toArray⟩ ⟨#[47]⟩ t u h1, ?_⟩
      refine itself ?_
      rw [hx, one] at h1
      simp only [Bool.or_eq_true, decide_eq_true_eq] at h1
      rcases h1 with h1 | h1
      · have : l = [] := List.eq_nil_of_length_eq_zero (by lia)
        subst this
        rfl
      · exfalso
        have e : Builtin.Str.strKind ⟨#[47]⟩ = 1 := by decide +kernel
        rw [e] at h1
        unfold Builtin.Str.strKind at h1
        split at h1
        · lia
        · split at h1 <;> lia
  | true =>
    show ∃ S, Meets (Builtin.«bytes.split» ⟨[.bytes (u8s l) t, .bytes #[47] u], []⟩) S ∧ _
    refine ⟨fun A R s => ∀ (vs : List Value) tk, (∀ (W : Addr → Prop) h, Paired (fun v p => (vTx true p).ok W h v) vs (cutL 47 l)) → R (.ok (.ret (.ref s.heap.objs.size))) { s with heap := s.heap.push { cls := .type "list", data := .seq vs.toArray }, toks := tk }, .of_wp fun prog w A R s h => ?_, fun vs tk hv => hq vs tk hv⟩
    have hb : Builtin.Bytes.bindOptional "bytes.split" "split" ["sep", "maxsplit"] [.bytes #[47] u] [] = pure [some (.bytes #[47] u), none] := by first | rfl | kernel_rfl
    have hocc := bocc_plc l 47 hl (by decide)
    have hz : (u8s l).size = l.length := by simp [u8s]
    show wpAny _ _ (Builtin.Bytes.bindOptional "bytes.split" "split" ["sep", "maxsplit"] [.bytes #[47] u] [] >>= _) _ _ s
    rw [hb]
    refine wpAny_bind (wpAny_pure ?_)
    refine wpAny_bind (wpAny_pure ?_)
    refine wpAny_bind (wpAny_of_eq (a := u8s l) rfl ?_)
    refine wpAny_bind (wpAny_of_eq (a := #[47]) KBd.like_eq ?_)
    refine KFB.if_not (by decide) ?_
    have hpl : (Builtin.Bytes.occurrences (u8s l) #[UInt8.ofNat 47] 0 (u8s l).size).take ((u8s l).size + 1) = plc 47 l := by
      rw [hocc, List.take_of_length_le]
      have : ∀ l : List Nat, (plc 47 l).length ≤ l.length := by
        intro l
        induction l with
        | nil => simp [plc]
        | cons x l ih => unfold plc; split <;> simp <;> lia
      have := this l
      lia
    show wpAny _ _ (if (List.take ((u8s l).size + 1) (Builtin.Bytes.occurrences (u8s l) #[UInt8.ofNat 47] 0 (u8s l).size)).isEmpty = true then _ else _) _ _ s
    by_cases hn : plc 47 l = []
    · rw [if_pos (by rw [hpl, hn]; rfl)]
      refine wpAny_bind (wpAny_rule ?_)
      refine wpAny_bind (wpAny_of_eq (a := .bytes (u8s l) t) rfl ?_)
      refine wpAny_bind (wpAny_newList (wpAny_pure ⟨_, rfl, ?_⟩) (by simp [sizeLine_eq]))
      refine h [.bytes (u8s l) t] s.toks fun W h' => ?_
      rw [plc_nil hn]
      exact .cons ⟨hl, t, rfl⟩ .nil
    · rw [if_neg (by rw [hpl]; simpa using hn)]
      show wpAny _ _ (List.mapM Builtin.Bytes.Kind.bytes.new (Builtin.Bytes.between (u8s l) 1 (List.take ((u8s l).size + 1) (Builtin.Bytes.occurrences (u8s l) #[UInt8.ofNat 47] 0 (u8s l).size))) >>= _) _ _ s
      rw [hpl]
      rw [betw_plc]
      refine wpAny_bind (wp_mapM_mkBytes _ _ _ (fun p hp' => ?_) hp fun vs k hv => ?_)
      · have := cutL_short 47 l p hp'
        lia
      · have hlen := Paired.length (hv (fun _ => False) s.heap)
        exact wpAny_bind (wpAny_newList (wpAny_pure ⟨_, rfl, h vs k hv⟩) (by rw [sizeLine_eq]; lia))
end
end Mine
end

section
open PySem PySem.W PyProof.Rows PySem.Calls
set_option Elab.async false
set_option autoImplicit false
set_option linter.unusedVariables false
set_option maxRecDepth 100000
namespace Mine
/-- the text of a path -/
def pathL (ks : List Nat) : List Nat := ks.flatMap fun k => 47 :: sg k
theorem cut_sg (k : Nat) (l p : List Nat) (r : List (List Nat)) (h : cutL 47 l = p :: r) : cutL 47 (sg k ++ l) = (sg k ++ p) :: r := by
  cases k with
  | zero => exact h
  | succ k =>
    show cutL 47 ((97 + k) :: l) = _
    rw [cutL, if_neg (by lia), h]
    rfl
theorem cut_path : ∀ ks : List Nat, cutL 47 (pathL ks) = (0 :: ks).map sg
  | [] => rfl
  | k :: ks => by
    have ih := cut_path ks
    show cutL 47 (47 :: (sg k ++ pathL ks)) = _
    rw [cutL, if_pos rfl, cut_sg k _ _ _ ih]
    show [] :: (sg k ++ []) :: _ = _
    rw [List.append_nil]
    rfl
theorem path_lt {ks : List Nat} (h : ∀ k ∈ ks, k < 32) : ∀ c ∈ pathL ks, c < 128 := by
  intro c hc
  obtain ⟨k, hk, hc⟩ := List.mem_flatMap.mp hc
  rcases List.mem_cons.mp hc with rfl | hc
  · decide
  · exact sg_codes (h k hk) c hc
theorem path_len {ks : List Nat} : (pathL ks).length ≤ 2 * ks.length := by
  unfold pathL
  induction ks with
  | nil => simp
  | cons k ks ih =>
    have : (sg k).length ≤ 1 := by cases k <;> simp [sg]
    simp only [List.flatMap_cons, List.length_append, List.length_cons]
    lia
theorem bounds0 (n : Nat) : sliceBounds none (some 0) none n = ((0 : Int), 0, 1) := by
  simp only [sliceBounds, Option.getD_none]
  have h2 : ¬ ((0 : Int) < 0) := by lia
  simp only [h2, if_false, show (1 : Int) > 0 by decide, if_true]
  congr 1
theorem sliced0 (b : Array UInt8) : Builtin.Bytes.sliced b 0 0 1 = #[] := by
  unfold Builtin.Bytes.sliced
  rfl
theorem slice0_str (l : List Nat) : Txt.slice ⟨l.toArray⟩ none (some 0) = ⟨#[]⟩ := by
  have e : Builtin.Str.strSliceIndices none (some 0) 1 (⟨l.toArray⟩ : Str).length = [] := by
    unfold Builtin.Str.strSliceIndices sliceRange
    simp
    split <;> lia
  unfold Txt.slice
  rw [e]
  split
  · rename_i h
    cases l with
    | nil => rfl
    | cons x l => simp [Str.length] at h
  · rfl
section
variable {prog : Program} {w : World} {hb : Heap} {n : Nat} {env : Env} {σ : List (Str × VP)} {mg mb : Str → Option Value}
theorem ev_split {m : Bool} {l : List Nat} {x : Str} {e : Expr} {px pa pc : Pos} (hx : σ.lookup x = some (vTx m l)) (he : Ev prog w hb n env σ e (vTx m [47])) (lm : l.length ≤ 999)
    (hline : (pa.endLine == pc.line) = true := by rfl) (hst : starEach [e] env = [(false, eval e env)] := by rfl) (hd : (x == ("__debug__" : Str)) = false := by decide) (hc : (x == ("__classdict__" : Str)) = false := by decide) :
    Ev prog w hb n env σ (.Call (.Attribute (.Name x px) "split" pa) [e] [] pc) (vList (vTx m) (cutL 47 l)) := fun W frs A s E rm o => by
  refine Call_method1 (by rfl) hst hline (wpAny_mono (ev_name hx hd hc W frs A s E rm o) (fun v s₁ ⟨k₁, p₁⟩ => ?_) fun _ _ x => x)
  obtain ⟨hl, t, rfl⟩ := p₁
  have o₁ := o.kp k₁
  have fin : ∀ (u : Tok) s₂, Kp (frS frs) s₁ s₂ → ∀ (vs : List Value) tk, (∀ (W : Addr → Prop) h, Paired (fun v p => (vTx m p).ok W h v) vs (cutL 47 l)) → (fun v s' => Kp (frS frs) s s' ∧ (vList (vTx m) (cutL 47 l)).ok W s'.heap v) (.ref s₂.heap.objs.size) { s₂ with heap := s₂.heap.push { cls := .type "list", data := .seq vs.toArray }, toks := tk } := by
    intro u s₂ k₂ vs tk hv
    have hcl := cutL_len 47 l
    refine ⟨(k₁.trans k₂).trans (Kp.all fun a ob e => Heap.get?_push_of_some _ e), by lia, _, vs, rfl, (o₁.kp k₂).toSt.fresh, ⟨0, Heap.get?_push_size _ rfl⟩, hv _ _⟩
  cases m with
  | false =>
    refine ⟨"str", "str.split", F.plainAttrs_str, F.slot_str_split, F.type_str_split, typeIs_str _ _ _, (fun a q => by cases q), ?_⟩
    refine PySem.seqMethod1_meets F.slot_str_split F.entry_str_split (wpAny_mono (he W frs A s₁ E rm o₁) (fun v s₂ ⟨k₂, p₂⟩ => ?_) fun _ _ x => x)
    obtain ⟨_, u, rfl⟩ := p₂
    exact ⟨typeIs_str _ _ _, F.args_str_split_2 _ _, meets_cut (m := false) hl lm (fin u s₂ k₂)⟩
  | true =>
    refine ⟨"bytes", "bytes.split", FB.plainAttrs_bytes, slot_bytes_split, type_bytes_split, typeIs_bytes _ _ _, (fun a q => by cases q), ?_⟩
    refine PySem.seqMethod1_meets slot_bytes_split entry_bytes_split (wpAny_mono (he W frs A s₁ E rm o₁) (fun v s₂ ⟨k₂, p₂⟩ => ?_) fun _ _ x => x)
    obtain ⟨_, u, rfl⟩ := p₂
    exact ⟨typeIs_bytes _ _ _, args_bytes_split_2 _ _, meets_cut (m := true) hl lm (fin u s₂ k₂)⟩
theorem vNames_of {m : Bool} {ks : List Nat} {ls : List (List Nat)} (h : ls = ks.map sg) : vList (vTx m) ls = vList (nmV m) ks := by
  subst h
  have key : ∀ (W : Addr → Prop) (hp : Heap) (vs : List Value), Paired (fun v x => (vTx m x).ok W hp v) vs (ks.map sg) ↔ Paired (fun v x => (nmV m x).ok W hp v) vs ks := by
    intro W hp vs
    constructor
    · exact Paired.map2
    · intro p
      induction p with
      | nil => exact .nil
      | cons h r ih => exact .cons h ih
  unfold vList
  congr 1
  funext W hp v
  simp only [key, List.length_map]

theorem ev_cut0 {m : Bool} {l : List Nat} {x : Str} {px p0 p pos : Pos} {k0 : Nat} (hx : σ.lookup x = some (vTx m l)) (lm : l.length ≤ 999)
    (hd : (x == ("__debug__" : Str)) = false := by decide) (hc : (x == ("__classdict__" : Str)) = false := by decide) :
    Ev prog w hb n env σ (.Subscript (.Name x px) (.Slice none (some (.Constant (.int 0) k0 p0)) none p) pos) (vTx m []) := fun W frs A s E rm o => by
  refine Subscript_ (wpAny_mono (ev_name hx hd hc W frs A s E rm o) (fun v s₁ ⟨k₁, p₁⟩ => ?_) fun _ _ x => x)
  obtain ⟨hl, t, rfl⟩ := p₁
  refine wpAny_Slice (wpAny_evalPart_none ?_)
  rw [evalPart_some, evalPart_none]
  refine wpAny_Constant_int (wpAny_pure ?_)
  have kf : ∀ h' k, (∀ a ob, s₁.heap.get? a = some ob → h'.get? a = some ob) → Kp (frS frs) s { s₁ with heap := h', toks := k } := fun h' k hk => k₁.trans (Kp.all hk)
  cases m with
  | false =>
    refine tail_of_ItemOn (SBH.sliceItem_ns (P := fun h => ∀ a ob, s₁.heap.get? a = some ob → h.get? a = some ob) (x := ⟨l.toArray⟩) (s := { s₁ with toks := s₁.toks + 1 }) (fun h ob k a o e => Heap.get?_push_of_some _ (k a o e)) (fun a o e => e) (fun h' t' k hk => ?_) (by show l.toArray.size ≤ _; rw [List.size_toArray, sizeLine_eq]; lia)) (by with_unfolding_all rfl) (by intro _; rfl)
    refine ⟨kf h' k hk, (by simp), t', ?_⟩
    have e : Txt.slice ⟨l.toArray⟩ none (some 0) = ⟨#[]⟩ := slice0_str l
    rw [e]
    rfl
  | true =>
    refine tail_of_ItemOn (o := .bytes (u8s l) t) ⟨"bytes", _, FB.slot_bytes_getitem.lookup, typeIs_bytes _ _ _, getItem_meets (typeIs_bytes _ _ _) (by decide) FB.slot_bytes_getitem FB.entry_bytes_getitem (FB.args_bytes_getitem_2 _ _) (KBy.meets_slice (u8s l) t _ (lo := none) (hi := some 0) .none (.int 0 _) ?_)
      ⟨Heap.IsSliceOf.new _ _ _ _, ?_, ?_⟩⟩ (by with_unfolding_all rfl) (by intro _; rfl)
    · unfold KBy.whole
      rw [bounds0]
      cases l <;> simp [u8s] <;> lia
    · unfold KBy.picked
      rw [bounds0]
      show (Builtin.Bytes.sliced (u8s l) 0 0 1).size ≤ _
      rw [sliced0]
      simp [sizeLine_eq]
    · refine ⟨kf _ _ fun a ob e => Heap.get?_push_of_some _ e, (by simp), s₁.toks + 1, ?_⟩
      unfold KBy.picked
      rw [bounds0]
      show Value.bytes (Builtin.Bytes.sliced (u8s l) 0 0 1) _ = _
      rw [sliced0]
      rfl
end
end Mine
end

section
open PySem PySem.W PyProof.Rows PySem.Calls
set_option Elab.async false
set_option autoImplicit false
set_option linter.unusedVariables false
set_option maxRecDepth 100000
namespace Mine
noncomputable def f193 (w : World) : DefOf w 193 := ⟨(_, _), rfl, rfl⟩
def rd0 (ks : List Nat) : List Nat := dedupL ((0 :: ks).filter fun k => !decide (k = 0))
def rdO (ks : List Nat) : List natO.α := sortL natO (rd0 ks)
def rd (ks : List Nat) : List Nat := rdO ks
section
variable {prog : Program} {w : World} {hb : Heap} {n : Nat} {mg mb : Str → Option Value}
theorem fn_read (G : Gd w hb mg mb) : FnAt hb 193 (f193 w).1.1 (f193 w).1.2 := fnAt G (f193 w) rfl rfl rfl rfl rfl rfl rfl
theorem rd_len (ks : List Nat) : (rd ks).length ≤ ks.length + 1 := by
  have h1 : (rdO ks).length = (rd0 ks).length := (sortL_perm (O := natO) (rd0 ks)).length_eq
  have h1' : (rd0 ks).length = (dedupL ((0 :: ks).filter fun k => !decide (k = 0))).length := rfl
  have h2 := dedupL_len ((0 :: ks).filter fun k => !decide (k = 0))
  have h3 := List.length_filter_le (fun k => !decide (k = 0)) (0 :: ks)
  show (rdO ks).length ≤ _
  simp only [List.length_cons] at h3
  lia
theorem cl_read (G : Gd w hb mg mb) {m : Bool} (kss : List (List Nat)) (h10 : kss.length ≤ 10) (hr : ∀ ks ∈ kss, ks.length ≤ 10) :
    Cl prog w hb (n + 2) (.ref 193) [vList (fun ks => vTx m (pathL ks)) kss] (vList (vList (nmV m)) (kss.map rd)) := by
  intro W frs A s E vs rm st hp
  cases hp with
  | cons h1 h2 =>
  cases h2
  rename_i v
  refine wpAny_call (fn_enter G (fn_read G) (binds := [("paths", v)]) (Ps := [vList (fun ks => vTx m (pathL ks)) kss]) rm st (BindsTo.of_eq rfl) (.cons h1 .nil) (by simp) rfl fun s₁ i₁ => ?_)
  have rm' := rm_deeper (env := fE (f193 w).1.1 s.heap.objs.size 193) rm
  obtain ⟨o59, ho59, hd59⟩ := (fn_sep G).ob
  obtain ⟨o67, ho67, hd67⟩ := (fn_fk G).ob
  refine seq_next (x_new (R := vList (nmV m)) i₁ rm' (.inl rfl)) fun s₂ ⟨P, i₂⟩ => ?_
  refine seq_next (x_for (R := fun ks => vTx m (pathL ks)) (xs := kss) (τ := fun ks => [("path", vTx m (pathL ks))]) (fun _ => [("rows", vRef P), ("paths", vList (fun ks => vTx m (pathL ks)) kss)]) (fun k => hList (vList (nmV m)) P ((kss.take k).map rd)) (fun _ => True)
    (Q := fun f s' => f = .next ∧ In hb s W (fun a => Own (fE (f193 w).1.1 s.heap.objs.size 193) a ∨ a = P) frs (fE (f193 w).1.1 s.heap.objs.size 193) [("rows", vRef P), ("paths", vList (fun ks => vTx m (pathL ks)) kss)] (hList (vList (nmV m)) P (kss.map rd)) s')
    i₂ rm' (ev_name (P := vList (fun ks => vTx m (pathL ks)) kss) rfl) iterP_list (fun s' i => i.forget (fun _ _ q => q.2.1) fun a d => .inr d) trivial (fun k a d => .inr d) (fun k x hx => asg_name (.inr ⟨rfl, _, rfl⟩)) ?_ (fun s' _ i => ⟨rfl, by rw [List.take_length] at i; exact i⟩)) fun s₃ i₃ => ?_
  · intro N' Y k ks s' E' hN hx _ i
    have hkl : k < kss.length := (List.getElem?_eq_some_iff.mp hx).1
    have hks := hr ks (List.mem_of_getElem? hx)
    have hpl := path_len (ks := ks)
    have hst : (kss.take (k + 1)).map rd = (kss.take k).map rd ++ [rd ks] := by
      rw [List.take_add_one, hx, List.map_append]; rfl
    have hdl := dedupL_len ((0 :: ks).filter fun k => !decide (k = 0))
    have hfl := List.length_filter_le (fun k => !decide (k = 0)) (0 :: ks)
    simp only [List.length_cons] at hfl
    refine seq_next (x_assign (P := vList (nmV m) (0 :: ks)) i rm' (Ev.conv (ev_split (l := pathL ks) rfl (ev_callF ho59 hd59 (ev_glob G rfl rfl) (evl_cons (ev_name (P := vTx m (pathL ks)) rfl) evl_nil) (cl_sep G)) (by lia)) (vNames_of (cut_path ks))) (.inl rfl)) fun s₄ i₄ => ?_
    refine seq_next (x_append (z := rd ks) i₄ rm' rfl (ev_callB (ev_blt G rfl rfl (by decide) rfl) (evl_cons (ev_callF ho67 hd67 (ev_glob G rfl rfl) (evl_cons (ev_filter (R := nmV m) (xs := 0 :: ks) (fun k => !decide (k = 0)) (ev_name rfl) iterP_list
      (fun C k hk => tr_cmp (ev_name (P := nmV m k) rfl) (ev_cut0 (m := m) (l := pathL ks) rfl (by lia)) (op_ne (eqP_nm k 0) (by lia))) (by simp only [List.length_cons]; lia)) evl_nil) (cl_dd G _)) evl_nil) (cl_sortedDict (l := rd0 ks) (by show (rd0 ks).length < 64; unfold rd0; lia))) (by rw [List.length_map, List.length_take]; lia)) fun s₅ i₅ => ?_
    refine wpAny_execs_nil ⟨trivial, ?_⟩
    rw [hst]
    exact i₅.to ⟨rfl, rfl, trivial⟩
  · refine x_retO (Y := hTrue) (l := kss.map rd) { i₃ with xo := ⟨trivial, i₃.xo, fun a q => q.elim⟩, xd := fun a d => d.elim (fun q => q.elim) (i₃.xd a) } rm' rfl fun s' k p => ⟨k, p⟩
end
end Mine
end

section
open PySem PySem.W PyProof.Rows PySem.Calls
set_option Elab.async false
set_option autoImplicit false
set_option linter.unusedVariables false
set_option maxRecDepth 100000
set_option maxHeartbeats 1000000
namespace Mine
noncomputable def f89 (w : World) : DefOf w 89 := ⟨(_, _), rfl, rfl⟩
/-- an instance of the record class at 142 -/
def vRec (Ps : List VP) : VP :=
  ⟨fun W h v => ∃ a vs, v = .ref a ∧ ¬ W a ∧ (∃ o n, h.get? a = some o ∧ o.cls = .ref 142 ∧ o.data = .seq (List.toArray vs) n) ∧ Paired (fun v (P : VP) => P.ok W h v) vs Ps,
   fun {W W' h h' v} ⟨a, vs, e, nw, ⟨o, n, ho, r⟩, p⟩ k => ⟨a, vs, e, (k a o ho nw).1, ⟨o, n, (k a o ho nw).2, r⟩, Paired.mono p fun _ P q => P.st q k⟩⟩
section
variable {prog : Program} {w : World} {h : Heap}
theorem pk_made (X : (KF w).In h) : Looks (model prog w) h (Bind.madeBy (.ref 142)) none := Looks.of_peek X (by rfl)
theorem pk_mro (X : (KF w).In h) : Looks (model prog w) h (mroOf (.ref 142)) [.ref 142, .type "tuple", .type "object"] := Looks.of_peek X (by rfl)
theorem pk_isType (X : (KF w).In h) : Looks (model prog w) h (isType (.ref 142)) true := Looks.of_peek X (by first | rfl | kernel_rfl)
theorem pk_sub (X : (KF w).In h) : Looks (model prog w) h (isSubtype (.ref 142) (.type "tuple")) true := Looks.of_peek X (by first | rfl | kernel_rfl)
theorem pk_self (X : (KF w).In h) : Looks (model prog w) h (isSubtype (.ref 142) (.ref 142)) true := Looks.of_peek X (by first | rfl | kernel_rfl)
theorem pk_obj (X : (KF w).In h) : Looks (model prog w) h (isSubtype (.ref 142) (.type "object")) true := Looks.of_peek X (by first | rfl | kernel_rfl)
theorem pk_here (X : (KF w).In h) : Looks (model prog w) h (Bind.madeHere "tuple.__new__" (.ref 142)) () := Looks.of_peek X (by first | rfl | kernel_rfl)
theorem pk_check (X : (KF w).In h) (T : Addr) : Looks (model prog w) h (checkBuiltinCall "tuple.__new__" ⟨[.ref 142, .ref T], []⟩) () := Looks.of_peek X (by first | rfl | kernel_rfl)
theorem pk_init (X : (KF w).In h) : Looks (model prog w) h (typeLookup (.ref 142) "__init__") (some (.builtin "object.__init__")) := Looks.of_peek X (by first | rfl | kernel_rfl)
theorem pk_call (X : (KF w).In h) : Looks (model prog w) h (specialOf (.ref 142) "__call__") (some (.builtin "type.__call__")) := Looks.of_peek X (by first | rfl | kernel_rfl)
theorem pk_typ (X : (KF w).In h) : Looks (model prog w) h (isInstance (.ref 142) (.type "type")) true := Looks.of_peek X (by first | rfl | kernel_rfl)
end
theorem entry_tnew : entryFor table "tuple.__new__" = some Builtin.«tuple.__new__» := entryFor_of_tree (by kernel_rfl)
theorem plain_tnew : plainId "tuple.__new__" = true := by decide +kernel
end Mine
end

section
open PySem PySem.W PyProof.Rows PySem.Calls
set_option Elab.async false
set_option autoImplicit false
set_option linter.unusedVariables false
set_option maxRecDepth 100000
set_option maxHeartbeats 1000000
namespace Mine
noncomputable def c142 (w : World) : { o : Obj // (KF w).lookup 142 = some o } := ⟨_, rfl⟩
section
variable {prog : Program} {w : World} {A : Around} {E : Value → Shared → Prop} {s : Shared}
theorem tnew_call {T : Addr} {vs : List Value} {Q : Value → Shared → Prop} (X : (KF w).In s.heap) (ht : IsTup s.heap T vs.toArray) (lm : vs.length ≤ 1000)
    (hq : ∀ a h', (∀ b o, s.heap.get? b = some o → h'.get? b = some o) → s.heap.get? a = none → (∃ o n, h'.get? a = some o ∧ o.cls = .ref 142 ∧ o.data = .seq vs.toArray n) → Q (.ref a) { s with heap := h' }) :
    wpAny (model prog w) A (call (.builtin "tuple.__new__") [.ref 142, .ref T]) Q E s := by
  obtain ⟨hp, g, d, tk, os⟩ := s
  have X' : (KF w).In hp := X
  refine wpAny_call (codeAny_call_builtin plain_tnew entry_tnew ((pk_check X' T).at ?_))
  unfold Builtin.«tuple.__new__»
  have L1 := pk_isType (prog := prog) X'
  have L2 := pk_sub (prog := prog) X'
  have L3 := pk_here (prog := prog) X'
  have L4 := pk_init (prog := prog) X'
  obtain ⟨o, ho, hc, n, hd⟩ := ht
  have hsz : vs.toArray.size ≤ sizeLine := by rw [List.size_toArray, sizeLine_eq]; omega
  repeat (first | with_reducible refine wpAny_collect_seq T (.inr rfl) ho hc hd (fun h' k => ?_) hsz | lk)
  rw [if_neg (Nat.not_lt.mpr hsz)]
  show wpAny _ _ (newObjAsIs (Value.ref 142) (Data.seq vs.toArray) (some h'.objs.size)) _ _ _
  unfold newObjAsIs classHasDel
  have hC : hp.get? 142 = some (c142 w).1 := X' _ _ (c142 w).2
  have hC2 := Heap.get?_push_of_some { cls := .ref 142, dict := some h'.objs.size, data := .seq vs.toArray } (Heap.get?_push_of_some { cls := Value.type "dict", data := Data.dict #[] } (k _ _ hC))
  refine wpAny_bind (wpAny_alloc (wpAny_bind (wpAny_bind (wpAny_load hC2 ?_))))
  refine wpAny_pure ?_
  refine wpAny_pure (wpAny_pure ?_)
  refine hq _ _ (fun b o e => Heap.get?_push_of_some _ (Heap.get?_push_of_some _ (k b o e))) ?_ ⟨_, 0, Heap.get?_push_size _ rfl, rfl, rfl⟩
  cases e : hp.get? (h'.push { cls := .type "dict", data := .dict #[] }).objs.size with
  | none => rfl
  | some ob => exact absurd (Heap.lt_size (Heap.get?_push_of_some _ (k _ _ e))) (Nat.lt_irrefl _)
end
end Mine
end

section
open PySem PySem.W PyProof.Rows PySem.Calls
set_option Elab.async false
set_option autoImplicit false
set_option linter.unusedVariables false
set_option maxRecDepth 100000
set_option maxHeartbeats 1000000
namespace Mine
section
variable {prog : Program} {w : World} {hb : Heap} {n : Nat} {mg mb : Str → Option Value} {env : Env} {σ : List (Str × VP)}
theorem tn_getm {A : Around} {E : Value → Shared → Prop} {s : Shared} {pl : Sem Bool} {Q : Value × List Value → Shared → Prop} (X : (KF w).In s.heap)
    (h : Q (.builtin "tuple.__new__", []) { s with toks := s.toks + 1 }) : wpAny (model prog w) A (getMethod (.type "tuple") (PySem.Str.ofString "__new__") pl) Q E s := by
  have hstub : opaqueClassAbove (.type "tuple") = pure none := by unfold opaqueClassAbove; dsimp only; rw [show Manifest.isStub "tuple" = false by decide +kernel]; rfl
  have ht : typeOf (.type "tuple") = pure (.type "type") := by first | rfl | kernel_rfl
  have L0 : Looks (model prog w) s.heap (typeOf (.type "tuple")) (.type "type") := Looks.of_pure ht
  have hg : findIn (KF w) (.type "type") "__getattribute__" = some (some (.builtin "type.__getattribute__")) := type_tga
  have e : findCls (KF w) (.type "tuple") (.type "type") (PySem.Str.ofString "__new__") = some (.val (.builtin "tuple.__new__")) := by rfl
  unfold getMethod specialOf
  refine wpAny_bind (wpAny_bind (L0.here ((looks_findIn X hg).here ?_)))
  dsimp only
  rw [if_pos canon_tga]
  refine wpAny_bind (wpAny_mono (Q := fun v => Q (v, [])) (E := E) ?_ (fun _ _ z => wpAny_pure z) fun _ _ z => z)
  have LO : Looks (model prog w) s.heap (opaqueClassAbove (.type "tuple")) none := Looks.of_pure hstub
  refine cls_open X LO L0 hg (looks_hook X (r := none) (by rfl)) (by show subIn (KF w) _ _ = _; rfl) e ?_
  exact wpAny_pure (handed_on rfl h)
theorem ev_tnew (G : Gd w hb mg mb) {e1 e2 : Expr} {Ps : List VP} {pd pa pc : Pos} (hk : env.kindOf "tuple" = some .globalImplicit) (h1 : Ev prog w hb n env σ e1 (vIs (.ref 142))) (h2 : Ev prog w hb n env σ e2 (vTup Ps)) (lm : Ps.length ≤ 1000)
    (hline : (pa.endLine == pc.line) = true := by rfl) (hst1 : starEach [e1, e2] env = (false, eval e1 env) :: starEach [e2] env := by rfl) (hst2 : starEach [e2] env = (false, eval e2 env) :: starEach [] env := by rfl) :
    Ev prog w hb n env σ (.Call (.Attribute (.Name "tuple" pd) "__new__" pa) [e1, e2] [] pc) (vRec Ps) := by
  intro W frs A s E rm o
  have hst : starEach [e1, e2] env = [(false, eval e1 env), (false, eval e2 env)] := by rw [hst1, hst2]; rfl
  rw [arm_eval_Call, show attributeBase (.Name "tuple" pd) "__new__" env (eval (.Name "tuple" pd) env) = eval (.Name "tuple" pd) env from rfl]
  refine wpAny_bind (wpAny_mono (ev_blt (pos := pd) G (x := "tuple") (v := .type "tuple") rfl rfl (by decide) hk rfl W frs A s E rm o) (fun v s₁ ⟨k₁, p₁⟩ => ?_) fun _ _ x => x)
  obtain rfl : v = .type "tuple" := p₁
  have o₁ := o.kp k₁
  refine wpAny_bind (wpAny_standAt ?_)
  rw [hst]
  have hform : methodCallForm ([e1, e2].length + ([] : List Keyword).length) (backTo pc [(false, eval e1 env), (false, eval e2 env)]) (backToKw pc (keywordEach [] env)) = true := rfl
  have hpos : methodCallPos true (.Name "tuple" pd) env pa pc = pure pc := by unfold methodCallPos; simp [hline]
  unfold methodCall
  rw [hform]
  refine wpAny_bind (wpAny_holding (tn_getm (fun a o e => o₁.stay a o (G.kin a o e)) ?_))
  refine wpAny_bind (wpAny_of_eq hpos ?_)
  have k₂ : Kp (frS frs) s₁ { s₁ with toks := s₁.toks + 1 } := .tok1 _ _ _
  have o₂ := o₁.kp k₂
  rw [← hst]
  refine PyProof.Rows.callWith_builtin1 (wpAny_mono (evl_cons (pos := pc) h1 (evl_cons (pos := pc) h2 evl_nil hst2) hst1 W frs A _ E rm o₂) (fun vs s₃ ⟨k₃, p₃⟩ => ?_) fun _ _ x => x) hst1 (by rw [hst2]; rfl)
  cases p₃ with
  | cons q1 r =>
  cases r with
  | cons q2 r =>
  cases r
  obtain rfl := q1
  obtain ⟨T, ts, rfl, nT, ht, pt⟩ := q2
  have o₃ := o₂.kp k₃
  have hlen := Paired.length pt
  refine tnew_call (fun a o e => o₃.stay a o (G.kin a o e)) ht (by omega) fun a h' hk' hn ho => ?_
  have k₄ : Kp (frS frs) s₃ { s₃ with heap := h' } := Kp.all' hk'
  refine ⟨((k₁.trans k₂).trans k₃).trans k₄, a, ts, rfl, fun q => ?_, ho, pmono pt k₄.same o.wf⟩
  obtain ⟨ob, e⟩ := o₃.wd a q
  rw [hn] at e
  cases e
theorem fn_mm (G : Gd w hb mg mb) : FnAt hb 89 (f89 w).1.1 (f89 w).1.2 := fnAt G (f89 w) rfl rfl rfl rfl rfl rfl rfl
theorem cl_mmnew (G : Gd w hb mg mb) {P Q R : VP} : Cl prog w hb (n + 1) (.ref 89) [vIs (.ref 142), P, Q, R] (vRec [P, Q, R]) := by
  intro W frs A s E vs rm st hp
  cases hp with
  | cons h1 hp =>
  cases hp with
  | cons h2 hp =>
  cases hp with
  | cons h3 hp =>
  cases hp with
  | cons h4 hp =>
  cases hp
  rename_i v1 v2 v3 v4
  refine wpAny_call (fn_enter G (fn_mm G) (binds := [("_cls", v1), ("actual", v2), ("expected", v3), ("value", v4)]) (Ps := [vIs (.ref 142), P, Q, R]) rm st (BindsTo.of_eq rfl) (.cons h1 (.cons h2 (.cons h3 (.cons h4 .nil)))) (show (["_cls", "actual", "expected", "value"] : List Str).Nodup by decide) rfl fun s₁ i₁ => ?_)
  have rm' := rm_deeper (env := fE (f89 w).1.1 s.heap.objs.size 89) rm
  refine seq_next (x_doc i₁) fun s₁' i₁ => ?_
  exact x_ret i₁ rm' (ev_tnew G (Ps := [P, Q, R]) rfl (ev_name rfl) (ev_tuple (evl_cons (ev_name rfl) (evl_cons (ev_name rfl) (evl_cons (ev_name rfl) evl_nil))) (by simp)) (by simp)) fun v s' i p => ⟨i.kp, VP.out p⟩
end
end Mine
end

section
open PySem PySem.W PyProof.Rows PySem.Calls
set_option Elab.async false
set_option autoImplicit false
set_option linter.unusedVariables false
set_option maxRecDepth 100000
set_option maxHeartbeats 1000000
namespace Mine
theorem oi_args4 (a b c d : Value) : argsOk "object.__init__" ⟨[a, b, c, d], []⟩ := by unfold argsOk; kernel_rfl
section
variable {prog : Program} {w : World} {hb : Heap} {n : Nat} {mg mb : Str → Option Value} {A : Around} {E : Value → Shared → Prop} {s : Shared}
theorem getnew {expr : Bool} {Q : Value → Shared → Prop} (X : (KF w).In s.heap) (h : Q (.ref 89) { s with toks := s.toks + 1 }) : wpAny (model prog w) A (getAttr (.ref 142) "__new__" expr) Q E s :=
  cls_bind X (mc := .type "type") (by rfl) (g := .builtin "staticmethod.__get__") (a := .ref 143) (obj := .none) (tp := .ref 142) (by rfl) (wpAny_call (sm_get (s := { s with toks := s.toks + 1 }) (f := .ref 89) X (by rfl) (handed_on rfl h)))
theorem oi_call {x : Addr} {ox : Obj} {a b c : Value} {Q : Value → Shared → Prop} (X : (KF w).In s.heap) (hx : s.heap.get? x = some ox) (hc : ox.cls = .ref 142) (h : Q .none s) : wpAny (model prog w) A (call (.builtin "object.__init__") [.ref x, a, b, c]) Q E s := by
  obtain ⟨hp, g, d, tk, os⟩ := s
  have X' : (KF w).In hp := X
  have hx' : hp.get? x = some ox := hx
  have t1 : Looks (model prog w) hp (typeOf (.ref x)) (.ref 142) := by rw [← hc]; exact (Looks.ld hx').andThen .now
  have t2 : Looks (model prog w) hp (isInstance (.ref x) (.type "object")) true := t1.andThen (pk_obj X')
  refine wpAny_call (codeAny_call_builtin oi_plain entry_oi (@check_slot (model prog w) _ _ _ "object.__init__" "object" "__init__" (.ref x) [a, b, c] [] _ oi_kind oi_split t2 (oi_args4 _ _ _ _) ?_))
  unfold Builtin.«object.__init__»
  have L1 := pk_init (prog := prog) X'
  have L2 := pk_made (prog := prog) X'
  repeat lk
  exact h
end
end Mine
end

section
open PySem PySem.W PyProof.Rows PySem.Calls
set_option Elab.async false
set_option autoImplicit false
set_option linter.unusedVariables false
set_option maxRecDepth 100000
set_option maxHeartbeats 1000000
namespace Mine
def Held (P : Prop) : Prop := P
theorem Held.out {P : Prop} (h : Held P) : P := h
section
variable {prog : Program} {w : World} {hb : Heap} {n : Nat} {mg mb : Str → Option Value}
theorem rm_under {frs : List Env} {A : Around} {as : Args} (rm : Rm (n + 1) frs A) : Rm n frs (A.under (.builtin "type.__call__" as)) := by
  refine ⟨rm.hh, ?_, ?_, ?_⟩
  · have e : (Code.builtin "type.__call__" as).envs = [] := rfl
    unfold Around.under
    dsimp only
    rw [e]
    exact rm.fr
  · have := rm.dp
    show A.depth + (Code.builtin "type.__call__" as).weight + 2 * n < recursionLimit
    have e : (Code.builtin "type.__call__" as).weight ≤ 2 := by
      unfold Code.weight
      have e1 : (Code.builtin "type.__call__" as).frames = 0 := rfl
      have e2 : (Code.builtin "type.__call__" as).isGuard = false := by
        show guardIds.contains "type.__call__" = false
        decide +kernel
      have e3 : (Code.builtin "type.__call__" as).isCaller = false := rfl
      rw [e1, e2, e3]
      split <;> simp
    lia
  · have := rm.un
    show A.units + (Code.builtin "type.__call__" as).cUnits + 100 * n + 100 < cLine
    have e : (Code.builtin "type.__call__" as).cUnits ≤ 10 := by
      have e1 : (Code.builtin "type.__call__" as).frames = 0 := rfl
      show 1 + 3 * (Code.builtin "type.__call__" as).frames ≤ 10
      rw [e1]; decide
    lia
theorem cl_mm (G : Gd w hb mg mb) {P Q R : VP} : Cl prog w hb (n + 2) (.ref 142) [P, Q, R] (vRec [P, Q, R]) := by
  intro W frs A s E vs rm st hp
  have X : (KF w).In s.heap := fun a o e => st.stay a o (G.kin a o e)
  have hC : s.heap.get? 142 = some (c142 w).1 := X _ _ (c142 w).2
  refine wpAny_call (codeAny_of_tree ?_)
  show wpAny _ A.in1 (callAny (.ref 142) ⟨vs, []⟩) _ _ s
  obtain ⟨hp', g, d, tk, os⟩ := s
  refine nd_load hC ?_
  show wpAny _ _ (callAny.viaDunder (.ref 142) _) _ _ _
  unfold callAny.viaDunder
  refine wpAny_bind ((pk_call X).at ?_)
  dsimp only
  rw [tc_bind]
  refine wpAny_bind (wpAny_pure (wpAny_bind (wpAny_pure ?_)))
  refine wpAny_pure (a := Fin.again (.call (.builtin "type.__call__") ⟨.ref 142 :: vs, []⟩)) (And.intro rfl ?_)
  refine codeAny_call_builtin_at (Code.quiet_builtin _ (by decide +kernel)) entry_typeCall (check_slot tc_kind tc_split (pk_typ X) (tc_args _ _ _) ?_)
  unfold Builtin.«type.__call__»
  have L1 := pk_mro (prog := prog) X
  have L2 := pk_made (prog := prog) X
  have st₁ : St hb W frs (⟨hp', g, d, tk + 1, os⟩ : Shared) := st.kp (.tok1 _ _ _)
  have hnew : ∀ E', wpAny (model prog w) (A.under (.builtin "type.__call__" ⟨.ref 142 :: vs, []⟩)) (call (.ref 89) (.ref 142 :: vs)) (fun z s' => Kp (frS frs) (⟨hp', g, d, tk + 1, os⟩ : Shared) s' ∧ (vRec [P, Q, R]).ok W s'.heap z) E' ⟨hp', g, d, tk + 1, os⟩ :=
    fun E' => cl_mmnew G W frs _ _ E' _ (rm_under rm) st₁ (.cons rfl hp)
  obtain ⟨v1, v2, v3, rfl⟩ : ∃ v1 v2 v3, vs = [v1, v2, v3] := by
    cases hp with
    | cons h1 hp =>
    cases hp with
    | cons h2 hp =>
    cases hp with
    | cons h3 hp =>
    cases hp
    exact ⟨_, _, _, rfl⟩
  repeat (first | with_reducible refine getnew X ?_ | with_reducible refine wpAny_mono (hnew (fun _ _ => False)) (fun z s₁ h₁ => Held.out ?_) (fun _ _ h => h.elim) | lk)
  unfold Held
  obtain ⟨k₁, p₁⟩ := h₁
  have st₂ := st₁.kp k₁
  have X₂ : (KF w).In s₁.heap := fun a o e => st₂.stay a o (G.kin a o e)
  obtain ⟨a, us, rfl, nw, ⟨o, no, ho, hc, hd⟩, pp⟩ := p₁
  have kk : Kp (frS frs) (⟨hp', g, d, tk, os⟩ : Shared) s₁ := Kp.trans (.tok1 _ _ _) k₁
  have fin : Kp (frS frs) (⟨hp', g, d, tk, os⟩ : Shared) s₁ ∧ (vRec [P, Q, R]).ok W s₁.heap (.ref a) := ⟨kk, a, us, rfl, nw, ⟨o, no, ho, hc, hd⟩, pp⟩
  have t1 : Looks (model prog w) s₁.heap (typeOf (.ref a)) (.ref 142) := by rw [← hc]; exact (Looks.ld ho).andThen .now
  have L3 : Looks (model prog w) s₁.heap (isInstance (.ref a) (.ref 142)) true := t1.andThen (pk_self X₂)
  have L4 : Looks (model prog w) s₁.heap (specialOf (.ref a) "__init__") (some (.builtin "object.__init__")) := t1.andThen (pk_init X₂)
  refine wpAny_bind (L3.here ?_)
  refine KFB.if_not rfl ?_
  refine wpAny_bind (wpAny_holding ?_)
  unfold callSpecial?
  refine wpAny_bind (L4.here ?_)
  refine wpAny_holding ?_
  rw [oi_bind]
  refine wpAny_bind (wpAny_pure ?_)
  refine wpAny_bind (oi_call X₂ ho hc ?_)
  exact wpAny_pure (wpAny_pure fin)
end
end Mine
end

section
open PySem PySem.W PyProof.Rows PySem.Calls
set_option Elab.async false
set_option autoImplicit false
set_option linter.unusedVariables false
set_option maxRecDepth 100000
set_option maxHeartbeats 1000000
namespace Mine
def SeqOf (h : Heap) (a : Addr) (items : Array Value) : Prop := ∃ o n, h.get? a = some o ∧ o.data = .seq items n
theorem SeqOf.but {h h' : Heap} {a b : Addr} {items : Array Value} (x : SeqOf h a items) (k : Heap.ExtBut b h h') (ne : a ≠ b) : SeqOf h' a items := let ⟨o, n, e, d⟩ := x; ⟨o, n, k a o ne e, d⟩
theorem entry_titer : entryFor table "tuple.__iter__" = some Builtin.«tuple.__iter__» := entryFor_of_tree (by kernel_rfl)
theorem plain_titer : plainId "tuple.__iter__" = true := by decide +kernel
theorem kind_titer : builtinKind "tuple.__iter__" = some .slot := by decide +kernel
theorem split_titer : splitId "tuple.__iter__" = some ("tuple", "__iter__") := by decide +kernel
theorem titer_bind (self : Value) : bindSpecial (.builtin "tuple.__iter__") self = pure (.builtin "tuple.__iter__", [self]) := F.slot_tuple_iter.bind self
section
variable {prog : Program} {w : World} {A : Around} {E : Value → Shared → Prop} {s : Shared}
theorem next_item {it t : Addr} {i : Nat} {items : Array Value} {x : Value} {Q : Option Value → Shared → Prop} (hit : s.heap.IsTupleIter it t i) (ht : SeqOf s.heap t items) (hx : items[i]? = some x)
    (hQ : ∀ h', h'.IsTupleIter it t (i + 1) → Heap.SameBut it s.heap h' → Q (some x) { s with heap := h' }) : wpAny (model prog w) A (pyNext (.ref it)) Q E s := by
  obtain ⟨o, ho, hc, hd⟩ := id hit
  obtain ⟨ol, nl, hol, hdl⟩ := ht
  unfold pyNext
  refine wpAny_bind (wpAny_attempt (wpAny_callSpecial?_slot (name := Str.ofString "__next__") hit.typeIs F.slot_tuple_iterator_next
    (wpAny_call_entry F.slot_tuple_iterator_next hit.typeIs F.entry_tuple_iterator_next ?_ (F.args_tuple_iterator_next_1 _))))
  show wpAny _ _ (field (.ref it) 0 >>= _) _ _ s
  refine wpAny_bind (wpAny_field ho hd (x := .ref t) rfl ?_)
  show wpAny _ _ (if (Value.ref t == Value.none) = true then _ else _) _ _ s
  rw [if_neg (show ¬ ((Value.ref t == Value.none) = true) from Bool.false_ne_true)]
  show wpAny _ _ (field (.ref it) 1 >>= _) _ _ s
  refine wpAny_bind (wpAny_field ho hd (x := .int i 0) rfl ?_)
  show wpAny _ _ (seqItems? (.ref t) >>= _) _ _ s
  refine wpAny_bind (wpAny_seqItems hol hdl ?_)
  simp only [Int.toNat_natCast, hx]
  refine wpAny_bind (wpAny_setField ho hd (by simp) (wpAny_pure ⟨x, rfl, wpAny_pure (hQ _ ⟨_, Heap.get?_update_self _ ho (Obj.isFreed_of_fields (Obj.data_mapFields hd _)), (Obj.cls_mapFields ..).trans hc, ?_⟩ (Heap.SameBut.update ..))⟩))
  rw [Obj.data_mapFields hd]; simp [rawInt]
theorem next_end {it t : Addr} {i : Nat} {items : Array Value} {Q : Option Value → Shared → Prop} (hh : A.handled = none) (hit : s.heap.IsTupleIter it t i) (ht : SeqOf s.heap t items) (hx : items[i]? = none)
    (hQ : ∀ h', Heap.ExtBut it s.heap h' → Q none { s with heap := h' }) : wpAny (model prog w) A (pyNext (.ref it)) Q E s := by
  obtain ⟨o, ho, hc, hd⟩ := id hit
  obtain ⟨ol, nl, hol, hdl⟩ := ht
  unfold pyNext
  refine wpAny_bind (wpAny_attempt (wpAny_callSpecial?_slot (name := Str.ofString "__next__") hit.typeIs F.slot_tuple_iterator_next
    (wpAny_call_entry F.slot_tuple_iterator_next hit.typeIs F.entry_tuple_iterator_next ?_ (F.args_tuple_iterator_next_1 _))))
  show wpAny _ _ (field (.ref it) 0 >>= _) _ _ s
  refine wpAny_bind (wpAny_field ho hd (x := .ref t) rfl ?_)
  show wpAny _ _ (if (Value.ref t == Value.none) = true then _ else _) _ _ s
  rw [if_neg (show ¬ ((Value.ref t == Value.none) = true) from Bool.false_ne_true)]
  show wpAny _ _ (field (.ref it) 1 >>= _) _ _ s
  refine wpAny_bind (wpAny_field ho hd (x := .int i 0) rfl ?_)
  show wpAny _ _ (seqItems? (.ref t) >>= _) _ _ s
  refine wpAny_bind (wpAny_seqItems hol hdl ?_)
  simp only [Int.toNat_natCast, hx]
  refine wpAny_bind (wpAny_rule (wpAny_bind (wpAny_setField ho hd (by simp) ?_)))
  show wpAny _ _ (newExc (.type "StopIteration") [] >>= _) _ _ _
  refine wpAny_bind ?_
  simp only [newExc, newTuple]
  refine wpAny_bind (wpAny_newObj_type ?_ (by size_fits))
  refine wpAny_bind (m := firstArgMember _ _) (wpAny_of_eq (a := Value.none) (by first | rfl | (simp only [firstArgMember]; rfl)) ?_)
  refine wpAny_newObj_type ?_ (by size_fits)
  simp only [raiseNew]
  refine wpAny_bind (wpAny_handled ?_)
  rw [show A.in1.handled = none from hh]
  refine wpAny_bind (wpAny_pure (wpAny_throw ?_))
  refine wpAny_bind (wpAny_isInstance (T := "StopIteration") (b := true) ⟨_, Heap.get?_push_size _ rfl, rfl⟩ isSubtype_stop ?_)
  exact wpAny_pure (hQ _ (((Heap.SameBut.update ..).extBut.push _).push _))
theorem rec_iter {a : Addr} {o : Obj} {Q : Value → Shared → Prop} (X : (KF w).In s.heap) (ho : s.heap.get? a = some o) (hc : o.cls = .ref 142)
    (hQ : Q (.ref s.heap.objs.size) { s with heap := s.heap.push { cls := .type "tuple_iterator", data := .fields #[.ref a, .int 0 0] } }) : wpAny (model prog w) A (pyIter (.ref a)) Q E s := by
  obtain ⟨hp, g, d, tk, os⟩ := s
  have X' : (KF w).In hp := X
  have ho' : hp.get? a = some o := ho
  have t1 : Looks (model prog w) hp (typeOf (.ref a)) (.ref 142) := by rw [← hc]; exact (Looks.ld ho').andThen .now
  have L0 : Looks (model prog w) hp (specialOf (.ref a) "__iter__") (some (.builtin "tuple.__iter__")) := t1.andThen (looks_findIn X' (by rfl))
  have t2 : Looks (model prog w) hp (isInstance (.ref a) (.type "tuple")) true := t1.andThen (pk_sub X')
  have hcall : ∀ (Q' : Value → Shared → Prop) E', Q' (.ref hp.objs.size) ⟨hp.push { cls := .type "tuple_iterator", data := .fields #[.ref a, .int 0 0] }, g, d, tk, os⟩ → wpAny (model prog w) A (call (.builtin "tuple.__iter__") [.ref a]) Q' E' ⟨hp, g, d, tk, os⟩ := fun Q' E' hq => by
    refine wpAny_call (codeAny_call_builtin plain_titer entry_titer (@check_slot (model prog w) _ _ _ "tuple.__iter__" "tuple" "__iter__" (.ref a) [] [] _ kind_titer split_titer t2 (F.args_tuple_iter_1 _) ?_))
    show wpAny _ _ (do ret (← newFields "tuple_iterator" [.ref a, rawInt 0])) _ _ _
    exact wpAny_bind (wpAny_newObj_type (wpAny_pure hq))
  unfold pyIter
  refine wpAny_bind (L0.at ?_)
  show wpAny _ _ (callSpecialIfBoundUnlessNone? (.ref a) "__iter__" _ >>= _) Q E _
  simp only [callSpecialIfBoundUnlessNone?, bindSpecialIfBound?]
  refine wpAny_bind (wpAny_holding (wpAny_bind (wpAny_bind (L0.at ?_))))
  simp only [titer_bind]
  refine wpAny_bind (wpAny_askSetting (wpAny_ite ?_))
  have hT : ∀ (s' : Shared), s' = ⟨hp.push { cls := .type "tuple_iterator", data := .fields #[.ref a, .int 0 0] }, g, d, tk, os⟩ → s'.TypeIs (.ref hp.objs.size) "tuple_iterator" := fun s' e => by
    subst e
    exact ⟨_, Heap.get?_push_size _ rfl, rfl⟩
  split
  · refine wpAny_bind (wpAny_pure (wpAny_pure ?_))
    show wpAny _ _ (if (Value.builtin "tuple.__iter__" == Value.none) = true then _ else _) _ _ _
    rw [if_neg (by decide)]
    refine wpAny_bind (hcall _ _ (wpAny_pure ?_))
    exact wpAny_bind (wpAny_specialOf (hT _ rfl) F.slot_tuple_iterator_next.lookup (wpAny_pure hQ))
  · refine wpAny_tryCatch (wpAny_bind (wpAny_pure (wpAny_pure ?_)))
    show wpAny _ _ (if (Value.builtin "tuple.__iter__" == Value.none) = true then _ else _) _ _ _
    rw [if_neg (by decide)]
    refine wpAny_bind (hcall _ _ (wpAny_pure ?_))
    exact wpAny_bind (wpAny_specialOf (hT _ rfl) F.slot_tuple_iterator_next.lookup (wpAny_pure hQ))
theorem draw_seq {it t : Addr} {items : Array Value} (hne : t ≠ it) : ∀ (n i : Nat) (s : Shared) (Q : List Value → Shared → Prop), s.heap.IsTupleIter it t i → SeqOf s.heap t items → i + n ≤ items.size →
    (∀ h', h'.IsTupleIter it t (i + n) → Heap.SameBut it s.heap h' → Q ((items.toList.drop i).take n) { s with heap := h' }) → wpAny (model prog w) A (draw (.ref it) n) Q E s
  | 0, i, s, Q, hit, _, _, hQ => by
    show wpAny _ _ (pure []) Q E s
    exact wpAny_pure (by simpa using hQ s.heap hit (Heap.SameBut.refl ..))
  | n + 1, i, s, Q, hit, ht, hle, hQ => by
    have hlt : i < items.size := by omega
    show wpAny _ _ (pyNext (.ref it) >>= _) Q E s
    refine wpAny_bind (next_item hit ht (x := items[i]) (by simp [hlt]) fun h₁ hit₁ hs₁ => ?_)
    refine wpAny_bind (wpAny_holding (draw_seq hne n (i + 1) _ _ hit₁ (ht.but hs₁.extBut hne) (by omega) fun h₂ hit₂ hs₂ => wpAny_pure ?_))
    have hd : items.toList.drop i = items[i] :: items.toList.drop (i + 1) := by simp [List.drop_eq_getElem_cons, hlt]
    have := hQ h₂ (by rw [show i + (n + 1) = i + 1 + n by omega]; exact hit₂) (hs₁.trans hs₂)
    rw [hd, List.take_succ_cons] at this
    exact this
theorem unpack_rec {a : Addr} {o : Obj} {items : Array Value} {n : Nat} {Q : List Value → Shared → Prop} (X : (KF w).In s.heap) (hh : A.handled = none) (ho : s.heap.get? a = some o) (hc : o.cls = .ref 142) (hd : o.data = .seq items n)
    (hQ : ∀ h', (∀ b ob, s.heap.get? b = some ob → h'.get? b = some ob) → Q items.toList { s with heap := h' }) : wpAny (model prog w) A (unpackItems (.ref a) items.size none) Q E s := by
  have hlt : a ≠ s.heap.objs.size := Nat.ne_of_lt (Heap.lt_size ho)
  have t1 : Looks (model prog w) s.heap (typeOf (.ref a)) (.ref 142) := by rw [← hc]; exact (Looks.ld ho).andThen .now
  have L0 : Looks (model prog w) s.heap (specialOf (.ref a) "__iter__") (some (.builtin "tuple.__iter__")) := t1.andThen (looks_findIn X (by rfl))
  unfold unpackItems notIterableAtAll
  refine wpAny_bind (wpAny_bind (L0.here (wpAny_pure ?_)))
  rw [if_neg (by decide)]
  refine wpAny_bind (wpAny_holding (rec_iter X ho hc ?_))
  have hs : SeqOf (s.heap.push { cls := .type "tuple_iterator", data := .fields #[.ref a, .int 0 0] }) a items := ⟨o, n, Heap.get?_push_of_some _ ho, hd⟩
  refine wpAny_bind (wpAny_holding (draw_seq hlt items.size 0 _ _ ⟨_, Heap.get?_push_size _ rfl, rfl, rfl⟩ hs (by omega) fun h₁ hit₁ hs₁ => ?_))
  have hall : List.take items.size (List.drop 0 items.toList) = items.toList := by
    rw [List.drop_zero]; exact List.take_of_length_le (by simp)
  rw [hall, if_neg (by simp)]
  refine wpAny_bind (wpAny_holding (next_end hh hit₁ (hs.but hs₁.extBut hlt) (by simp) fun h₂ he₂ => ?_))
  simp only [Option.isSome_none, Bool.false_eq_true, if_false]
  refine wpAny_pure (hQ h₂ fun b ob e => ?_)
  have hb : b ≠ s.heap.objs.size := Nat.ne_of_lt (Heap.lt_size e)
  exact he₂ b ob hb (hs₁.extBut b ob hb (Heap.get?_push_of_some _ e))
end
section
variable {prog : Program} {w : World} {hb : Heap} {n : Nat} {mg mb : Str → Option Value} {env : Env} {σ : List (Str × VP)}
theorem asg_rec (G : Gd w hb mg mb) {es : List Expr} {k : Nat} {pos : Pos} {Ps : List VP} {τ : List (Str × VP)} (h : AsgL prog w hb n env σ es Ps τ) (hl : (assignEach es env).length = Ps.length := by rfl) (hst : (assignEach es env).findIdx? (·.1) = none := by rfl) : Asg prog w hb n env σ (.Tuple es k pos) (vRec Ps) τ := by
  rintro W frs A s E v rm o ⟨a, vs, rfl, nw, ⟨ob, no, ho, hc, hd⟩, p⟩
  have hlen := Paired.length p
  have X : (KF w).In s.heap := fun a ob e => o.stay a ob (G.kin a ob e)
  rw [arm_assign_Tuple]
  refine wpAny_bind (wpAny_standAt ?_)
  unfold unpack
  rw [hst, show (assignEach es env).length = (List.toArray vs).size by rw [hl, List.size_toArray, hlen]]
  refine wpAny_bind (wpAny_holding (unpack_rec X rm.hh ho hc hd fun h' hx => ?_))
  have k₁ : Kp (frS frs) s { s with heap := h' } := Kp.all' hx
  refine wpAny_mono (h W frs A _ E vs rm (o.kp k₁) (pmono p k₁.same o.wf)) (fun _ s₂ hq => ?_) fun _ _ x => x
  obtain ⟨⟨h₂, tk₂, rfl, hk₂⟩, o₂⟩ := hq
  exact ⟨⟨h₂, tk₂, rfl, fun a ob e na => hk₂ a ob (hx a ob e) na⟩, o₂⟩
theorem asg_rec3 (G : Gd w hb mg mb) {x y z : Str} {px py pz pos : Pos} {k : Nat} {P Q R : VP} (hx : StoreOk env x) (hy : StoreOk env y) (hz : StoreOk env z) : Asg prog w hb n env σ (.Tuple [.Name x px, .Name y py, .Name z pz] k pos) (vRec [P, Q, R]) [(z, R), (y, Q), (x, P)] :=
  asg_rec G (asgL_cons (asg_name hx) (asgL_cons (asg_name hy) (asgL_cons (asg_name hz) asgL_nil ownN_W rfl) ownN_W rfl) ownN_W rfl) rfl rfl
theorem ev_callK (G : Gd w hb mg mb) {f : Expr} {a : Addr} {e : Expr} {es : List Expr} {pos : Pos} {Ps : List VP} {T : VP} (hk : keepIn (KF w) (.ref a) = true) (hf : Ev prog w hb n env σ f (vIs (.ref a))) (ha : EvL prog w hb n env σ pos (e :: es) Ps) (hc : Cl prog w hb n (.ref a) Ps T)
    (he : eval (.Call f (e :: es) [] pos) env = (do callWith pos (← eval f env) [] (backTo pos (starEach (e :: es) env)) (backToKw pos (keywordEach [] env))) := by rfl)
    (hst : starEach (e :: es) env = (false, eval e env) :: starEach es env := by rfl) (hpl : (backTo pos (starEach es env)).any (·.1) = false := by rfl) :
    Ev prog w hb n env σ (.Call f (e :: es) [] pos) T := fun W frs A s E rm o =>
  PyProof.Rows.Call_ (wpAny_mono (hf W frs A s E rm o) (fun v s₁ ⟨k₁, p₁⟩ => by
    obtain rfl : v = .ref a := p₁
    refine callWith_K (K := KF w) (h₀ := hb) G.kin hk (wpAny_mono (ha W frs A s₁ E rm (o.kp k₁)) (fun vs s₂ ⟨k₂, p₂⟩ => ?_) fun _ _ x => x) hst hpl
    exact ⟨fun a ob e => ((o.toSt.kp k₁).kp k₂).stay a ob (G.kin a ob e), wpAny_mono (hc W frs A s₂ E vs rm ((o.toSt.kp k₁).kp k₂) p₂) (fun z s₃ ⟨k₃, p₃⟩ => ⟨(k₁.trans k₂).trans k₃, p₃⟩) fun _ _ x => x⟩) fun _ _ x => x) he
end
end Mine
end

section
open PySem PySem.W PyProof.Rows PySem.Calls
set_option Elab.async false
set_option autoImplicit false
set_option linter.unusedVariables false
set_option maxRecDepth 100000
set_option maxHeartbeats 1000000
namespace Mine
theorem mro_object : mroOf (.type "object") = pure [.type "object"] := by rw [mroOf_type]; kernel_rfl
theorem lookup_object_new : typeLookup (.type "object") "__new__" = pure (some (.builtin "object.__new__")) := by rw [typeLookup_type, builtinLookup_eq_fast]; kernel_rfl
theorem slot_oinit : Slot "object" "__init__" "object.__init__" := .of (owner := "object") (n := "__init__") (by rw [typeLookup_type, builtinLookup_eq_fast]; kernel_rfl) (by decide +kernel) (by decide +kernel) (by decide +kernel)
    (.inl (by decide +kernel)) (by rw [isSubtype_type]; kernel_rfl)
theorem sub_object : isSubtype (.type "object") (.type "object") = pure true := by rw [isSubtype_type]; kernel_rfl
theorem called_object : TypeCalled "object" "object.__new__" "object.__init__" :=
  ⟨by decide +kernel, by decide +kernel, ⟨_, _, mro_object⟩, madeBy_type mro_object lookup_object_new (by decide +kernel), by decide +kernel, sub_object, slot_oinit⟩
theorem typeCall_object : checkTypeCall "object" ⟨[], []⟩ = pure () := by kernel_rfl
theorem newCall_object : checkBuiltinCall "object.__new__" ⟨[.type "object"], []⟩ = pure () := by kernel_rfl
theorem plain_onew : plainId "object.__new__" = true := by decide +kernel
theorem madeHere_object : Bind.madeHere "object.__new__" (.type "object") = pure () := by kernel_rfl
theorem isType_object : isType (.type "object") = pure true := by first | rfl | kernel_rfl | (unfold isType; rw [isSubtype_type]; kernel_rfl)
section
variable {prog : Program} {w : World} {A : Around} {E : Value → Shared → Prop} {s : Shared}
abbrev objO : Obj := { cls := .type "object", data := .plain }
theorem call_object0 {Q : Value → Shared → Prop} (h : Q (.ref s.heap.objs.size) { s with heap := s.heap.push objO }) : wpAny (model prog w) A (call (.type "object") []) Q E s := by
  refine callType_codes (Q₁ := fun obj s₁ => obj = .ref s.heap.objs.size ∧ s₁ = { s with heap := s.heap.push objO }) called_object typeCall_object entry_oi ?_ fun obj s₁ h₁ => ?_
  · refine codeAny_call_builtin plain_onew PySem.F.objNew.entry (wpAny_of_eq newCall_object ?_)
    unfold Builtin.«object.__new__»
    refine wpAny_bind (wpAny_of_eq isType_object ?_)
    refine KFB.if_not rfl ?_
    refine KFB.if_not (by decide +kernel) ?_
    refine wpAny_bind (wpAny_of_eq madeHere_object ?_)
    refine KFB.if_not rfl ?_
    show wpAny _ _ (if typeHasDict (Value.type "object") = true then _ else _) _ _ _
    refine KFB.if_not (by decide +kernel) ?_
    refine wpAny_bind (wpAny_pure ?_)
    show wpAny _ _ (newObj (Value.type "object") Data.plain none >>= _) _ _ _
    refine wpAny_bind (wpAny_newObj_type ?_)
    refine KFB.if_not (by decide +kernel) ?_
    exact wpAny_pure ⟨rfl, rfl⟩
  · obtain ⟨rfl, rfl⟩ := h₁
    refine ⟨⟨_, Heap.get?_push_size _ rfl, rfl⟩, oi_args _, ?_⟩
    rw [oi_run]
    exact wpAny_pure ⟨rfl, h⟩
end
end Mine
end

section
open PySem PySem.W PyProof.Rows PySem.Calls
set_option Elab.async false
set_option autoImplicit false
set_option linter.unusedVariables false
set_option maxRecDepth 100000
set_option maxHeartbeats 1000000
namespace Mine
theorem meets_streq_obj (a : Str) (t : Tok) (N : Addr) : Meets (Builtin.«str.__eq__» ⟨[.str a t, .ref N], []⟩) (fun _ R s => s.heap.get? N = some objO ∧ R (.ok (.ret .notImplemented)) s) := by
  refine .of_wp fun prog w A R s h => ?_
  obtain ⟨hp, g, d, tk, os⟩ := s
  obtain ⟨ho, h⟩ := h
  have t1 : Looks (model prog w) hp (typeOf (.ref N)) (.type "object") := (Looks.ld ho).andThen .now
  have t2 : Looks (model prog w) hp (isInstance (.ref N) (.type "str")) false := t1.andThen (Looks.of_pure (by rw [isSubtype_type]; kernel_rfl))
  unfold Builtin.«str.__eq__» Builtin.Str.strCompare
  repeat lk
  exact ⟨_, rfl, h⟩
theorem meets_beq_obj (b : Array UInt8) (t : Tok) (N : Addr) : Meets (Builtin.«bytes.__eq__» ⟨[.bytes b t, .ref N], []⟩) (fun _ R s => s.heap.get? N = some objO ∧ R (.ok (.ret .notImplemented)) s) := by
  refine .of_wp fun prog w A R s h => ?_
  obtain ⟨hp, g, d, tk, os⟩ := s
  obtain ⟨ho, h⟩ := h
  have t1 : Looks (model prog w) hp (typeOf (.ref N)) (.type "object") := (Looks.ld ho).andThen .now
  have t2 : Looks (model prog w) hp (isInstance (.ref N) (.type "bytes")) false := t1.andThen (Looks.of_pure (by rw [isSubtype_type]; kernel_rfl))
  unfold Builtin.«bytes.__eq__»
  repeat lk
  exact ⟨_, rfl, h⟩
def txS (m : Bool) : String := if m then "bytes" else "str"
theorem meets_oeq_tx (m : Bool) (l : List Nat) (t : Tok) (N : Addr) : Meets (Builtin.«object.__eq__» ⟨[.ref N, txV m l t], []⟩) (fun _ R s => R (.ok (.ret .notImplemented)) s) := by
  refine .of_wp fun prog w A R s h => ?_
  obtain ⟨hp, g, d, tk, os⟩ := s
  cases m with
  | false =>
    unfold Builtin.«object.__eq__»
    repeat lk
    exact ⟨_, rfl, h⟩
  | true =>
    unfold Builtin.«object.__eq__»
    repeat lk
    exact ⟨_, rfl, h⟩
theorem sub_tx_object (m : Bool) : isSubtype (.type (txS m)) (.type "object") = pure true := by cases m <;> (rw [isSubtype_type]; kernel_rfl)
theorem typeIs_tx {m : Bool} {l : List Nat} {t : Tok} (s : Shared) : s.TypeIs (txV m l t) (txS m) := by cases m with
  | false => exact typeIs_str _ _ _
  | true => exact typeIs_bytes _ _ _
/-- the place of the object NULL -/
def vObj (N : Addr) : VP := ⟨fun W h v => v = .ref N ∧ ¬ W N ∧ h.get? N = some objO, fun {W W' h h' v} ⟨e, n, ho⟩ k => ⟨e, (k N _ ho n).1, (k N _ ho n).2⟩⟩
def vOpt (m : Bool) (N : Addr) : Option Nat → VP
  | none => vObj N
  | some k => nmV m k
section
variable {prog : Program} {w : World} {hb : Heap} {n : Nat} {A : Around} {E : Value → Shared → Prop} {s : Shared}
theorem eq_obj_tx {m : Bool} {l : List Nat} {t : Tok} {N : Addr} {Q : Value → Shared → Prop} (hu : A.units < cLine) (ho : s.heap.get? N = some objO) (hq : Q (.bool false) s) : wpAny (model prog w) A (compareOp .Eq (.ref N) (txV m l t)) Q E s := by
  have hN : s.TypeIs (.ref N) "object" := ⟨_, ho, rfl⟩
  have hT : s.TypeIs (txV m l t) (txS m) := typeIs_tx s
  show wpAny _ A (richCompare .Eq _ _) Q E s
  rcases hi : cmpInfo CmpOp.Eq with ⟨sym, f, r⟩
  have hf : f = (cmpInfo .Eq).2.1 := by rw [hi]
  have hr : r = (cmpInfo .Eq).2.2 := by rw [hi]
  simp only [richCompare, hi, hN.oneThing_none]
  refine wpAny_holding (wpAny_bind (wpAny_cRoomFor hu ?_))
  refine wpAny_bind (wpAny_typeOf hN (wpAny_bind (wpAny_typeOf hT ?_)))
  have hne : (Value.type "object" != Value.type (txS m)) = true := by cases m <;> decide
  simp only [hne, if_true]
  refine wpAny_bind (wpAny_of_eq (sub_tx_object m) ?_)
  simp only [if_true]
  refine wpAny_bind (m := tryCompare (txV m l t) _ (.ref N)) ?_
  have fin : wpAny (model prog w) A (tryCompare (.ref N) f (txV m l t)) (fun o s' => o = none ∧ s' = s) E s := by
    rw [hf]
    exact wpAny_tryCompare_declines hN F.slot_object_eq (wpAny_mono (call_meets (Q := fun v s' => v = .notImplemented ∧ s' = s) F.slot_object_eq hN F.entry_object_eq (F.args_object_eq_2 _ _) (meets_oeq_tx m l t N) ⟨rfl, rfl⟩) (fun v s' h => ⟨h.1, rfl, h.2⟩) fun _ _ x => x)
  have go : wpAny (model prog w) A (tryCompare (txV m l t) r (.ref N)) (fun o s' => o = none ∧ s' = s) E s := by
    rw [hr]
    cases m with
    | false => exact wpAny_tryCompare_declines hT F.slot_str_eq (wpAny_mono (call_meets (Q := fun v s' => v = .notImplemented ∧ s' = s) F.slot_str_eq hT F.entry_str_eq (F.args_str_eq_2 _ _) (meets_streq_obj _ t N) ⟨ho, rfl, rfl⟩) (fun v s' h => ⟨h.1, rfl, h.2⟩) fun _ _ x => x)
    | true => exact wpAny_tryCompare_declines hT FB.slot_bytes_eq (wpAny_mono (call_meets (Q := fun v s' => v = .notImplemented ∧ s' = s) FB.slot_bytes_eq hT FB.entry_bytes_eq (FB.args_bytes_eq_2 _ _) (meets_beq_obj _ t N) ⟨ho, rfl, rfl⟩) (fun v s' h => ⟨h.1, rfl, h.2⟩) fun _ _ x => x)
  refine wpAny_mono go (fun o s' ⟨e1, e2⟩ => ?_) fun _ _ x => x
  subst e1 e2
  refine wpAny_bind (wpAny_mono fin (fun o s' ⟨e1, e2⟩ => ?_) fun _ _ x => x)
  subst e1 e2
  refine KFB.if_not rfl ?_
  refine wpAny_bind (wpAny_rule ?_)
  refine wpAny_bind (wpAny_of_eq (a := false) (by cases m <;> rfl) ?_)
  exact wpAny_pure hq
theorem op_eqO {m : Bool} {N : Addr} (x : Option Nat) (b : Nat) : Op2 prog w hb n (compareOp .Eq) (vOpt m N x) (nmV m b) (vBool (decide (x = some b))) := by
  intro W frs A s E v u rm o p q
  cases x with
  | none =>
    obtain ⟨rfl, nN, ho⟩ := p
    obtain ⟨hc, t, rfl⟩ := q
    exact eq_obj_tx (by have := rm.un; omega) ho ⟨.refl _ _, rfl⟩
  | some a =>
    have := op_eq (prog := prog) (w := w) (hb := hb) (n := n) (eqP_nm (m := m) a b) (by omega) W frs A s E v u rm o p q
    rw [show decide (some a = some b) = decide (a = b) by simp]
    exact this
theorem op_isO {m : Bool} {N : Addr} (x : Option Nat) : Op2 prog w hb n (compareOp .Is) (vOpt m N x) (vObj N) (vBool x.isNone) := by
  intro W frs A s E v u rm o p q
  obtain ⟨rfl, nN, ho⟩ := q
  cases x with
  | none =>
    obtain ⟨rfl, _, _⟩ := p
    show wpAny _ _ (isSame (.ref N) (.ref N) >>= fun c => pure (Value.bool c)) _ _ _
    refine wpAny_bind (wpAny_of_eq (a := true) ?_ (wpAny_pure ⟨.refl _ _, rfl⟩))
    unfold isSame
    simp
  | some a =>
    obtain ⟨hc, t, rfl⟩ := p
    show wpAny _ _ (isSame (txV m (sg a) t) (.ref N) >>= fun c => pure (Value.bool c)) _ _ _
    exact wpAny_bind (wpAny_of_eq (a := false) (by cases m <;> rfl) (wpAny_pure ⟨.refl _ _, rfl⟩))
end
end Mine
end

section
open PySem PySem.W PyProof.Rows PySem.Calls
set_option Elab.async false
set_option autoImplicit false
set_option linter.unusedVariables false
set_option maxRecDepth 100000
namespace Mine
section
variable {prog : Program} {w : World} {hb : Heap} {n : Nat} {env : Env} {σ : List (Str × VP)} {B s s' : Shared} {W0 N : Addr → Prop} {fr₀ : List Env} {X Y : HP} {A : Around} {E : Value → Shared → Prop} {mg mb : Str → Option Value}

theorem x_two {x y : Str} {e : Expr} {px py pos : Pos} {P : VP} (i : In hb B W0 N fr₀ env σ X s) (rm : Rm n (env :: fr₀) A) (he : Ev prog w hb n env σ e P) (nx : StoreOk env x) (ny : StoreOk env y)
    (hw : swappedStores [.Name x px, .Name y py] e env = pure none := by rfl) :
    wpAny (model prog w) A (exec (.Assign [.Name x px, .Name y py] e pos) env) (fun f s' => f = .next ∧ In hb B W0 N fr₀ env ((y, P) :: (x, P) :: σ) X s') E s := by
  refine wpAny_Assign_two (wpAny_mono (he _ _ A s E rm i.ok) (fun v s₁ ⟨k₁, p₁⟩ => ?_) fun _ _ x => x) rfl hw
  have i₁ := i.pure k₁
  obtain ⟨μ, f, r⟩ := i₁.ok.nm
  refine wpAny_assign_Name (store_ok i₁.ok nx p₁ fun z h' tk hz hs o' => ?_)
  have i₂ : In hb B W0 N fr₀ env ((x, P) :: σ) X { s₁ with heap := h', toks := tk } := i₁.chg (fun a => a = z) (fun a q => q ▸ i₁.own hz) (fun a o e na => (hs.2 a na).trans e) (fun a d q => (i₁.xd a d).2 (q ▸ hz.own)) o'
  have p₂ : P.ok (fun a => W0 a ∨ N a) h' v := P.st p₁ fun a o e na => ⟨na, (hs.2 a fun q => na (.inr (q ▸ i₁.own hz))).trans e⟩
  exact wpAny_assign_Name (in_store i₂ ny p₂ fun s' i' => ⟨rfl, i'⟩)
theorem x_aug {x : Str} {e : Expr} {px pos : Pos} {a b : Int} (i : In hb B W0 N fr₀ env σ X s) (rm : Rm n (env :: fr₀) A) (hx : σ.lookup x = some (vInt a)) (hl : env.kindOf x = some .local) (he : Ev prog w hb n env σ e (vInt b)) :
    wpAny (model prog w) A (exec (.AugAssign (.Name x px) .Add e pos) env) (fun f s' => f = .next ∧ In hb B W0 N fr₀ env ((x, vInt (a + b)) :: σ) X s') E s := by
  refine wpAny_AugAssign_Name ?_
  obtain ⟨μ, f, r⟩ := i.ok.nm
  obtain ⟨nk, v, e1, t, rfl⟩ := r x _ hx
  obtain ⟨m, hm, hmx⟩ := f.ns
  refine wpAny_loadName_local i.ok.eo.kind hl hm ((hmx x hl).trans e1) ?_
  refine wpAny_mono (he _ _ A s E rm i.ok) (fun u s₁ ⟨k₁, t', e2⟩ => ?_) fun _ _ x => x
  subst e2
  refine PyProof.Rows.iadd_int (in_store ((i.pure k₁).pure (.tok1 _ _ _)) (.inl hl) (P := vInt (a + b)) ⟨_, rfl⟩ fun s' i' => ⟨rfl, i'⟩)

theorem set_plain_list {l : Addr} {items : Array Value} {n₀ : Nat} {k : Int} {t : Tok} {v : Value} {Q : Unit → Shared → Prop} (hl : s.heap.get? l = some { cls := .type "list", data := .seq items n₀ }) (h0 : 0 ≤ k) (hfit : k < 2 ^ 63) (hn : k < items.size)
    (hQ : Q () { s with heap := s.heap.update l (Obj.mapSeq (·.setIfInBounds k.toNat v)) }) : wpAny (model prog w) A (setItem (.ref l) (.int k t) v) Q E s := by
  have hT : s.TypeIs (.ref l) "list" := ⟨_, hl, rfl⟩
  unfold setItem
  refine wpAny_holding ?_
  first | refine wpAny_bind (wpAny_pure ?_) | skip
  refine wpAny_bind (wpAny_sequenceKey hT (by decide) ?_)
  refine wpAny_bind (wpAny_callSpecial?_slot (name := Str.ofString "__setitem__") hT slot_list_setitem
    (wpAny_call_entry slot_list_setitem hT entry_list_setitem ?_ (args_list_setitem _ _ _)))
  show wpAny _ _ (Builtin.List.listSubscript? (.int k t) >>= _) _ _ s
  refine wpAny_bind (wpAny_listSubscript_int (fitsIndex_of h0 hfit) ?_)
  obtain ⟨j, rfl⟩ := Int.eq_ofNat_of_zero_le h0
  have hj : j < items.size := by omega
  have hx' : items[j]? = some items[j] := Array.getElem?_eq_getElem hj
  show wpAny _ _ ((seqItemAt l j >>= fun r => pure (r.map (j, ·))) >>= _) _ _ s
  refine wpAny_bind (wpAny_bind (wpAny_seqItemAt hl rfl (wpAny_pure ?_)))
  rw [hx']
  show wpAny _ _ (setSeqItemAt l j v >>= _) _ _ s
  refine wpAny_bind (wpAny_setSeqItemAt hl rfl ?_)
  first
    | exact wpAny_bind (wpAny_pure (wpAny_pure ⟨.none, rfl, wpAny_pure hQ⟩))
    | exact wpAny_pure ⟨.none, rfl, wpAny_pure hQ⟩
theorem paired_set {α : Type} {F : Value → α → Prop} {vs : List Value} {l : List α} {v : Value} {z : α} (p : Paired F vs l) (h : F v z) : ∀ k, Paired F (vs.set k v) (l.set k z) := by
  induction p with
  | nil => intro k; exact .nil
  | cons h1 r ih => intro k; cases k with
    | zero => exact .cons h r
    | succ k => exact .cons h1 (ih k)
theorem x_setitem {α : Type} {R : α → VP} {D : Addr} {l : List α} {k : Int} {z : α} {x y j : Str} {px py pj ps pos : Pos} (i : In hb B W0 N fr₀ env σ (hAnd Y (hList R D l)) s) (rm : Rm n (env :: fr₀) A) (hx : σ.lookup x = some (vRef D)) (hj : σ.lookup j = some (vInt k)) (hy : σ.lookup y = some (R z)) (h0 : 0 ≤ k) (hk : k < l.length)
    (hd1 : (x == ("__debug__" : Str)) = false := by decide) (hc1 : (x == ("__classdict__" : Str)) = false := by decide) (hd2 : (y == ("__debug__" : Str)) = false := by decide) (hc2 : (y == ("__classdict__" : Str)) = false := by decide) (hd3 : (j == ("__debug__" : Str)) = false := by decide) (hc3 : (j == ("__classdict__" : Str)) = false := by decide) :
    wpAny (model prog w) A (exec (.Assign [.Subscript (.Name x px) (.Name j pj) ps] (.Name y py) pos) env) (fun f s' => f = .next ∧ In hb B W0 N fr₀ env σ (hAnd Y (hList R D (l.set k.toNat z))) s') E s := by
  refine wpAny_Assign_Subscript (name_wp i.ok hy (fun v pv => name_wp i.ok hx (fun u pu => name_wp i.ok hj (fun t pt => ?_) hd3 hc3) hd1 hc1) hd2 hc2)
  obtain rfl : u = .ref D := pu
  obtain ⟨tk, rfl⟩ := pt
  obtain ⟨_, ⟨lm, vs, ⟨ne, ee⟩, pp⟩, _⟩ := i.xo
  have hlen := Paired.length pp
  refine set_plain_list ee h0 (by omega) (by rw [List.size_toArray, hlen]; exact hk) ⟨rfl, ?_⟩
  have hup := PySem.IsL.update (h := s.heap) (l := D) (items := vs.toArray) (n := ne) ee (fun xs => xs.setIfInBounds k.toNat v)
  rw [show vs.toArray.setIfInBounds k.toNat v = (vs.set k.toNat v).toArray by simp] at hup
  exact i.listUpd (R' := R) (l' := l.set k.toNat z) (tk := s.toks) (vs' := vs.set k.toNat v) (fun a o e na => (Heap.get?_update_other _ _ (Ne.symm na)).trans e) ⟨_, hup⟩ (by rw [List.length_set]; exact lm) (paired_set pp pv _)
end
end Mine
end

section
open PySem PySem.W PyProof.Rows PySem.Calls
set_option Elab.async false
set_option autoImplicit false
set_option linter.unusedVariables false
set_option maxRecDepth 100000
namespace Mine
section
variable {prog : Program} {w : World} {hb : Heap} {n : Nat} {env : Env} {σ : List (Str × VP)} {B s s' : Shared} {W0 N : Addr → Prop} {fr₀ : List Env} {X Y : HP} {A : Around} {E : Value → Shared → Prop} {mg mb : Str → Option Value}

/-- the two stores of x, y = .., .. -/
theorem pair_stores {x y : Str} {P Q : VP} {v u : Value} {C : Unit → Shared → Prop} (i : In hb B W0 N fr₀ env σ X s) (nx : StoreOk env x) (ny : StoreOk env y) (pv : P.ok (fun a => W0 a ∨ N a) s.heap v) (pu : Q.ok (fun a => W0 a ∨ N a) s.heap u)
    (hq : ∀ s', In hb B W0 N fr₀ env ((x, P) :: (y, Q) :: σ) X s' → C () s') : wpAny (model prog w) A (assignInOrder ([x, y].reverse.map fun n => bindName env n) [v, u].reverse) C E s := by
  show wpAny (model prog w) A (assignInOrder [bindName env y, bindName env x] [u, v]) C E s
  refine assignInOrder_cons (bindName_ (store_ok i.ok ny pu fun z h' tk hz hs o' => ?_))
  have i₂ : In hb B W0 N fr₀ env ((y, Q) :: σ) X { s with heap := h', toks := tk } := i.chg (fun a => a = z) (fun a q => q ▸ i.own hz) (fun a o e na => (hs.2 a na).trans e) (fun a d q => (i.xd a d).2 (q ▸ hz.own)) o'
  have p₂ : P.ok (fun a => W0 a ∨ N a) h' v := P.st pv fun a o e na => ⟨na, (hs.2 a fun q => na (.inr (q ▸ i.own hz))).trans e⟩
  exact assignInOrder_cons (bindName_ (in_store i₂ nx p₂ fun s' i' => assignInOrder_nil (hq s' i')))

theorem pair_unpack {x y : Str} {P Q : VP} {v u : Value} {C : Flow → Shared → Prop} (i : In hb B W0 N fr₀ env σ X s) (rm : Rm n (env :: fr₀) A) (nx : StoreOk env x) (ny : StoreOk env y) (pv : P.ok (fun a => W0 a ∨ N a) s.heap v) (pu : Q.ok (fun a => W0 a ∨ N a) s.heap u)
    (hq : ∀ s', In hb B W0 N fr₀ env ((x, P) :: (y, Q) :: σ) X s' → C .next s') :
    wpAny (model prog w) A (newTuple [v, u]) (fun t s₁ => wpAny (model prog w) A (unpackItems t [x, y].length none) (fun items s₂ => wpAny (model prog w) A (assignInOrder ([x, y].reverse.map fun n => bindName env n) items.reverse) (fun _ => C .next) E s₂) E s₁) E s := by
  refine wpAny_newTuple ?_ (by simp [sizeLine_eq])
  have k₁ : Kp (frS (env :: fr₀)) s { s with heap := s.heap.push { cls := .type "tuple", data := .seq [v, u].toArray } } := .push1 _ _ _
  refine wpAny_unpackItems_tuple (items := [v, u].toArray) rm.hh ⟨_, Heap.get?_push_size _ rfl, rfl, 0, rfl⟩ fun h' hx => ?_
  have hk : ∀ a o, s.heap.get? a = some o → h'.get? a = some o := fun a o e => hx a o (by
    have := Heap.lt_size e
    show a ≠ (s.heap.push _).objs.size
    rw [Heap.size_push]
    exact Nat.ne_of_lt (Nat.lt_succ_of_lt this)) (Heap.get?_push_of_some _ e)
  have i₂ := i.pure (s' := { s with heap := h' }) (Kp.all' hk)
  exact pair_stores i₂ nx ny (VP.kp' pv i.ok.toSt (Kp.all' hk)) (VP.kp' pu i.ok.toSt (Kp.all' hk)) hq

theorem x_pairW {x y : Str} {e1 e2 : Expr} {px py p1 p2 pos : Pos} {k1 k2 : Nat} {P Q : VP} (i : In hb B W0 N fr₀ env σ X s) (rm : Rm n (env :: fr₀) A) (nx : StoreOk env x) (ny : StoreOk env y)
    (h1 : ∀ s (E : Value → Shared → Prop), In hb B W0 N fr₀ env σ X s → wpAny (model prog w) A (eval e1 env) (fun v s' => Kp (frS (env :: fr₀)) s s' ∧ P.ok (fun a => W0 a ∨ N a) s'.heap v) E s)
    (h2 : ∀ s (E : Value → Shared → Prop), In hb B W0 N fr₀ env σ X s → wpAny (model prog w) A (eval e2 env) (fun v s' => Kp (frS (env :: fr₀)) s s' ∧ Q.ok (fun a => W0 a ∨ N a) s'.heap v) E s)
    (hs : swapsWithSole [.Tuple [.Name x px, .Name y py] k1 p1] (.Tuple [e1, e2] k2 p2) pos.line env = pure false := by rfl)
    (hw : swappedStores [.Tuple [.Name x px, .Name y py] k1 p1] (.Tuple [e1, e2] k2 p2) env = pure (some [x, y]) := by rfl)
    (he1 : starEach [e1, e2] env = (false, eval e1 env) :: starEach [e2] env := by rfl) (he2 : starEach [e2] env = (false, eval e2 env) :: starEach [] env := by rfl) :
    wpAny (model prog w) A (exec (.Assign [.Tuple [.Name x px, .Name y py] k1 p1] (.Tuple [e1, e2] k2 p2) pos) env) (fun f s' => f = .next ∧ In hb B W0 N fr₀ env ((x, P) :: (y, Q) :: σ) X s') E s := by
  refine Assign_Tuple_swapped ?_ hs hw
  refine PyProof.Rows.Tuple_ (args_cons (wpAny_mono (h1 s E i) (fun v s₁ ⟨k₁, pv⟩ => args_cons (wpAny_mono (h2 s₁ E (i.pure k₁)) (fun u s₂ ⟨k₂, pu⟩ => args_nil ?_) fun _ _ x => x) he2) fun _ _ x => x) he1)
  have i₂ := (i.pure k₁).pure k₂
  exact pair_unpack (C := fun f s' => f = .next ∧ In hb B W0 N fr₀ env ((x, P) :: (y, Q) :: σ) X s') i₂ rm nx ny (VP.kp' pv (i.pure k₁).ok.toSt k₂) pu fun s' i' => ⟨rfl, i'⟩

/-- a new written list, not yet named -/
theorem In.ownN {α : Type} {R : α → VP} {l : List α} {s₂ : Shared} {D : Addr} {vs : List Value} (i : In hb B W0 N fr₀ env σ Y s) (k : Kp (frS (env :: fr₀)) s s₂) (k' : Kp (frS (env :: fr₀)) s₂ s') (hD₂ : s₂.heap.get? D = none) (lm : l.length ≤ 1000) (pl : s'.heap.PlainList D (List.toArray vs))
    (pp : Paired (fun v x => (R x).ok (fun a => W0 a ∨ N a) s₂.heap v) vs l) : In hb B W0 (fun a => N a ∨ a = D) fr₀ env σ (hAnd Y (hList R D l)) s' := by
  have hD : s.heap.get? D = none := by
    cases q : s.heap.get? D with
    | none => rfl
    | some ob =>
      obtain ⟨_, sl, q2⟩ := k.same _ ob q
      rw [hD₂] at q2; cases q2
  have hDo : ∃ ob, s'.heap.get? D = some ob := by obtain ⟨_, e⟩ := pl; exact ⟨_, e⟩
  have nND : ¬ (W0 D ∨ N D) := fun q => by obtain ⟨o, e⟩ := i.ok.wd D q; rw [hD] at e; cases e
  have i₁ := i.grow (Z := fun a => a = D) (k.trans k') (by rintro a rfl; exact ⟨hD, hDo⟩)
  have hl₁ : (hList R D l).ok (fun a => W0 a ∨ N a ∨ a = D) s'.heap := by
    refine ⟨lm, vs, pl, Paired.mono pp fun _ z q => (R z).st q fun a o e na => ⟨?_, k'.get e fun m => na (i.ok.wf a m)⟩⟩
    rintro (h | h | h)
    · exact na (.inl h)
    · exact na (.inr h)
    · rw [h, hD₂] at e; cases e
  exact { i₁ with
      xo := ⟨i₁.xo, hl₁, fun a d q => nND (by have : a = D := q; subst this; exact .inr (i.xd _ d).1)⟩
      xd := fun a d => d.elim (i₁.xd a) fun q => by
        have : a = D := q
        subst this
        exact ⟨.inr rfl, fun q => nND (.inr (q.elim (fun q => q ▸ i.nl) fun ⟨y, e⟩ => i.nc y _ e))⟩ }

theorem x_own2 {α : Type} {R : α → VP} {l m : List α} {x y : Str} {e1 e2 : Expr} {px py p1 p2 pos : Pos} {k1 k2 : Nat} (i : In hb B W0 N fr₀ env σ Y s) (rm : Rm n (env :: fr₀) A) (nx : StoreOk env x) (ny : StoreOk env y)
    (h1 : EvN prog w hb n env σ e1 R l) (h2 : EvN prog w hb n env σ e2 R m)
    (hs : swapsWithSole [.Tuple [.Name x px, .Name y py] k1 p1] (.Tuple [e1, e2] k2 p2) pos.line env = pure false := by rfl)
    (hw : swappedStores [.Tuple [.Name x px, .Name y py] k1 p1] (.Tuple [e1, e2] k2 p2) env = pure (some [x, y]) := by rfl)
    (he1 : starEach [e1, e2] env = (false, eval e1 env) :: starEach [e2] env := by rfl) (he2 : starEach [e2] env = (false, eval e2 env) :: starEach [] env := by rfl) :
    wpAny (model prog w) A (exec (.Assign [.Tuple [.Name x px, .Name y py] k1 p1] (.Tuple [e1, e2] k2 p2) pos) env)
      (fun f s' => f = .next ∧ ∃ D₁ D₂, In hb B W0 (fun a => (N a ∨ a = D₁) ∨ a = D₂) fr₀ env ((x, vRef D₁) :: (y, vRef D₂) :: σ) (hAnd (hAnd Y (hList R D₁ l)) (hList R D₂ m)) s') E s := by
  refine Assign_Tuple_swapped ?_ hs hw
  refine PyProof.Rows.Tuple_ (args_cons (wpAny_mono (h1 _ _ A s E rm i.ok) (fun v s₁ hv => ?_) fun _ _ x => x) he1)
  obtain ⟨D₁, sa, vs, rfl, ka, ka', hDa, lma, pla, ppa⟩ := hv
  have i₁ := i.ownN ka ka' hDa lma pla ppa
  refine args_cons (wpAny_mono (h2 _ _ A s₁ E rm i₁.ok) (fun u s₂ hu => args_nil ?_) fun _ _ x => x) he2
  obtain ⟨D₂, sb, us, rfl, kb, kb', hDb, lmb, plb, ppb⟩ := hu
  have i₂ := i₁.ownN kb kb' hDb lmb plb ppb
  exact pair_unpack (P := vRef D₁) (Q := vRef D₂) (C := fun f s' => f = .next ∧ ∃ D₁ D₂, In hb B W0 (fun a => (N a ∨ a = D₁) ∨ a = D₂) fr₀ env ((x, vRef D₁) :: (y, vRef D₂) :: σ) (hAnd (hAnd Y (hList R D₁ l)) (hList R D₂ m)) s') i₂ rm nx ny rfl rfl fun s' i' => ⟨rfl, D₁, D₂, i'⟩

theorem x_objnew {x : Str} {f : Expr} {px pc pos : Pos} (i : In hb B W0 N fr₀ env σ X s) (rm : Rm n (env :: fr₀) A) (hf : Ev prog w hb n env σ f (vIs (.type "object"))) (nx : StoreOk env x)
    (he : eval (.Call f [] [] pc) env = (do callWith pc (← eval f env) [] (backTo pc (starEach [] env)) (backToKw pc (keywordEach [] env))) := by rfl) (hsw : swapsWith (.Call f [] [] pc) (some (.Name x px)) pos.line env = pure false := by rfl) :
    wpAny (model prog w) A (exec (.Assign [.Name x px] (.Call f [] [] pc) pos) env) (fun fl s' => fl = .next ∧ ∃ O, In hb B W0 N fr₀ env ((x, vObj O) :: σ) X s') E s := by
  refine wpAny_Assign_Name (PyProof.Rows.Call_ (wpAny_mono (hf _ _ A s E rm i.ok) (fun v s₁ ⟨k₁, p₁⟩ => ?_) fun _ _ x => x) he) hsw
  obtain rfl : v = .type "object" := p₁
  refine callWith_type0 (call_object0 ?_)
  have i₁ := i.pure k₁
  have k₂ : Kp (frS (env :: fr₀)) s₁ { s₁ with heap := s₁.heap.push objO } := .push1 _ _ _
  exact in_store (i₁.pure k₂) nx (P := vObj s₁.heap.objs.size) ⟨rfl, i₁.ok.toSt.fresh, Heap.get?_push_size _ rfl⟩ fun s' i' => ⟨rfl, _, i'⟩
end
end Mine
end

section
open PySem PySem.W PyProof.Rows PySem.Calls
set_option Elab.async false
set_option autoImplicit false
set_option linter.unusedVariables false
set_option maxRecDepth 100000
namespace Mine
/-- an enumeration of a list that may be written, behind k turns -/
def hEnum (e it D : Addr) (k : Nat) : HP :=
  ⟨fun W h => (∃ old, IsEnum h e it k old) ∧ h.IsListIter it D k, fun a => a = e ∨ a = it,
   fun {W W' h h'} ⟨⟨old, x⟩, o, ho, r⟩ k kd => ⟨⟨old, kd e _ (.inl rfl) x⟩, o, kd it _ (.inr rfl) ho, r⟩⟩
section
variable {prog : Program} {w : World} {hb : Heap} {n : Nat} {env : Env} {σ : List (Str × VP)} {B s s' : Shared} {W0 N : Addr → Prop} {fr₀ : List Env} {X Y : HP} {A : Around} {E : Value → Shared → Prop} {mg mb : Str → Option Value}
theorem x_forEnum {xi xv x : Str} {pi pv pt pf px pc pos : Pos} {k1 : Nat} {body : List Stmt} {Q : Flow → Shared → Prop} {D : Addr} (len : Nat) (σi : Nat → List (Str × VP)) (Xi : Nat → HP) (Pi : Nat → VP)
    (i : In hb B W0 N fr₀ env σ X s) (rm : Rm n (env :: fr₀) A) (hf : Ev prog w hb n env σ (.Name "enumerate" pf) (vIs (.type "enumerate"))) (hx : σ.lookup x = some (vRef D))
    (hD : ∀ k W h, (Xi k).ok W h → ∃ vs, h.PlainList D (List.toArray vs) ∧ vs.length = len ∧ ∀ v, vs[k]? = some v → (Pi k).ok W h v)
    (h0 : ∀ s', In hb B W0 N fr₀ env σ X s' → In hb B W0 N fr₀ env (σi 0) (Xi 0) s') (hXN : ∀ k a, (Xi k).ds a → N a) (nx : StoreOk env xi) (ny : StoreOk env xv)
    (turn : ∀ N' Y k s' (E' : Value → Shared → Prop), (∀ a, N a → N' a) → k < len → In hb B W0 N' fr₀ env ((xv, Pi k) :: (xi, vInt k) :: σi k) (hAnd Y (Xi k)) s' → wpAny (model prog w) A (execs body env) (fun f s'' => match f with
      | .next | .cont => In hb B W0 N' fr₀ env (σi (k + 1)) (hAnd Y (Xi (k + 1))) s''
      | .brk => Q .next s''
      | .ret v => Q (.ret v) s'') E' s')
    (fin : ∀ s', In hb B W0 N fr₀ env (σi len) (Xi len) s' → Q .next s')
    (hs : ∀ z, foldedSetIterable (.Call (.Name "enumerate" pf) [.Name x px] [] pc) env z = pure z := by intro _; rfl) (hd : (x == ("__debug__" : Str)) = false := by decide) (hc : (x == ("__classdict__" : Str)) = false := by decide)
    (he : eval (.Call (.Name "enumerate" pf) [.Name x px] [] pc) env = (do callWith pc (← eval (.Name "enumerate" pf) env) [] (backTo pc (starEach [.Name x px] env)) (backToKw pc (keywordEach [] env))) := by rfl)
    (hst : starEach [.Name x px] env = [(false, eval (.Name x px) env)] := by rfl) :
    wpAny (model prog w) A (exec (.For (.Tuple [.Name xi pi, .Name xv pv] k1 pt) (.Call (.Name "enumerate" pf) [.Name x px] [] pc) body [] pos) env) Q E s := by
  refine wpAny_For (PyProof.Rows.Call_ (wpAny_mono (hf _ _ A s E rm i.ok) (fun v s₁ ⟨k₁, p₁⟩ => ?_) fun _ _ x => x) he) hs
  obtain rfl : v = .type "enumerate" := p₁
  refine PyProof.Rows.callWith_type1 (args_cons (name_wp (i.pure k₁).ok hx (fun v p => args_nil ?_) hd hc) hst) hst rfl
  obtain rfl : v = .ref D := p
  have i₁ := h0 _ (i.pure k₁)
  obtain ⟨vs₀, pl₀, _, _⟩ := hD 0 _ _ i₁.xo
  refine call_enumerate_list pl₀.isList fun h' hen hit hz hk => ?_
  refine wpAny_pyIter_enum (s := { s₁ with heap := h' }) hen ?_
  have hit0 : s₁.heap.get? s₁.heap.objs.size = none := by
    cases q : s₁.heap.get? s₁.heap.objs.size with
    | none => rfl
    | some ob => exact absurd (Heap.lt_size q) (Nat.lt_irrefl _)
  have he0 : s₁.heap.get? (s₁.heap.objs.size + 1) = none := by
    cases q : s₁.heap.get? (s₁.heap.objs.size + 1) with
    | none => rfl
    | some ob => exact absurd (Heap.lt_size q) (Nat.not_lt.mpr (Nat.le_succ _))
  have hei : s₁.heap.objs.size + 1 ≠ s₁.heap.objs.size := Nat.succ_ne_self _
  generalize s₁.heap.objs.size + 1 = e at *
  generalize s₁.heap.objs.size = it at *
  have nWe : ¬ (W0 e ∨ N e) := fun q => by obtain ⟨o, z⟩ := i₁.ok.wd e q; rw [he0] at z; cases z
  have nWi : ¬ (W0 it ∨ N it) := fun q => by obtain ⟨o, z⟩ := i₁.ok.wd it q; rw [hit0] at z; cases z
  have exE : ∀ a, (a = e ∨ a = it) → s₁.heap.get? a = none ∧ ∃ ob, h'.get? a = some ob := by
    rintro a (rfl | rfl)
    · exact ⟨he0, _, hen⟩
    · obtain ⟨o, z, _⟩ := hit; exact ⟨hit0, o, z⟩
  have nWZ : ∀ a, (a = e ∨ a = it) → ¬ (W0 a ∨ N a) := by rintro a (rfl | rfl) <;> assumption
  have i₂ := i₁.grow (Z := fun a => a = e ∨ a = it) (s' := { s₁ with heap := h' }) (Kp.all' hk) exE
  have nOwn : ∀ a, (a = e ∨ a = it) → ¬ Own env a := fun a ha q => nWZ a ha (.inr (q.elim (fun q => q ▸ i.nl) fun ⟨y, z⟩ => i.nc y a z))
  have nfr : ∀ a, (a = e ∨ a = it) → a ∉ frS (env :: fr₀) := fun a ha m => nWZ a ha (i.ok.wf a m)
  have hND : ∀ k a, (Xi k).ds a → ¬ (a = e ∨ a = it) := fun k a d q => nWZ a q (.inr (hXN k a d))
  have key : codeAny (model prog w) A (.forLoop (.Tuple [.Name xi pi, .Name xv pv] k1 pt) (.ref e) body [] env) (fun r s' => match r with | .ok f => Q f s' | .error ee => cameBackBy (model prog w) A env E ee s') { s₁ with heap := h' } := by
    refine codeAny_loop' rfl (fun m s' => ∃ k, k ≤ len ∧ m = len - k ∧ In hb B W0 (fun a => N a ∨ (a = e ∨ a = it)) fr₀ env (σi k) (hAnd (hEnum e it D k) (Xi k)) s') (fun m s' hI => ?_) len ⟨0, Nat.zero_le _, by lia, ?_⟩
    · obtain ⟨k, hk1, rfl, ik⟩ := hI
      show wpAny _ _ ((forTurn (.Tuple [.Name xi pi, .Name xv pv] k1 pt) (.ref e) body [] env).onRaise (fun x => do noteFrame x env; theTreesLotGoes x)) _ _ s'
      refine wpAny_noted ?_
      simp only [forTurn]
      refine wpAny_bind (wpAny_standAt (wpAny_bind (wpAny_onRaise ?_)))
      obtain ⟨⟨⟨old, hen'⟩, hit'⟩, hXk, hdis⟩ := ik.xo
      obtain ⟨vs, pl, hvl, hvk⟩ := hD k _ _ hXk
      by_cases hlt : k < len
      · have hvx : vs.toArray[k]? = some (vs[k]'(by lia)) := by simp [hvl, hlt]
        refine wpAny_pyNext_enum_item hen' hit' pl.isList hvx hei fun h₁ heo hit₁ ht₁ hz₁ hk₁ => ?_
        refine wpAny_bind (wpAny_letOwnedTupleGo_enum (s := { s' with heap := h₁, toks := s'.toks + 1 }) heo fun h₂ he₂ hs₂ => ?_)
        have hkk : ∀ a ob, s'.heap.get? a = some ob → ¬ (a = e ∨ a = it) → h₂.get? a = some ob := fun a ob z na => (hs₂.2 a fun q => na (.inl q)).trans (hk₁ a ob (fun q => na (.inl q)) (fun q => na (.inr q)) z)
        have heT : e ≠ s'.heap.objs.size := Nat.ne_of_lt (Heap.lt_size hen')
        have hT : h₂.get? s'.heap.objs.size = some { cls := .type "tuple", data := .seq #[.int k s'.toks, vs[k]'(by lia)] } := (hs₂.2 _ heT.symm).trans ht₁
        have exZ : ∀ a, (a = e ∨ a = it) → ∃ ob, h₂.get? a = some ob := by
          rintro a (rfl | rfl)
          · exact ⟨_, he₂⟩
          · obtain ⟨o, z, _⟩ := hit₁; exact ⟨o, (hs₂.2 _ hei.symm).trans z⟩
        have oi : Ok hb (fun a => W0 a ∨ (N a ∨ (a = e ∨ a = it))) (env :: fr₀) env (σi k) { s' with heap := h₂, toks := s'.toks + 1 } :=
          ik.ok.upd (fun a => a = e ∨ a = it) (fun a ob z na => hkk a ob z na) (fun z hz => ⟨.inr (.inr hz), nfr z hz, nOwn z hz, exZ z hz⟩)
        have iX : In hb B W0 (fun a => N a ∨ (a = e ∨ a = it)) fr₀ env (σi k) (Xi k) s' := ik.forget (fun _ _ q => q.2.1) fun a d => .inr d
        have iX2 := iX.chg (σ' := σi k) (tk := s'.toks + 1) (fun a => a = e ∨ a = it) (fun a q => .inr q) (fun a ob z na => hkk a ob z na) (fun a d q => hND k a d q) oi
        have hE2 : (hEnum e it D (k + 1)).ok (fun a => W0 a ∨ (N a ∨ (a = e ∨ a = it))) h₂ := ⟨⟨_, by have := he₂; rwa [show ((k : Int) + 1) = ((k + 1 : Nat) : Int) by push_cast; rfl] at this⟩, by obtain ⟨o, z, r⟩ := hit₁; exact ⟨o, (hs₂.2 _ hei.symm).trans z, r⟩⟩
        have i₃ : In hb B W0 (fun a => N a ∨ (a = e ∨ a = it)) fr₀ env (σi k) (hAnd (hEnum e it D (k + 1)) (Xi k)) { s' with heap := h₂, toks := s'.toks + 1 } :=
          { iX2 with xo := ⟨hE2, iX2.xo, fun a q d => hND k a d q⟩, xd := fun a d => d.elim (fun q => ⟨.inr q, nOwn a q⟩) (iX2.xd a) }
        have hv := hvk _ (List.getElem?_eq_getElem (by lia))
        have pv2 : (Pi k).ok (fun a => W0 a ∨ (N a ∨ (a = e ∨ a = it))) h₂ (vs[k]'(by lia)) := (Pi k).st hv fun a ob z na => ⟨na, hkk a ob z fun q => na (.inr (.inr q))⟩
        have nT : ¬ (W0 s'.heap.objs.size ∨ (N s'.heap.objs.size ∨ (s'.heap.objs.size = e ∨ s'.heap.objs.size = it))) := fun q => by
          obtain ⟨o, z⟩ := ik.ok.wd _ q
          exact absurd (Heap.lt_size z) (Nat.lt_irrefl _)
        have pT : (vTup [vInt k, Pi k]).ok (fun a => W0 a ∨ (N a ∨ (a = e ∨ a = it))) h₂ (.ref s'.heap.objs.size) :=
          ⟨_, [.int k s'.toks, vs[k]'(by lia)], rfl, nT, ⟨_, hT, rfl, 0, rfl⟩, .cons ⟨_, rfl⟩ (.cons pv2 .nil)⟩
        refine wpAny_bind (in_asg i₃ rm (asg_tup2 nx ny) pT fun s₃ i₄ => wpAny_bind (wpAny_mono (turn _ _ k s₃ _ (fun a h => .inl h) hlt i₄) (fun f s₄ h₄ => ?_) fun _ _ x => x))
        cases f with
        | next => exact wpAny_pure (.inl ⟨rfl, len - (k + 1), by lia, k + 1, hlt, rfl, h₄⟩)
        | cont => exact wpAny_pure (.inl ⟨rfl, len - (k + 1), by lia, k + 1, hlt, rfl, h₄⟩)
        | brk => exact wpAny_pure h₄
        | ret v => exact wpAny_pure h₄
      · have hkl : k = len := by lia
        subst hkl
        refine wpAny_pyNext_enum_end rm.hh hen' hit' pl.isList (by simp [hvl]) fun h₁ hk₁ => wpAny_pure (.inr ⟨rfl, codeAny_block (wpAny_execs_nil ?_)⟩)
        refine fin _ ?_
        have iX : In hb B W0 (fun a => N a ∨ (a = e ∨ a = it)) fr₀ env (σi k) (Xi k) s' := ik.forget (fun _ _ q => q.2.1) fun a d => .inr d
        exact iX.drop (tk := s'.toks) (fun z hz => nWZ z hz) (fun a ob z na => hk₁ a ob (fun q => na (.inr q)) z) i₁.nl i₁.nc (hXN _)
    · exact { i₂ with xo := ⟨⟨⟨_, hen⟩, hit⟩, i₂.xo, fun a q d => hND 0 a d q⟩, xd := fun a d => d.elim (fun q => ⟨.inr q, nOwn a q⟩) (i₂.xd a) }
  exact key
end
end Mine
end

section
open PySem PySem.W PyProof.Rows PySem.Calls
set_option Elab.async false
set_option autoImplicit false
set_option linter.unusedVariables false
set_option maxRecDepth 100000
namespace Mine
noncomputable def f152 (w : World) : DefOf w 152 := ⟨(_, _), rfl, rfl⟩
/-! ## counting, in plain -/
def nst (e : Nat) (st : Int × List (Option Nat)) (j : Nat) : Int × List (Option Nat) := if st.2.getD j none = some e then (st.1 + 1, st.2.set j none) else st
def nfold (e a b : Nat) (ls : List (Option Nat)) : Int × List (Option Nat) := (List.range' a b).foldl (nst e) (0, ls)
abbrev CdSt := List (Option Nat) × List (Option Nat) × List (Int × Int × Nat)
def cds (st : CdSt) (i : Nat) : CdSt :=
  match st.1.getD i none with
  | none => st
  | some e => ((nfold e i (st.1.length - i) st.1).2, (nfold e 0 st.2.1.length st.2.1).2,
      if (nfold e i (st.1.length - i) st.1).1 = (nfold e 0 st.2.1.length st.2.1).1 then st.2.2 else st.2.2 ++ [((nfold e i (st.1.length - i) st.1).1, (nfold e 0 st.2.1.length st.2.1).1, e)])
def cdAt (l t : List Nat) (k : Nat) : CdSt := (List.range k).foldl cds (l.map some, t.map some, [])
theorem cdAt_succ (l t : List Nat) (k : Nat) : cdAt l t (k + 1) = cds (cdAt l t k) k := by
  unfold cdAt; rw [List.range_succ, List.foldl_append]; rfl
theorem nst_len (e : Nat) (st : Int × List (Option Nat)) (j : Nat) : (nst e st j).2.length = st.2.length := by
  unfold nst; split <;> simp
theorem nfold_len (e a b : Nat) (ls : List (Option Nat)) : (nfold e a b ls).2.length = ls.length := by
  unfold nfold
  induction b with
  | zero => rfl
  | succ b ih => rw [List.range'_concat, List.foldl_append]; show (nst e _ _).2.length = _; rw [nst_len, ih]
theorem nfold_succ (e a b : Nat) (ls : List (Option Nat)) : nfold e a (b + 1) ls = nst e (nfold e a b ls) (a + b) := by
  unfold nfold; rw [List.range'_concat, List.foldl_append]; simp
theorem cds_len (st : CdSt) (i : Nat) : (cds st i).1.length = st.1.length ∧ (cds st i).2.1.length = st.2.1.length ∧ (cds st i).2.2.length ≤ st.2.2.length + 1 := by
  unfold cds
  split
  · exact ⟨rfl, rfl, Nat.le_succ _⟩
  · refine ⟨nfold_len .., nfold_len .., ?_⟩
    dsimp only
    split <;> simp
theorem cdAt_len (l t : List Nat) (k : Nat) : (cdAt l t k).1.length = l.length ∧ (cdAt l t k).2.1.length = t.length ∧ (cdAt l t k).2.2.length ≤ k := by
  induction k with
  | zero => simp [cdAt]
  | succ k ih =>
    rw [cdAt_succ]
    obtain ⟨a, b, c⟩ := cds_len (cdAt l t k) k
    exact ⟨a.trans ih.1, b.trans ih.2.1, by have := ih.2.2; lia⟩
/-- what is told of a name -/
def vTold (m : Bool) (x : Int × Int × Nat) : VP := vRec [vInt x.1, vInt x.2.1, nmV m x.2.2]
section
variable {prog : Program} {w : World} {hb : Heap} {n : Nat} {env : Env} {σ : List (Str × VP)} {B s s' : Shared} {W0 N : Addr → Prop} {fr₀ : List Env} {X Y P Q S : HP}
theorem In.asc (i : In hb B W0 N fr₀ env σ (hAnd Y (hAnd P Q)) s) : In hb B W0 N fr₀ env σ (hAnd (hAnd Y P) Q) s :=
  { i with
    xo := ⟨⟨i.xo.1, i.xo.2.1.1, fun a d q => i.xo.2.2 a d (.inl q)⟩, i.xo.2.1.2.1, fun a d q => d.elim (fun d => i.xo.2.2 a d (.inr q)) fun d => i.xo.2.1.2.2 a d q⟩
    xd := fun a d => i.xd a (d.elim (fun d => d.elim .inl fun d => .inr (.inl d)) fun d => .inr (.inr d)) }
theorem In.asc' (i : In hb B W0 N fr₀ env σ (hAnd (hAnd Y P) Q) s) : In hb B W0 N fr₀ env σ (hAnd Y (hAnd P Q)) s :=
  { i with
    xo := ⟨i.xo.1.1, ⟨i.xo.1.2.1, i.xo.2.1, fun a d q => i.xo.2.2 a (.inr d) q⟩, fun a d q => q.elim (fun q => i.xo.1.2.2 a d q) fun q => i.xo.2.2 a (.inl d) q⟩
    xd := fun a d => i.xd a (d.elim (fun d => .inl (.inl d)) fun d => d.elim (fun d => .inl (.inr d)) .inr) }
theorem In.asc3 (i : In hb B W0 N fr₀ env σ (hAnd Y (hAnd (hAnd P Q) S)) s) : In hb B W0 N fr₀ env σ (hAnd (hAnd (hAnd Y P) Q) S) s :=
  { i with
    xo := ⟨⟨⟨i.xo.1, i.xo.2.1.1.1, fun a d q => i.xo.2.2 a d (.inl (.inl q))⟩, i.xo.2.1.1.2.1, fun a d q => d.elim (fun d => i.xo.2.2 a d (.inl (.inr q))) fun d => i.xo.2.1.1.2.2 a d q⟩, i.xo.2.1.2.1,
      fun a d q => d.elim (fun d => d.elim (fun d => i.xo.2.2 a d (.inr q)) fun d => i.xo.2.1.2.2 a (.inl d) q) fun d => i.xo.2.1.2.2 a (.inr d) q⟩
    xd := fun a d => i.xd a (d.elim (fun d => d.elim (fun d => d.elim .inl fun d => .inr (.inl (.inl d))) fun d => .inr (.inl (.inr d))) fun d => .inr (.inr d)) }
theorem In.asc3' (i : In hb B W0 N fr₀ env σ (hAnd (hAnd (hAnd Y P) Q) S) s) : In hb B W0 N fr₀ env σ (hAnd Y (hAnd (hAnd P Q) S)) s :=
  { i with
    xo := ⟨i.xo.1.1.1, ⟨⟨i.xo.1.1.2.1, i.xo.1.2.1, fun a d q => i.xo.1.2.2 a (.inr d) q⟩, i.xo.2.1, fun a d q => i.xo.2.2 a (d.elim (fun d => .inl (.inr d)) .inr) q⟩,
      fun a d q => q.elim (fun q => q.elim (fun q => i.xo.1.1.2.2 a d q) fun q => i.xo.1.2.2 a (.inl d) q) fun q => i.xo.2.2 a (.inl (.inl d)) q⟩
    xd := fun a d => i.xd a (d.elim (fun d => .inl (.inl (.inl d))) fun d => d.elim (fun d => d.elim (fun d => .inl (.inl (.inr d))) fun d => .inl (.inr d)) .inr) }
theorem hOpt {m : Bool} {O D : Addr} {l : List Nat} (W : Addr → Prop) (h : Heap) (x : (hList (nmV m) D l).ok W h) : (hList (vOpt m O) D (l.map some)).ok W h := by
  obtain ⟨lm, vs, pl, pp⟩ := x
  refine ⟨by rw [List.length_map]; exact lm, vs, pl, ?_⟩
  clear pl
  induction pp with
  | nil => exact .nil
  | cons h r ih => exact .cons h (ih (by simp at lm; lia))
theorem x_pairR {α : Type} {R : α → VP} {l m : List α} {D₁ D₂ : Addr} {A : Around} {E : Value → Shared → Prop} {x y : Str} (xa xb : Str) {e1 e2 : Expr} {px py p1 p2 pos : Pos} {k1 k2 : Nat} {a b : Int} (i : In hb B W0 N fr₀ env σ (hAnd (hAnd Y (hList R D₁ l)) (hList R D₂ m)) s) (rm : Rm n (env :: fr₀) A) (nx : StoreOk env x) (ny : StoreOk env y)
    (hxa : σ.lookup xa = some (vRef D₁)) (hxb : σ.lookup xb = some (vRef D₂)) (h1 : Ev prog w hb n env ((xa, vList R l) :: σ) e1 (vInt a)) (h2 : Ev prog w hb n env ((xb, vList R m) :: σ) e2 (vInt b))
    (hs : swapsWithSole [.Tuple [.Name x px, .Name y py] k1 p1] (.Tuple [e1, e2] k2 p2) pos.line env = pure false := by rfl)
    (hw : swappedStores [.Tuple [.Name x px, .Name y py] k1 p1] (.Tuple [e1, e2] k2 p2) env = pure (some [x, y]) := by rfl)
    (he1 : starEach [e1, e2] env = (false, eval e1 env) :: starEach [e2] env := by rfl) (he2 : starEach [e2] env = (false, eval e2 env) :: starEach [] env := by rfl) :
    wpAny (model prog w) A (exec (.Assign [.Tuple [.Name x px, .Name y py] k1 p1] (.Tuple [e1, e2] k2 p2) pos) env) (fun f s' => f = .next ∧ In hb B W0 N fr₀ env ((x, vInt a) :: (y, vInt b) :: σ) (hAnd (hAnd Y (hList R D₁ l)) (hList R D₂ m)) s') E s :=
  x_pairW i rm nx ny (fun s E i => wpAny_mono (h1 _ _ A s E rm (i.rot.read hxa)) (fun v s' h => h) fun _ _ x => x) (fun s E i => wpAny_mono (h2 _ _ A s E rm (i.read hxb)) (fun v s' h => h) fun _ _ x => x) hs hw he1 he2
end
end Mine
end

section
open PySem PySem.W PyProof.Rows PySem.Calls
set_option Elab.async false
set_option autoImplicit false
set_option linter.unusedVariables false
set_option maxRecDepth 100000
namespace Mine
section
variable {prog : Program} {w : World} {hb : Heap} {n : Nat} {mg mb : Str → Option Value}
theorem fn_cd (G : Gd w hb mg mb) : FnAt hb 152 (f152 w).1.1 (f152 w).1.2 := fnAt G (f152 w) rfl rfl rfl rfl rfl rfl rfl
abbrev cdX (m : Bool) (O S T R : Addr) (st : CdSt) : HP := hAnd (hAnd (hList (vOpt m O) S st.1) (hList (vOpt m O) T st.2.1)) (hList (vTold m) R st.2.2)
theorem cdGet {m : Bool} {O D : Addr} {ls : List (Option Nat)} {len : Nat} (hlen : ls.length = len) (k : Nat) {W : Addr → Prop} {h : Heap} (x : (hList (vOpt m O) D ls).ok W h) : ∃ vs, h.PlainList D (List.toArray vs) ∧ vs.length = len ∧ ∀ v, vs[k]? = some v → (vOpt m O (ls.getD k none)).ok W h v := by
  obtain ⟨lm, vs, pl, pp⟩ := x
  refine ⟨vs, pl, (Paired.length pp).trans hlen, fun v hv => ?_⟩
  obtain ⟨x, e, q⟩ := Paired.get' pp hv
  rw [show ls.getD k none = x by simp [e]]
  exact q

theorem cl_cd (G : Gd w hb mg mb) {m : Bool} (l t : List Nat) (hT : ∀ k, (cdAt l t l.length).2.1.getD k none = none) :
    Cl prog w hb (n + 3) (.ref 152) [vList (nmV m) l, vList (nmV m) t] (vList (vTold m) (cdAt l t l.length).2.2) := by
  intro W frs A s E vs rm st hp
  cases hp with
  | cons h1 hp =>
  cases hp with
  | cons h2 hp =>
  cases hp
  rename_i v u
  have lml : l.length ≤ 1000 := h1.1
  have lmt : t.length ≤ 1000 := h2.1
  refine wpAny_call (fn_enter G (fn_cd G) (binds := [("actual", v), ("expected", u)]) (Ps := [vList (nmV m) l, vList (nmV m) t]) rm st (BindsTo.of_eq rfl) (.cons h1 (.cons h2 .nil)) (show (["actual", "expected"] : List Str).Nodup by decide) rfl fun s₁ i₁ => ?_)
  have rm' := rm_deeper (env := fE (f152 w).1.1 s.heap.objs.size 152) rm
  refine seq_next (x_doc i₁) fun s₁' i₁ => ?_
  refine seq_next (x_own2 (R := nmV m) (l := l) (m := t) i₁ rm' (.inl rfl) (.inl rfl) (evN_list (ev_blt G rfl rfl (by decide) rfl) (ev_name rfl)) (evN_list (ev_blt G rfl rfl (by decide) rfl) (ev_name rfl))) fun s₂ ⟨S, T, i₂⟩ => ?_
  refine seq_next (x_pairR (a := l.length) (b := t.length) "s" "t" i₂ rm' (.inl rfl) (.inl rfl) rfl rfl (ev_callB (ev_blt G rfl rfl (by decide) rfl) (evl_cons (ev_name (P := vList (nmV m) l) rfl) evl_nil) cl_len) (ev_callB (ev_blt G rfl rfl (by decide) rfl) (evl_cons (ev_name (P := vList (nmV m) t) rfl) evl_nil) cl_len)) fun s₃ i₃ => ?_
  refine seq_next (x_objnew i₃ rm' (ev_blt G rfl rfl (by decide) rfl) (.inl rfl)) fun s₄ ⟨O, i₄⟩ => ?_
  refine seq_next (x_new (R := vTold m) i₄ rm' (.inl rfl)) fun s₅ ⟨R, i₅⟩ => ?_
  have c0 : (cdAt l t 0).1 = l.map some ∧ (cdAt l t 0).2.1 = t.map some ∧ (cdAt l t 0).2.2 = [] := ⟨rfl, rfl, rfl⟩
  have clen := cdAt_len l t
  -- the first loop
  have i₆ : In hb s W (fun a => ((Own (fE (f152 w).1.1 s.heap.objs.size 152) a ∨ a = S) ∨ a = T) ∨ a = R) frs (fE (f152 w).1.1 s.heap.objs.size 152) [("result", vRef R), ("NULL", vObj O), ("m", vInt l.length), ("n", vInt t.length), ("s", vRef S), ("t", vRef T)] (cdX m O S T R (cdAt l t 0)) s₅ := by
    refine ((i₅.to (σ' := [("result", vRef R), ("NULL", vObj O), ("m", vInt l.length), ("n", vInt t.length), ("s", vRef S), ("t", vRef T)]) ⟨rfl, rfl, rfl, rfl, rfl, rfl, trivial⟩).asc3').forget (fun W h q => ?_) fun a d => .inr d
    obtain ⟨_, ⟨⟨q1, q2, q3⟩, q4, q5⟩, _⟩ := q
    exact ⟨⟨hOpt W h q1, hOpt W h q2, q3⟩, q4, q5⟩
  generalize hN₆ : (fun a => ((Own (fE (f152 w).1.1 s.heap.objs.size 152) a ∨ a = S) ∨ a = T) ∨ a = R) = N₆ at i₆
  refine seq_next (x_forEnum (D := S) l.length (fun k => [("result", vRef R), ("NULL", vObj O), ("m", vInt l.length), ("n", vInt t.length), ("s", vRef S), ("t", vRef T)]) (fun k => cdX m O S T R (cdAt l t k)) (fun k => vOpt m O ((cdAt l t k).1.getD k none))
    (Q := fun f s' => f = .next ∧ In hb s W N₆ frs (fE (f152 w).1.1 s.heap.objs.size 152) [("result", vRef R), ("NULL", vObj O), ("m", vInt l.length), ("n", vInt t.length), ("s", vRef S), ("t", vRef T)] (cdX m O S T R (cdAt l t l.length)) s')
    i₆ rm' (ev_blt G rfl rfl (by decide) rfl) rfl (fun k W h q => cdGet (clen k).1 k q.1.1) (fun s' i => i) (fun k a d => ?_) (.inl rfl) (.inl rfl) ?_ (fun s' i => ⟨rfl, i⟩)) fun s₇ i₇ => ?_
  · rw [← hN₆]
    rcases d with (d | d) | d
    · exact .inl (.inl (.inr d))
    · exact .inl (.inr d)
    · exact .inr d
  · intro N' Y k s' E' hN hk i
    have hst := cdAt_succ l t k
    obtain ⟨c1, c2, c3⟩ := clen k
    rw [hst]
    generalize cdAt l t k = st at *
    refine x_if (b := (st.1.getD k none).isNone) i rm' (tr_cmp (ev_name rfl) (ev_name rfl) (op_isO _)) ?_ ?_
    · intro hb₁ s₇ i₇
      have hx : st.1.getD k none = none := by simpa using hb₁
      refine wpAny_execs_cons (wpAny_Continue ?_)
      have hc : cds st k = st := by unfold cds; rw [hx]
      rw [hc]
      exact i₇.to ⟨rfl, rfl, rfl, rfl, rfl, rfl, trivial⟩
    · intro hb₁ s₇ i₇
      obtain ⟨e, hx⟩ : ∃ e, st.1.getD k none = some e := Option.isSome_iff_exists.mp (by cases h : st.1.getD k none with
        | none => rw [h] at hb₁; cases hb₁
        | some e => rfl)
      rw [hx] at i₇
      refine wpAny_execs_nil ?_
      refine seq_next (x_two i₇ rm' (ev_int (i := 0)) (.inl rfl) (.inl rfl)) fun s₈ i₈ => ?_
      have i₉ := (i₈.asc3).rot3
      have dsX : ∀ a, (((Y.ds a ∨ a = T) ∨ a = R) ∨ a = S) → N' a := fun a d => (i₉.xd a d).1
      have hr1 : -1000 ≤ (k : Int) ∧ (k : Int) ≤ 1000 := by omega
      have hr2 : -1000 ≤ (l.length : Int) ∧ (l.length : Int) ≤ 1000 := by omega
      have hrl : (rangeL k l.length).length = l.length - k := by rw [rangeL_len]; omega
      refine seq_next (x_for (R := vInt) (xs := rangeL k l.length) (τ := fun j => [("j", vInt j)])
        (fun j => [("cnt_s", vInt (nfold e k j st.1).1), ("cnt_t", vInt 0), ("elem", nmV m e), ("i", vInt k), ("result", vRef R), ("NULL", vObj O), ("m", vInt l.length), ("n", vInt t.length), ("s", vRef S), ("t", vRef T)])
        (fun j => hAnd (hAnd (hAnd Y (hList (vOpt m O) T st.2.1)) (hList (vTold m) R st.2.2)) (hList (vOpt m O) S (nfold e k j st.1).2)) (fun _ => True)
        (Q := fun f s' => f = .next ∧ In hb s W N' frs (fE (f152 w).1.1 s.heap.objs.size 152) [("cnt_s", vInt (nfold e k (l.length - k) st.1).1), ("cnt_t", vInt 0), ("elem", nmV m e), ("i", vInt k), ("result", vRef R), ("NULL", vObj O), ("m", vInt l.length), ("n", vInt t.length), ("s", vRef S), ("t", vRef T)]
          (hAnd (hAnd (hAnd Y (hList (vOpt m O) T st.2.1)) (hList (vTold m) R st.2.2)) (hList (vOpt m O) S (nfold e k (l.length - k) st.1).2)) s')
        i₉ rm' (ev_callT (ev_blt G rfl rfl (by decide) rfl) (evl_cons (ev_name (P := vInt k) rfl) (evl_cons (ev_name (P := vInt l.length) rfl) evl_nil)) cl_range2) (iterP_range hr1 hr2) (fun s' i => i.to ⟨rfl, rfl, rfl, rfl, rfl, rfl, rfl, rfl, rfl, rfl, trivial⟩) trivial (fun j a d => dsX a d) (fun j x hx => asg_name (.inl rfl)) ?_ (fun s' _ i => ⟨rfl, by rw [hrl] at i; exact i⟩)) fun s₁₀ i₁₀ => ?_
      · intro N'' Y' j x s' E' hN' hx' _ i
        have hjl : j < l.length - k := by rw [← hrl]; exact (List.getElem?_eq_some_iff.mp hx').1
        have hxj : x = ((k + j : Nat) : Int) := by
          unfold rangeL at hx'
          simp only [List.getElem?_map] at hx'
          rw [List.getElem?_range (by omega)] at hx'
          have := Option.some.inj hx'
          rw [← this]; push_cast; rfl
        subst hxj
        have hlen := nfold_len e k j st.1
        have hget : (nfold e k j st.1).2[((k + j : Nat) : Int).toNat]? = some ((nfold e k j st.1).2.getD (k + j) none) := by
          rw [Int.toNat_natCast, List.getElem?_eq_getElem (by omega)]
          simp [show k + j < (nfold e k j st.1).2.length by omega]
        rw [nfold_succ]
        generalize nfold e k j st.1 = q at *
        refine x_ifR "s" i.asc rm' rfl (tr_cmp (ev_item (l := q.2) (k := ((k + j : Nat) : Int)) (ev_name rfl) (ev_name rfl) (by omega) hget) (ev_name (P := nmV m e) rfl) (op_eqO (q.2.getD (k + j) none) e)) ?_ ?_
        · intro hb' s₁₁ i₁₁
          have he : q.2.getD (k + j) none = some e := by simpa using hb'
          refine seq_next (x_aug i₁₁ rm' rfl rfl (ev_int (i := 1))) fun s₁₂ i₁₂ => ?_
          refine seq_next (x_setitem (z := (none : Option Nat)) i₁₂ rm' rfl rfl rfl (by omega) (by omega)) fun s₁₃ i₁₃ => ?_
          refine wpAny_execs_nil (wpAny_execs_nil ⟨trivial, ?_⟩)
          have hn : nst e q (k + j) = (q.1 + 1, q.2.set (k + j) none) := by unfold nst; rw [if_pos he]
          rw [hn]
          exact i₁₃.asc'.to ⟨rfl, rfl, rfl, rfl, rfl, rfl, rfl, rfl, rfl, rfl, trivial⟩
        · intro hb' s₁₁ i₁₁
          have he : ¬ q.2.getD (k + j) none = some e := by simpa using hb'
          refine wpAny_execs_nil (wpAny_execs_nil ⟨trivial, ?_⟩)
          have hn : nst e q (k + j) = q := by unfold nst; rw [if_neg he]
          rw [hn]
          exact i₁₁.asc'.to ⟨rfl, rfl, rfl, rfl, rfl, rfl, rfl, rfl, rfl, rfl, trivial⟩
      have i₁₁ := i₁₀.rot3
      have hcds : cds st k = ((nfold e k (l.length - k) st.1).2, (nfold e 0 t.length st.2.1).2, if (nfold e k (l.length - k) st.1).1 = (nfold e 0 t.length st.2.1).1 then st.2.2 else st.2.2 ++ [((nfold e k (l.length - k) st.1).1, (nfold e 0 t.length st.2.1).1, e)]) := by
        unfold cds
        rw [hx]
        dsimp only
        rw [c1, c2]
      rw [hcds]
      generalize nfold e k (l.length - k) st.1 = cs at *
      refine seq_next (x_forEnum (D := T) t.length
        (fun j => [("cnt_t", vInt (nfold e 0 j st.2.1).1), ("cnt_s", vInt cs.1), ("elem", nmV m e), ("i", vInt k), ("result", vRef R), ("NULL", vObj O), ("m", vInt l.length), ("n", vInt t.length), ("s", vRef S), ("t", vRef T)])
        (fun j => hAnd (hAnd (hAnd Y (hList (vTold m) R st.2.2)) (hList (vOpt m O) S cs.2)) (hList (vOpt m O) T (nfold e 0 j st.2.1).2)) (fun j => vOpt m O ((nfold e 0 j st.2.1).2.getD j none))
        (Q := fun f s' => f = .next ∧ In hb s W N' frs (fE (f152 w).1.1 s.heap.objs.size 152) [("cnt_t", vInt (nfold e 0 t.length st.2.1).1), ("cnt_s", vInt cs.1), ("elem", nmV m e), ("i", vInt k), ("result", vRef R), ("NULL", vObj O), ("m", vInt l.length), ("n", vInt t.length), ("s", vRef S), ("t", vRef T)]
          (hAnd (hAnd (hAnd Y (hList (vTold m) R st.2.2)) (hList (vOpt m O) S cs.2)) (hList (vOpt m O) T (nfold e 0 t.length st.2.1).2)) s')
        i₁₁ rm' (ev_blt G rfl rfl (by decide) rfl) rfl (fun j W h q => cdGet ((nfold_len e 0 j st.2.1).trans c2) j q.2.1) (fun s' i => i.to ⟨rfl, rfl, rfl, rfl, rfl, rfl, rfl, rfl, rfl, rfl, trivial⟩) (fun j a d => (i₁₁.xd a d).1) (.inl rfl) (.inl rfl) ?_ (fun s' i => ⟨rfl, i⟩)) fun s₁₂ i₁₂ => ?_
      · intro N'' Y' j s' E' hN' hj i
        have hlen := (nfold_len e 0 j st.2.1).trans c2
        have hsucc : nfold e 0 (j + 1) st.2.1 = nst e (nfold e 0 j st.2.1) j := by rw [nfold_succ]; simp
        rw [hsucc]
        generalize nfold e 0 j st.2.1 = q at *
        refine x_if (b := decide (q.2.getD j none = some e)) i.asc rm' (tr_cmp (ev_name rfl) (ev_name (P := nmV m e) rfl) (op_eqO _ e)) ?_ ?_
        · intro hb' s₁₃ i₁₃
          have he : q.2.getD j none = some e := by simpa using hb'
          refine seq_next (x_aug i₁₃ rm' rfl rfl (ev_int (i := 1))) fun s₁₄ i₁₄ => ?_
          refine seq_next (x_setitem (k := (j : Int)) (z := (none : Option Nat)) i₁₄ rm' rfl rfl rfl (by omega) (by omega)) fun s₁₅ i₁₅ => ?_
          refine wpAny_execs_nil (wpAny_execs_nil ?_)
          have hn : nst e q j = (q.1 + 1, q.2.set j none) := by unfold nst; rw [if_pos he]
          rw [hn]
          exact i₁₅.asc'.to ⟨rfl, rfl, rfl, rfl, rfl, rfl, rfl, rfl, rfl, rfl, trivial⟩
        · intro hb' s₁₃ i₁₃
          have he : ¬ q.2.getD j none = some e := by simpa using hb'
          refine wpAny_execs_nil (wpAny_execs_nil ?_)
          have hn : nst e q j = q := by unfold nst; rw [if_neg he]
          rw [hn]
          exact i₁₃.asc'.to ⟨rfl, rfl, rfl, rfl, rfl, rfl, rfl, rfl, rfl, rfl, trivial⟩
      · generalize nfold e 0 t.length st.2.1 = ct at *
        refine x_if (b := !decide (cs.1 = ct.1)) i₁₂ rm' (tr_cmp (ev_name rfl) (ev_name rfl) (op_ne eqP_int (by omega))) ?_ ?_
        · intro hb' s₁₃ i₁₃
          have hne : ¬ cs.1 = ct.1 := by simpa using hb'
          rw [if_neg hne]
          refine seq_next (x_assign (P := vTold m (cs.1, ct.1, e)) i₁₃ rm' (ev_callK G rfl (ev_glob G rfl rfl) (evl_cons (ev_name (P := vInt cs.1) rfl) (evl_cons (ev_name (P := vInt ct.1) rfl) (evl_cons (ev_name (P := nmV m e) rfl) evl_nil))) (cl_mm G)) (.inl rfl)) fun s₁₄ i₁₄ => ?_
          refine seq_next (x_append (z := (cs.1, ct.1, e)) i₁₄.rot3 rm' rfl (ev_name rfl) (by omega)) fun s₁₅ i₁₅ => ?_
          refine wpAny_execs_nil (wpAny_execs_nil ?_)
          exact i₁₅.asc3'.to ⟨rfl, rfl, rfl, rfl, rfl, rfl, trivial⟩
        · intro hb' s₁₃ i₁₃
          have he : cs.1 = ct.1 := by simpa using hb'
          rw [if_pos he]
          refine wpAny_execs_nil (wpAny_execs_nil ?_)
          exact i₁₃.rot3.asc3'.to ⟨rfl, rfl, rfl, rfl, rfl, rfl, trivial⟩
  · refine seq_next (x_forEnum (D := T) t.length (fun k => [("result", vRef R), ("NULL", vObj O), ("m", vInt l.length), ("n", vInt t.length), ("s", vRef S), ("t", vRef T)]) (fun k => cdX m O S T R (cdAt l t l.length)) (fun k => vOpt m O ((cdAt l t l.length).2.1.getD k none))
      (Q := fun f s' => f = .next ∧ In hb s W N₆ frs (fE (f152 w).1.1 s.heap.objs.size 152) [("result", vRef R), ("NULL", vObj O), ("m", vInt l.length), ("n", vInt t.length), ("s", vRef S), ("t", vRef T)] (cdX m O S T R (cdAt l t l.length)) s')
      i₇ rm' (ev_blt G rfl rfl (by decide) rfl) rfl (fun k W h q => cdGet (clen l.length).2.1 k q.1.2.1) (fun s' i => i) (fun k a d => (i₇.xd a d).1) (.inl rfl) (.inl rfl) ?_ (fun s' i => ⟨rfl, i⟩)) fun s₈ i₈ => ?_
    · intro N' Y k s' E' hN hk i
      rw [hT k] at i
      refine x_if (b := true) i rm' (tr_cmp (ev_name rfl) (ev_name rfl) (op_isO none)) ?_ (fun h => by cases h)
      intro _ s₉ i₉
      refine wpAny_execs_cons (wpAny_Continue ?_)
      exact i₉.to ⟨rfl, rfl, rfl, rfl, rfl, rfl, trivial⟩
    · exact x_retO i₈ rm' rfl fun s' k p => ⟨k, p⟩
end
end Mine
end

section
set_option autoImplicit false
set_option linter.unusedVariables false
namespace Mine
section
variable {α : Type} [DecidableEq α]
theorem dd_mem (l : List α) : ∀ (acc : List α) (x : α), x ∈ l.foldl (fun acc x => if x ∈ acc then acc else acc ++ [x]) acc ↔ x ∈ acc ∨ x ∈ l := by
  induction l with
  | nil => intro acc x; simp
  | cons y r ih =>
    intro acc x
    rw [List.foldl_cons, ih]
    by_cases h : y ∈ acc
    · rw [if_pos h]
      constructor
      · rintro (h1 | h1)
        · exact .inl h1
        · exact .inr (.tail _ h1)
      · rintro (h1 | h1)
        · exact .inl h1
        · rcases List.mem_cons.mp h1 with rfl | h1
          · exact .inl h
          · exact .inr h1
    · rw [if_neg h, List.mem_append, List.mem_singleton, List.mem_cons, or_assoc]
theorem dedupL_mem {l : List α} {x : α} : x ∈ dedupL l ↔ x ∈ l := by
  have := dd_mem l [] x
  simpa [dedupL] using this
theorem dd_nodup (l : List α) : ∀ (acc : List α), acc.Nodup → (l.foldl (fun acc x => if x ∈ acc then acc else acc ++ [x]) acc).Nodup := by
  induction l with
  | nil => intro acc h; exact h
  | cons y r ih =>
    intro acc h
    rw [List.foldl_cons]
    refine ih _ ?_
    by_cases hy : y ∈ acc
    · rw [if_pos hy]; exact h
    · rw [if_neg hy]
      rw [List.nodup_append]
      refine ⟨h, by simp, fun a ha b hb => ?_⟩
      rw [List.mem_singleton.mp hb]
      exact fun q => hy (q ▸ ha)
theorem dedupL_nodup (l : List α) : (dedupL l).Nodup := dd_nodup l [] List.nodup_nil
theorem count_one {l : List α} (h : l.Nodup) {x : α} (hx : x ∈ l) : l.count x = 1 := by
  have h1 := List.nodup_iff_count.mp h x
  have h2 := List.count_pos_iff.mpr hx
  lia
end
/-! ## what is told -/
theorem nfold_get (e a : Nat) (ls : List (Option Nat)) : ∀ b, (nfold e a b ls).1 = (((ls.drop a).take b).count (some e) : Int) ∧ ∀ j, (nfold e a b ls).2[j]? = if a ≤ j ∧ j < a + b ∧ ls[j]? = some (some e) then some none else ls[j]? := by
  intro b
  induction b with
  | zero => exact ⟨by simp [nfold], fun j => by rw [if_neg (by lia)]; rfl⟩
  | succ b ih =>
    obtain ⟨h1, h2⟩ := ih
    rw [nfold_succ]
    have hg : (nfold e a b ls).2.getD (a + b) none = some e ↔ ls[a + b]? = some (some e) := by
      have := h2 (a + b)
      rw [if_neg (by lia)] at this
      rw [List.getD_eq_getElem?_getD, this]
      cases ls[a + b]? with
      | none => simp
      | some x => simp
    have htk : (ls.drop a).take (b + 1) = (ls.drop a).take b ++ (ls[a + b]?).toList := by
      rw [List.take_add_one, List.getElem?_drop]
    unfold nst
    by_cases hc : ls[a + b]? = some (some e)
    · rw [if_pos (hg.mpr hc)]
      refine ⟨?_, fun j => ?_⟩
      · show (nfold e a b ls).1 + 1 = _
        rw [h1, htk, hc, List.count_append]
        simp
      · show ((nfold e a b ls).2.set (a + b) none)[j]? = _
        rw [List.getElem?_set]
        have hlt : a + b < (nfold e a b ls).2.length := by
          rw [nfold_len]
          exact (List.getElem?_eq_some_iff.mp hc).1
        by_cases hj : a + b = j
        · subst hj
          rw [if_pos rfl, if_pos hlt, if_pos ⟨by lia, by lia, hc⟩]
        · rw [if_neg hj, h2]
          by_cases hq : a ≤ j ∧ j < a + b ∧ ls[j]? = some (some e)
          · rw [if_pos hq, if_pos ⟨hq.1, by lia, hq.2.2⟩]
          · rw [if_neg hq, if_neg (fun q => hq ⟨q.1, by lia, q.2.2⟩)]
    · rw [if_neg (fun q => hc (hg.mp q))]
      refine ⟨?_, fun j => ?_⟩
      · rw [h1, htk, List.count_append]
        cases hx : ls[a + b]? with
        | none => simp
        | some x =>
          have : x ≠ some e := fun q => hc (by rw [hx, q])
          simp [List.count_cons, this]
      · rw [h2]
        by_cases hq : a ≤ j ∧ j < a + b ∧ ls[j]? = some (some e)
        · rw [if_pos hq, if_pos ⟨hq.1, by lia, hq.2.2⟩]
        · rw [if_neg hq]
          by_cases hj : j = a + b
          · subst hj
            rw [if_neg (fun q => hc q.2.2)]
          · rw [if_neg (fun q => hq ⟨q.1, by lia, q.2.2⟩)]
theorem nfold_all {e a : Nat} {ls : List (Option Nat)} (ha : a ≤ ls.length) (hno : ∀ x ∈ ls.take a, x ≠ some e) : (nfold e a (ls.length - a) ls).1 = (ls.count (some e) : Int) ∧ (nfold e a (ls.length - a) ls).2 = ls.map fun x => if x = some e then none else x := by
  obtain ⟨h1, h2⟩ := nfold_get e a ls (ls.length - a)
  constructor
  · rw [h1, List.take_of_length_le (by rw [List.length_drop]; lia)]
    conv => rhs; rw [← List.take_append_drop a ls, List.count_append]
    have : (ls.take a).count (some e) = 0 := List.count_eq_zero.mpr fun h => hno _ h rfl
    rw [this, Nat.zero_add]
  · refine List.ext_getElem? fun j => ?_
    rw [h2, List.getElem?_map]
    cases hx : ls[j]? with
    | none => simp
    | some x =>
      have hj : j < ls.length := (List.getElem?_eq_some_iff.mp hx).1
      by_cases hxe : x = some e
      · subst hxe
        have haj : a ≤ j := Nat.le_of_not_lt fun h => hno (some e) (by
          rw [List.mem_take_iff_getElem]
          exact ⟨j, by lia, (List.getElem?_eq_some_iff.mp hx).2⟩) rfl
        rw [if_pos ⟨haj, by lia, rfl⟩]
        simp
      · rw [if_neg (fun q => hxe (Option.some.inj q.2.2))]
        simp [hxe]
def msk (D l : List Nat) : List (Option Nat) := l.map fun x => if x ∈ D then none else some x
theorem msk_count {D l : List Nat} {e : Nat} (h : e ∉ D) : (msk D l).count (some e) = l.count e := by
  unfold msk
  induction l with
  | nil => rfl
  | cons x l ih =>
    rw [List.map_cons, List.count_cons, List.count_cons, ih]
    congr 1
    by_cases hx : x ∈ D
    · rw [if_pos hx]
      have : x ≠ e := fun q => h (q ▸ hx)
      simp [this]
    · rw [if_neg hx]
      simp
theorem msk_snoc {D l : List Nat} {e : Nat} : ((msk D l).map fun x => if x = some e then none else x) = msk (D ++ [e]) l := by
  unfold msk
  rw [List.map_map]
  refine List.map_congr_left fun x _ => ?_
  show (if (if x ∈ D then none else some x) = some e then none else if x ∈ D then none else some x) = _
  by_cases hx : x ∈ D
  · simp [hx]
  · by_cases he : x = e
    · simp [he]
    · simp [hx, he]
theorem msk_congr {D D' l : List Nat} (h : ∀ x, x ∈ D ↔ x ∈ D') : msk D l = msk D' l := by
  unfold msk
  exact List.map_congr_left fun x _ => by simp only [h x]
def toldL (l : List Nat) (D : List Nat) : List (Int × Int × Nat) := ((dedupL D).filter fun e => !decide (l.count e = 1)).map fun e => ((l.count e : Int), 1, e)
theorem cdAt_eq (l : List Nat) : ∀ k, k ≤ l.length → cdAt l (dedupL l) k = (msk (l.take k) l, msk (l.take k) (dedupL l), toldL l (l.take k)) := by
  intro k
  induction k with
  | zero => intro _; simp [cdAt, msk, toldL, dedupL]
  | succ k ih =>
    intro hk
    rw [cdAt_succ, ih (by lia)]
    have hkl : k < l.length := by lia
    obtain ⟨x, hx⟩ : ∃ x, l[k]? = some x := ⟨l[k], List.getElem?_eq_getElem hkl⟩
    have htk : l.take (k + 1) = l.take k ++ [x] := by rw [List.take_add_one, hx]; rfl
    have hxl : x ∈ l := List.mem_of_getElem? hx
    have hg : (msk (l.take k) l).getD k none = if x ∈ l.take k then none else some x := by
      rw [List.getD_eq_getElem?_getD]
      unfold msk
      rw [List.getElem?_map, hx]
      simp
    unfold cds
    dsimp only
    rw [hg]
    by_cases hm : x ∈ l.take k
    · rw [if_pos hm]
      dsimp only
      have e1 : ∀ y, y ∈ l.take k ↔ y ∈ l.take (k + 1) := fun y => by
        rw [htk, List.mem_append, List.mem_singleton]
        exact ⟨.inl, fun h => h.elim id fun q => q ▸ hm⟩
      rw [msk_congr (l := l) e1, msk_congr (l := dedupL l) e1]
      unfold toldL
      rw [dedupL_take hx, if_pos (dedupL_mem.mpr hm)]
    · rw [if_neg hm]
      dsimp only
      have hno : ∀ y ∈ (msk (l.take k) l).take k, y ≠ some x := by
        intro y hy
        unfold msk at hy
        rw [← List.map_take] at hy
        obtain ⟨z, hz, rfl⟩ := List.mem_map.mp hy
        rw [if_pos hz]
        simp
      have n1 := nfold_all (e := x) (a := k) (ls := msk (l.take k) l) (by unfold msk; rw [List.length_map]; lia) hno
      have n2 := nfold_all (e := x) (a := 0) (ls := msk (l.take k) (dedupL l)) (Nat.zero_le _) (by simp)
      rw [Nat.sub_zero] at n2
      rw [n1.1, n1.2, n2.1, n2.2, msk_count hm, msk_count hm, msk_snoc, msk_snoc, htk, count_one (dedupL_nodup l) (dedupL_mem.mpr hxl)]
      congr 2
      have hd : dedupL (l.take k ++ [x]) = dedupL (l.take k) ++ [x] := by
        rw [← htk, dedupL_take hx, if_neg (fun q => hm (dedupL_mem.mp q))]
      unfold toldL
      rw [hd, List.filter_append, List.map_append]
      by_cases hc : l.count x = 1
      · simp [hc]
      · have hc' : ¬ ((l.count x : Int) = ((1 : Nat) : Int)) := by lia
        rw [if_neg hc']
        simp [hc]
theorem cd_none (l : List Nat) (k : Nat) : (cdAt l (dedupL l) l.length).2.1.getD k none = none := by
  rw [cdAt_eq l l.length (Nat.le_refl _), List.take_length]
  show (msk l (dedupL l)).getD k none = none
  unfold msk
  rw [List.getD_eq_getElem?_getD, List.getElem?_map]
  cases hx : (dedupL l)[k]? with
  | none => rfl
  | some x =>
    have : x ∈ l := dedupL_mem.mp (List.mem_of_getElem? hx)
    simp [this]
theorem cd_told (l : List Nat) : (cdAt l (dedupL l) l.length).2.2 = toldL l l := by
  rw [cdAt_eq l l.length (Nat.le_refl _), List.take_length]
end Mine
end

section
open PySem PySem.W PyProof.Rows PySem.Calls
set_option Elab.async false
set_option autoImplicit false
set_option linter.unusedVariables false
set_option maxRecDepth 100000
namespace Mine
section
variable {prog : Program} {w : World} {hb : Heap} {n : Nat} {env : Env} {σ : List (Str × VP)} {B s s' : Shared} {W0 N : Addr → Prop} {fr₀ : List Env} {X Y : HP} {A : Around} {E : Value → Shared → Prop} {mg mb : Str → Option Value}
theorem x_newF {α : Type} {R : α → VP} {x : Str} {px pl pos : Pos} (i : In hb B W0 N fr₀ env σ Y s) (rm : Rm n (env :: fr₀) A) (nk : StoreOk env x) :
    wpAny (model prog w) A (exec (.Assign [.Name x px] (.List [] pl) pos) env) (fun f s' => f = .next ∧ ∃ D, ¬ (W0 D ∨ N D) ∧ In hb B W0 (fun a => N a ∨ a = D) fr₀ env ((x, vRef D) :: σ) (hAnd Y (hList R D [])) s') E s := by
  refine wpAny_Assign_Name (PyProof.Rows.List_ (args_nil (wpAny_newList ?_ (by simp [sizeLine_eq])))) (by rfl)
  have hD : s.heap.get? s.heap.objs.size = none := by
    cases e : s.heap.get? s.heap.objs.size with
    | none => rfl
    | some o => exact absurd (Heap.lt_size e) (Nat.lt_irrefl _)
  have i₂ := i.ownN (R := R) (l := []) (s' := { s with heap := s.heap.push { cls := .type "list", data := .seq [].toArray } }) (.refl _ _) (Kp.push1 _ _ _) hD (by simp) ⟨0, Heap.get?_push_size _ rfl⟩ .nil
  exact in_store i₂ nk (P := vRef s.heap.objs.size) rfl fun s' i' => ⟨rfl, _, i.ok.toSt.fresh, i'⟩
/-- a written list is written no more -/
theorem In.sealL {α : Type} {R : α → VP} {D : Addr} {l : List α} {x : Str} (i : In hb B W0 (fun a => N a ∨ a = D) fr₀ env σ (hAnd Y (hList R D l)) s) (hx : σ.lookup x = some (vRef D)) (nD : ¬ (W0 D ∨ N D)) :
    In hb B W0 N fr₀ env ((x, vList R l) :: σ) Y s := by
  obtain ⟨_, oD, fD, yD⟩ := i.listN
  have hl : N env.locals := i.nl.elim id fun q => absurd (.inl q.symm) oD
  have hc : ∀ x c, env.cells.lookup x = some c → N c := fun x c e => (i.nc x c e).elim id fun q => absurd (.inr ⟨x, q ▸ e⟩) oD
  have iY : In hb B W0 (fun a => N a ∨ a = D) fr₀ env σ Y s := i.forget (fun _ _ q => q.1) fun a d => .inl d
  have i₁ := iY.less (N := N) (fun a h => .inl h) hl hc fun a d => (i.xd a (.inl d)).1.elim id fun q => absurd (q ▸ d) yD
  refine { i₁ with ok := { i₁.ok with nm := ?_ } }
  obtain ⟨μ, f, r⟩ := i₁.ok.nm
  obtain ⟨nk, v, e1, e2⟩ := r x _ hx
  obtain rfl : v = .ref D := e2
  obtain ⟨_, ⟨lm, vs, pl, pp⟩, _⟩ := i.xo
  refine ⟨μ, f, fun y P e => ?_⟩
  by_cases hy : y = x
  · subst hy
    rw [List.lookup_cons_self] at e
    cases e
    exact ⟨nk, _, e1, lm, D, vs, rfl, nD, pl, Paired.mono pp fun _ z q => (R z).st q fun a o e na => ⟨fun h => na (h.imp id .inl), e⟩⟩
  · rw [List.lookup_cons, beq_eq_false_iff_ne.mpr hy] at e
    exact r y P e
theorem ev_count {α : Type} [Inhabited α] [DecidableEq α] {R : α → VP} (hR : Inj R) {d : Nat} (hE : ∀ a b, EqP (R a) (R b) (decide (a = b)) d) (hd : d ≤ 80) {l : List α} {z : α} {x : Str} {e : Expr} {px pa pc : Pos} (hx : σ.lookup x = some (vList R l)) (he : Ev prog w hb n env σ e (R z))
    (hline : (pa.endLine == pc.line) = true := by rfl) (hst : starEach [e] env = [(false, eval e env)] := by rfl) (hdb : (x == ("__debug__" : Str)) = false := by decide) (hcd : (x == ("__classdict__" : Str)) = false := by decide) :
    Ev prog w hb n env σ (.Call (.Attribute (.Name x px) "count" pa) [e] [] pc) (vInt (l.count z)) := fun W frs A s E rm o => by
  refine Call_method1 (by rfl) hst hline (wpAny_mono (ev_name hx hdb hcd W frs A s E rm o) (fun v s₁ ⟨k₁, p₁⟩ => ?_) fun _ _ x => x)
  have o₁ := o.kp k₁
  have p₁' := p₁
  obtain ⟨_, a, us, rfl, nw, ⟨ne, ee⟩, pp⟩ := p₁'
  refine ⟨"list", "list.count", F.plainAttrs_list, F.slot_list_count, F.type_list_count, ⟨_, ee, rfl⟩, fun b q => by injection q with q; subst q; exact ⟨_, ee, rfl⟩, ?_⟩
  refine PySem.seqMethod1_meets F.slot_list_count F.entry_list_count (wpAny_mono (he W frs A s₁ E rm o₁) (fun u s₂ ⟨k₂, p₂⟩ => ?_) fun _ _ x => x)
  obtain ⟨lm, a', us', e', nw', ⟨ne', ee'⟩, pp'⟩ := VP.kp p₁ k₂.same o.wf
  injection e' with e'
  subst e'
  obtain ⟨q1, q2, q3⟩ := list_any hR hE (A := A.in1) (by show A.units + 1 + d < cLine; have := rm.un; lia) pp' p₂
  refine ⟨⟨_, ee', rfl⟩, F.args_list_count_2 _ _, _, SeqAt.list_countAt a us'.toArray ne' none #[] u (fun y => decide (dat R W s₂.heap y = z)), ?_⟩
  refine ⟨ee', q1, ?_⟩
  show Kp (frS frs) s _ ∧ _
  exact ⟨(k₁.trans k₂).trans (.tok1 _ _ _), s₂.toks, by rw [show us'.toArray.toList = us' from rfl, q3]⟩
end
end Mine
end

section
open PySem PySem.W PyProof.Rows PySem.Calls
set_option Elab.async false
set_option autoImplicit false
set_option linter.unusedVariables false
set_option maxRecDepth 100000
namespace Mine
noncomputable def f198 (w : World) : DefOf w 198 := ⟨(_, _), rfl, rfl⟩
def rdNames (left : List (List Nat)) : List Nat := left.flatMap fun r => r.map fun x => x
def rdShared (left : List (List Nat)) : List Nat := ((toldL (rdNames left) (rdNames left)).filter fun x => decide (x.2.1 = 1) && decide (x.1 = ((rdNames left).count x.2.2 : Int))).map fun x => x.2.2
def rdFewer (left : List (List Nat)) : List (List Nat) := dedupL (left.map fun r => r.filter fun x => decide (x ∈ rdShared left))
def rdTop (fewer : List (List Nat)) (row : List Nat) : Bool := decide (fewer.filter (fun o => !decide (o = row) && decide (ulDiff row o = [])) = [])
def rdKept (left : List (List Nat)) : List (List Nat) := (rdFewer left).filter (rdTop (rdFewer left))
def rounds : Nat → List (List Nat) → Option (List (List Nat))
  | 0, _ => none
  | f + 1, left => if rdKept left = left then some left else rounds f (rdKept left)
def rdIter (rows : List (List Nat)) : Nat → List (List Nat)
  | 0 => dedupL rows
  | k + 1 => rdKept (rdIter rows k)
theorem rdKept_len (left : List (List Nat)) : (rdKept left).length ≤ left.length := by
  have h1 := List.length_filter_le (rdTop (rdFewer left)) (rdFewer left)
  have h2 := dedupL_len (left.map fun r => r.filter fun x => decide (x ∈ rdShared left))
  rw [List.length_map] at h2
  unfold rdKept
  show ((rdFewer left).filter _).length ≤ _
  have h3 : (rdFewer left).length ≤ left.length := h2
  lia
theorem rdKept_row {left : List (List Nat)} {b : Nat} (h : ∀ r ∈ left, r.length ≤ b) : ∀ r ∈ rdKept left, r.length ≤ b := by
  intro r hr
  have h1 : r ∈ rdFewer left := (List.mem_filter.mp hr).1
  have h2 := dedupL_mem.mp h1
  obtain ⟨q, hq, rfl⟩ := List.mem_map.mp h2
  exact Nat.le_trans (List.length_filter_le _ _) (h q hq)
section
variable {prog : Program} {w : World} {hb : Heap} {n : Nat} {mg mb : Str → Option Value} {env : Env} {σ : List (Str × VP)} {scope : Scope}
theorem fn_rnd (G : Gd w hb mg mb) : FnAt hb 198 (f198 w).1.1 (f198 w).1.2 := fnAt G (f198 w) rfl rfl rfl rfl rfl rfl rfl
theorem tgt_look3 {a b c y : Str} {P Qa Qb Qc : VP} (ha : tgtOk scope a = true) (hb' : tgtOk scope b = true) (hc : tgtOk scope c = true) (e : (restr σ scope).lookup y = some P) : ([(a, Qa), (b, Qb), (c, Qc)] ++ restr σ scope).lookup y = some P := by
  have hy := (restr_look e).2
  have ne : ∀ t, tgtOk scope t = true → y ≠ t := fun t h q => by subst q; rcases tgtOk.cases h with q | q <;> (rw [q] at hy; cases hy)
  show ((a, Qa) :: (b, Qb) :: (c, Qc) :: restr σ scope).lookup y = some P
  rw [List.lookup_cons, beq_eq_false_iff_ne.mpr (ne a ha)]
  rw [List.lookup_cons, beq_eq_false_iff_ne.mpr (ne b hb')]
  rw [List.lookup_cons, beq_eq_false_iff_ne.mpr (ne c hc)]
  exact e
theorem tgt_all3 {a b c : Str} {Qa Qb Qc : VP} (ha : tgtOk scope a = true) (hb' : tgtOk scope b = true) (hc : tgtOk scope c = true) : ([(a, Qa), (b, Qb), (c, Qc)].all fun q => scope.names.lookup q.1 != some .free) = true := by
  have h := fun t (ht : tgtOk scope t = true) => (show (scope.names.lookup t != some .free) = true from by rcases tgtOk.cases ht with q | q <;> simp [q])
  simp [h a ha, h b hb', h c hc]

theorem cl_rnd (G : Gd w hb mg mb) {m : Bool} (rows r : List (List Nat)) (hr : rounds 20 (dedupL rows) = some r) (h10 : rows.length ≤ 10) (hr10 : ∀ r ∈ rows, r.length ≤ 10) :
    Cl prog w hb (n + 4) (.ref 198) [vList (vList (nmV m)) rows] (vList (vList (nmV m)) r) := by
  intro W frs A s E vs rm st hp
  cases hp with
  | cons h1 hp =>
  cases hp
  rename_i v
  have hR : Inj (nmV m) := nm_inj
  have hE : ∀ a b, EqP (nmV m a) (nmV m b) (decide (a = b)) 0 := eqP_nm
  obtain ⟨o74, ho74, hd74⟩ := (fn_dedup G).ob
  obtain ⟨o67, ho67, hd67⟩ := (fn_fk G).ob
  obtain ⟨o52, ho52, hd52⟩ := (fn_cd G).ob
  refine wpAny_call (fn_enter G (fn_rnd G) (binds := [("rows", v)]) (Ps := [vList (vList (nmV m)) rows]) rm st (BindsTo.of_eq rfl) (.cons h1 .nil) (by simp) rfl fun s₁ i₁ => ?_)
  have rm' := rm_deeper (env := fE (f198 w).1.1 s.heap.objs.size 198) rm
  refine seq_next (x_assign i₁ rm' (ev_callF ho74 hd74 (ev_glob G rfl rfl) (evl_cons (ev_name rfl) evl_nil) (cl_dedup G (inj_list hR) (eqP_list hR hE) (by lia) rows)) (.inl rfl)) fun s₂ i₂ => ?_
  have dl := dedupL_len rows
  refine wpAny_execs_cons (wpAny_mono (x_for (R := vInt) (xs := rangeL 0 20) (τ := fun j => [("_", vInt j)]) (fun k => [("left", vList (vList (nmV m)) (rdIter rows k)), ("rows", vList (vList (nmV m)) rows)]) (fun k => hTrue)
    (fun k => rounds (20 - k) (rdIter rows k) = some r ∧ (rdIter rows k).length ≤ 10 ∧ ∀ q ∈ rdIter rows k, q.length ≤ 10)
    (Q := fun f s' => ∃ z, f = .ret z ∧ Kp (frS frs) s s' ∧ (vList (vList (nmV m)) r).ok W s'.heap z)
    i₂ rm' (ev_callT (ev_blt G rfl rfl (by decide) rfl) (evl_cons (ev_int (i := 20)) evl_nil) cl_range1) (iterP_range (by lia) (by lia)) (fun s' i => i.to ⟨rfl, rfl, trivial⟩)
    ⟨hr, (by show (dedupL rows).length ≤ 10; lia), fun q hq => hr10 q (dedupL_mem.mp hq)⟩ (fun k a d => d.elim) (fun k x hx => asg_name (.inl rfl)) ?_ ?_) (fun f s' ⟨z, e, hk, hz⟩ => by subst e; exact ⟨hk, hz⟩) fun _ _ x => x)
  · intro N' Y k x s' E' hN hx ⟨c1, c2, c3⟩ i
    have hk20 : k < 20 := by
      have := (List.getElem?_eq_some_iff.mp hx).1
      rw [rangeL_len] at this
      lia
    have hstep : rdIter rows (k + 1) = rdKept (rdIter rows k) := rfl
    have hrd : rounds (20 - k) (rdIter rows k) = if rdKept (rdIter rows k) = rdIter rows k then some (rdIter rows k) else rounds (20 - (k + 1)) (rdKept (rdIter rows k)) := by
      rw [show 20 - k = (20 - (k + 1)) + 1 by lia]
      rfl
    rw [hstep]
    rw [hrd] at c1
    have hl1 := rdKept_len (rdIter rows k)
    have hl2 := rdKept_row c3
    generalize rdIter rows k = left at *
    have nl := lkNames_len c2 c3
    have nl' : (rdNames left).length ≤ 100 := nl
    refine seq_next (x_assign (P := vList (nmV m) (rdNames left)) i rm' (ev_cp (cp_nn (R := vList (nmV m)) (R₂ := nmV m) (R' := nmV m) (xs := left) (ys := fun r => r) (g := fun r x => x) (ev_name rfl) iterP_list (fun C x hx => ev_name (P := vList (nmV m) x) rfl) (fun x hx => iterP_list) (fun C x y hx hy => ev_name rfl) (by lia))) (.inr ⟨rfl, _, rfl⟩)) fun s₃ i₃ => ?_
    refine seq_next (x_assign (P := vList (vTold m) (toldL (rdNames left) (rdNames left))) i₃ rm' (Ev.conv (ev_callF ho52 hd52 (ev_glob G rfl rfl) (evl_cons (ev_name (P := vList (nmV m) (rdNames left)) rfl) (evl_cons (ev_callT (ev_blt G rfl rfl (by decide) rfl) (evl_cons (ev_callF ho67 hd67 (ev_glob G rfl rfl) (evl_cons (ev_name (P := vList (nmV m) (rdNames left)) rfl) evl_nil) (cl_dd G (rdNames left))) evl_nil) cl_listDict) evl_nil)) (cl_cd G (rdNames left) (dedupL (rdNames left)) (cd_none _))) (by rw [cd_told])) (.inl rfl)) fun s₄ i₄ => ?_
    have tl : (toldL (rdNames left) (rdNames left)).length ≤ 100 := by
      unfold toldL
      rw [List.length_map]
      have h1 := List.length_filter_le (fun e => !decide ((rdNames left).count e = 1)) (dedupL (rdNames left))
      have h2 := dedupL_len (rdNames left)
      lia
    have tl2 := List.length_filter_le (fun (x : Int × Int × Nat) => decide (x.2.1 = 1) && decide (x.1 = ((rdNames left).count x.2.2 : Int))) (toldL (rdNames left) (rdNames left))
    have tl3 : (rdShared left).length ≤ 100 := by
      unfold rdShared; rw [List.length_map]; lia
    refine seq_next (x_assign (P := vList (nmV m) (rdShared left)) i₄ rm' (ev_compG (R := vTold m) (R' := nmV m) (xs := toldL (rdNames left) (rdNames left)) (p := fun x => decide (x.2.1 = 1) && decide (x.1 = ((rdNames left).count x.2.2 : Int))) (g := fun x => x.2.2) (τ := fun x => [("name", nmV m x.2.2), ("once", vInt x.2.1), ("often", vInt x.1)])
      (by decide +kernel) (by rfl) (ev_name rfl) iterP_list (fun C x hx => asg_rec3 G (storeOk_cE (by decide +kernel) (by decide +kernel)) (storeOk_cE (by decide +kernel) (by decide +kernel)) (storeOk_cE (by decide +kernel) (by decide +kernel)))
      (fun x => tgt_all3 (by decide +kernel) (by decide +kernel) (by decide +kernel))
      (fun C x hx => trs_one (tr_and (tr_cmp (ev_name rfl) (ev_int (i := 1)) (op_eq eqP_int (by lia))) (fun _ => tr_cmp (ev_name rfl) (ev_count (l := rdNames left) hR hE (by lia) rfl (ev_name (P := nmV m x.2.2) rfl)) (op_eq eqP_int (by lia)))))
      (fun C x hx _ => ev_name rfl) (fun x y P e => tgt_look3 (by decide +kernel) (by decide +kernel) (by decide +kernel) e) (by rw [List.length_map]; lia)) (.inr ⟨rfl, _, rfl⟩)) fun s₅ i₅ => ?_
    have fl : (rdFewer left).length ≤ 10 := by
      have := dedupL_len (left.map fun r => r.filter fun x => decide (x ∈ rdShared left))
      rw [List.length_map] at this
      show (dedupL _).length ≤ 10
      lia
    have fr : ∀ q ∈ rdFewer left, q.length ≤ 10 := fun q hq => by
      obtain ⟨q', hq', rfl⟩ := List.mem_map.mp (dedupL_mem.mp hq)
      exact Nat.le_trans (List.length_filter_le _ _) (c3 q' hq')
    refine seq_next (x_assign (P := vList (vList (nmV m)) (rdFewer left)) i₅ rm' (ev_callF ho74 hd74 (ev_glob G rfl rfl) (evl_cons (ev_map (R := vList (nmV m)) (R' := vList (nmV m)) (xs := left) (fun r => r.filter fun x => decide (x ∈ rdShared left)) (ev_name rfl) iterP_list
      (fun C r hr => ev_filter (R := nmV m) (xs := r) (fun x => decide (x ∈ rdShared left)) (ev_name rfl) iterP_list (fun C' x hx => tr_cmp (ev_name (P := nmV m x) rfl) (ev_name (P := vList (nmV m) (rdShared left)) rfl) (op_in hR hE (by lia) _ _)) (by have := c3 r hr; lia)) (by lia)) evl_nil)
      (cl_dedup G (inj_list hR) (eqP_list hR hE) (by lia) _)) (.inl rfl)) fun s₆ i₆ => ?_
    refine seq_next (x_newF (R := vList (nmV m)) i₆ rm' (.inl rfl)) fun s₇ ⟨D, nD, i₇⟩ => ?_
    have i₇' := i₇.to (σ' := [("kept", vRef D), ("fewer", vList (vList (nmV m)) (rdFewer left)), ("left", vList (vList (nmV m)) left), ("rows", vList (vList (nmV m)) rows)]) ⟨rfl, rfl, rfl, rfl, trivial⟩
    have kl : ∀ j, (((rdFewer left).take j).filter (rdTop (rdFewer left))).length ≤ 10 := fun j => by
      have h1 := List.length_filter_le (rdTop (rdFewer left)) ((rdFewer left).take j)
      rw [List.length_take] at h1
      lia
    refine seq_next (x_for (R := vList (nmV m)) (xs := rdFewer left) (τ := fun q => [("row", vList (nmV m) q)]) (fun j => [("kept", vRef D), ("fewer", vList (vList (nmV m)) (rdFewer left)), ("left", vList (vList (nmV m)) left), ("rows", vList (vList (nmV m)) rows)])
      (fun j => hAnd (hAnd Y hTrue) (hList (vList (nmV m)) D (((rdFewer left).take j).filter (rdTop (rdFewer left))))) (fun _ => True)
      (Q := fun f s' => f = .next ∧ In hb s W (fun a => N' a ∨ a = D) frs (fE (f198 w).1.1 s.heap.objs.size 198) [("kept", vRef D), ("fewer", vList (vList (nmV m)) (rdFewer left)), ("left", vList (vList (nmV m)) left), ("rows", vList (vList (nmV m)) rows)]
        (hAnd (hAnd Y hTrue) (hList (vList (nmV m)) D (rdKept left))) s')
      i₇' rm' (ev_name rfl) iterP_list (fun s' i => i) trivial (fun j a d => (i₇'.xd a d).1) (fun j q hq => asg_name (.inr ⟨rfl, _, rfl⟩)) ?_ (fun s' _ i => ⟨rfl, by rw [List.take_length] at i; exact i⟩)) fun s₈ i₈ => ?_
    · intro N'' Y' j q s' E' hN' hq _ i
      have hqm : q ∈ rdFewer left := List.mem_of_getElem? hq
      have hq10 := fr q hqm
      have hts := take_succ_filter (rdTop (rdFewer left)) (rdFewer left) j q hq
      have hkj := kl j
      refine x_if (b := rdTop (rdFewer left) q) i.asc rm' (tr_cmp (ev_filter (R := vList (nmV m)) (xs := rdFewer left) (fun o => !decide (o = q) && decide (ulDiff q o = [])) (ev_name rfl) iterP_list
        (fun C o ho => tr_and (tr_cmp (ev_name (P := vList (nmV m) o) rfl) (ev_name (P := vList (nmV m) q) rfl) (op_ne (eqP_list hR hE _ _) (by lia))) (fun _ => tr_cmp (ev_diff G hR hE (by lia) (l := q) (m := o) rfl rfl rfl rfl) (ev_list (l := []) evl_nil (by simp)) (op_eq (eqP_list hR hE _ []) (by lia)))) (by lia))
        (ev_list (l := []) evl_nil (by simp)) (op_eq (eqP_list (inj_list hR) (eqP_list hR hE) _ []) (by lia))) ?_ ?_
      · intro hb₁ s₉ i₉
        refine seq_next (x_append (z := q) i₉ rm' rfl (ev_name rfl) (by lia)) fun s₁₀ i₁₀ => ?_
        refine wpAny_execs_nil (wpAny_execs_nil ⟨trivial, ?_⟩)
        rw [hts, hb₁, if_pos rfl]
        exact i₁₀.asc'.to ⟨rfl, rfl, rfl, rfl, trivial⟩
      · intro hb₁ s₉ i₉
        refine wpAny_execs_nil (wpAny_execs_nil ⟨trivial, ?_⟩)
        rw [hts, hb₁, if_neg (by decide), List.append_nil]
        exact i₉.asc'.to ⟨rfl, rfl, rfl, rfl, trivial⟩
    · refine x_ifR "kept" i₈ rm' rfl (tr_cmp (ev_name (P := vList (vList (nmV m)) (rdKept left)) rfl) (ev_name (P := vList (vList (nmV m)) left) rfl) (op_eq (eqP_list (inj_list hR) (eqP_list hR hE) _ _) (by lia))) ?_ ?_
      · intro hb₁ s₉ i₉
        have he : rdKept left = left := by simpa using hb₁
        rw [if_pos he] at c1
        have e2 : left = r := Option.some.inj c1
        refine x_retO i₉ rm' rfl fun s' k p => ?_
        rw [he, e2] at p
        exact ⟨_, rfl, k, p⟩
      · intro hb₁ s₉ i₉
        have he : ¬ rdKept left = left := by simpa using hb₁
        rw [if_neg he] at c1
        refine wpAny_execs_nil ?_
        have i₁₀ := i₉.sealL (x := "kept") rfl nD
        refine seq_next (x_assign (P := vList (vList (nmV m)) (rdKept left)) i₁₀ rm' (ev_name rfl) (.inl rfl)) fun s₁₁ i₁₁ => ?_
        refine wpAny_execs_nil ⟨⟨c1, by lia, hl2⟩, ?_⟩
        exact i₁₁.to ⟨rfl, rfl, trivial⟩
  · intro s' ⟨c, _⟩ i
    rw [show (rangeL 0 20).length = 20 by rw [rangeL_len]; rfl] at c
    cases c
end
end Mine
end

section
open PySem PySem.W PyProof.Rows PySem.Calls
set_option Elab.async false
set_option autoImplicit false
set_option linter.unusedVariables false
set_option maxRecDepth 100000
namespace Mine
/-- a list that was handed in -/
def vScr (ns : List Int) : VP :=
  ⟨fun W h v => ns.length ≤ 1000 ∧ ∃ a vs, v = .ref a ∧ ¬ W a ∧ (∃ o n, h.get? a = some o ∧ o.cls = .type "list" ∧ o.data = .seq (List.toArray vs) n) ∧ Paired (fun v x => (vInt x).ok W h v) vs ns,
   fun {W W' h h' v} ⟨lm, a, vs, e, nw, ⟨o, n, ho, r⟩, p⟩ k => ⟨lm, a, vs, e, (k a o ho nw).1, ⟨o, n, (k a o ho nw).2, r⟩, Paired.mono p fun _ x q => (vInt x).st q k⟩⟩
section
variable {prog : Program} {w : World} {hb : Heap} {n : Nat} {env : Env} {σ : List (Str × VP)} {mg mb : Str → Option Value}
theorem ev_takeScr {l : List Int} {k : Int} {value e : Expr} {p pos : Pos} (hv : Ev prog w hb n env σ value (vScr l)) (hk : Ev prog w hb n env σ e (vInt k)) (h0 : 0 ≤ k) (ht : ∀ o r, letTemporaryGo value o r = pure () := by intro _ _; rfl) :
    Ev prog w hb n env σ (.Subscript value (.Slice none (some e) none p) pos) (vList vInt (l.take k.toNat)) := fun W frs A s E rm o => by
  refine wpAny_Subscript_list_slice (wpAny_mono (hv W frs A s E rm o) (fun v s₁ ⟨k₁, p₁⟩ => wpAny_mono (evp_none W frs A s₁ E rm (o.kp k₁)) (fun vl s₂ ⟨k₂, p₂⟩ => wpAny_mono (evp_some hk W frs A s₂ E rm ((o.kp k₁).kp k₂)) (fun vu s₃ ⟨k₃, p₃⟩ => ?_) fun _ _ x => x) fun _ _ x => x) fun _ _ x => x) ht
  have o₃ := ((o.toSt.kp k₁).kp k₂).kp k₃
  have p₁' := VP.kp p₁ (k₂.trans k₃).same o.wf
  obtain ⟨lm, a, us, rfl, nw, ⟨ob, no, ho, hc, hd⟩, pp⟩ := p₁'
  have hlen' := Paired.length pp
  have e' := slicePick_upto us.toArray k.toNat
  rw [Int.toNat_of_nonneg h0] at e'
  refine ⟨a, us.toArray, none, some k, rfl, ⟨ob, ho, hc, no, hd⟩, by rw [List.size_toArray, sizeLine_eq]; lia, p₂, p₃, ?_⟩
  rw [e']
  have o₄ : St hb W frs { s₃ with heap := s₃.heap.push { cls := .type "slice", data := .fields #[vl, vu, .none] } } := o₃.kp (Kp.push1 _ _ _)
  obtain ⟨k₅, q₅⟩ := vList_new (R := vInt) (l := l.take k.toNat) (vs := us.take k.toNat) o₄ (by rw [List.length_take]; lia) (pmonoR (paired_take pp k.toNat) (Kp.push1 (frS frs) s₃ _).same o.wf)
  rw [show s₃.heap.objs.size + 1 = (s₃.heap.push { cls := .type "slice", data := .fields #[vl, vu, .none] }).objs.size from by rw [Heap.size_push]]
  exact ⟨((k₁.trans k₂).trans k₃).trans ((Kp.push1 _ _ _).trans k₅), q₅⟩

theorem ev_rev {α : Type} {R : α → VP} {l : List α} {value e : Expr} {p pos : Pos} (hv : Ev prog w hb n env σ value (vList R l)) (hk : Ev prog w hb n env σ e (vInt (-1)))
    (hs : ∀ a r : Addr, subscripted (.Slice none none (some e) p) false (.ref a) (.ref r) = operate [.ref a, .ref r] (getItem (.ref a) (.ref r)) := by intro _ _; with_unfolding_all rfl)
    (ht : ∀ o r, letTemporaryGo value o r = pure () := by intro _ _; rfl) :
    Ev prog w hb n env σ (.Subscript value (.Slice none none (some e) p) pos) (vList R l.reverse) := fun W frs A s E rm o => by
  refine Subscript_ (wpAny_mono (hv W frs A s E rm o) (fun v s₁ ⟨k₁, p₁⟩ => ?_) fun _ _ x => x)
  refine wpAny_Slice (wpAny_evalPart_none (wpAny_evalPart_none ?_))
  rw [evalPart_some]
  refine wpAny_mono (hk W frs A s₁ E rm (o.kp k₁)) (fun u s₂ ⟨k₂, p₂⟩ => ?_) fun _ _ x => x
  obtain ⟨tk, rfl⟩ := p₂
  have o₂ := (o.toSt.kp k₁).kp k₂
  obtain ⟨lm, a, us, rfl, nw, ⟨ne, ee⟩, pp⟩ := VP.kp p₁ k₂.same o.wf
  have hlen := Paired.length pp
  have k₃ : Kp (frS frs) s₂ { s₂ with heap := s₂.heap.push { cls := .type "slice", data := .fields #[.none, .none, .int (-1) tk] } } := Kp.push1 _ _ _
  have hl : (s₂.heap.push { cls := .type "slice", data := .fields #[.none, .none, .int (-1) tk] }).IsList a us.toArray := (show s₂.heap.PlainList a us.toArray from ⟨ne, ee⟩).isList.push _
  refine tail_any (hl.typeIs (s := { s₂ with heap := s₂.heap.push { cls := .type "slice", data := .fields #[.none, .none, .int (-1) tk] } })) slot_list_getitem.lookup (wpAny_getItem_list_slice hl (Heap.IsSliceOf.new _ _ _ _) .none .none (.int (-1) tk) (by decide) ?_ (by rw [List.size_toArray, sizeLine_eq]; lia)) (hs a _)
  rw [krv_pick]
  obtain ⟨k₅, q₅⟩ := vList_new (R := R) (l := l.reverse) (vs := us.reverse) (o₂.kp k₃) (by rw [List.length_reverse]; exact lm) (pmonoR (paired_rev pp) k₃.same o.wf)
  exact ⟨((k₁.trans k₂).trans k₃).trans k₅, q₅⟩

theorem preSum_eq : ∀ (l : List Int) (k : Nat), k ≤ l.length → preSum (fun i => l.getD i 0) k = (l.take k).sum
  | l, 0, _ => by simp [preSum]
  | l, k + 1, h => by
    rw [preSum, preSum_eq l k (by lia), List.take_add_one, List.sum_append]
    have : l[k]? = some l[k] := List.getElem?_eq_getElem (by lia)
    simp [this]
theorem cl_sum {l : List Int} : Cl prog w hb n (.builtin "sum") [vList vInt l] (vInt l.sum) := fun W frs A s E vs rm o p => by
  cases p with
  | cons h r =>
  cases r
  obtain ⟨lm, a, us, rfl, nw, ⟨ne, ee⟩, pp⟩ := h
  have hlen := Paired.length pp
  have pl : s.heap.PlainList a us.toArray := ⟨ne, ee⟩
  refine call_sum_walkG ?_
  refine wpAny_pyIter_list pl.isList ?_
  have hne : a ≠ s.heap.objs.size := Nat.ne_of_lt (Heap.lt_size ee)
  refine ⟨s.heap.objs.size, [s.heap.objs.size, a], [s.heap.objs.size], us.toArray.size, _, _, fun i => l.getD i 0, rfl, Walks.list (A := A.in1) rm.hh s.heap.objs.size a hne us.toArray, ⟨⟨_, Heap.get?_push_size _ rfl, rfl, rfl⟩, pl.isList.push _⟩, ?_, ?_, ?_⟩
  · intro b hb'
    rw [Heap.size_push]
    rcases List.mem_cons.mp hb' with rfl | hb'
    · exact Nat.lt_succ_self _
    · rcases List.mem_cons.mp hb' with rfl | hb'
      · exact Nat.lt_succ_of_lt (Heap.lt_size ee)
      · cases hb'
  · intro i v hv
    have hv' : us[i]? = some v := by simpa using hv
    obtain ⟨x, e1, t, e2⟩ := Paired.get' pp hv'
    exact ⟨t, by rw [e2]; simp [e1]⟩
  · intro h' tk t' hk
    rw [List.size_toArray, hlen, preSum_eq l l.length (Nat.le_refl _), List.take_length]
    refine ⟨Kp.all fun b ob e => ?_, _, rfl⟩
    refine hk b ob ?_ (Heap.get?_push_of_some _ e)
    intro q
    rw [List.mem_singleton.mp q] at e
    exact absurd (Heap.lt_size e) (Nat.lt_irrefl _)
theorem op_add_tx {m : Bool} {a b : List Nat} (hl : a.length + b.length ≤ 1000) : Op2 prog w hb n (binaryOp .Add) (vTx m a) (vTx m b) (vTx m (a ++ b)) := fun W frs A s E v u rm o ⟨ha, t, p⟩ ⟨hb', t', q⟩ => by
  subst p q
  have hc : ∀ c ∈ a ++ b, c < 128 := fun c hc => (List.mem_append.mp hc).elim (ha c) (hb' c)
  cases m with
  | false =>
    refine PyProof.Rows.add_str (fun t₂ tk => ⟨.tok1 _ _ _, hc, t₂, ?_⟩) (by simp [Str.length, sizeLine_eq]; lia)
    show Value.str _ _ = Value.str _ _
    congr 1
    show (⟨a.toArray ++ b.toArray⟩ : Str) = ⟨(a ++ b).toArray⟩
    simp
  | true =>
    refine KBy.add_bytes (by simp; lia) fun t₂ tk => ⟨.tok1 _ _ _, hc, t₂, ?_⟩
    show Value.bytes _ _ = Value.bytes _ _
    simp
theorem op_isNotB {a b : Bool} : Op2 prog w hb n (compareOp .IsNot) (vBool a) (vBool b) (vBool (!decide (a = b))) := fun W frs A s E v u rm o p q => by
  obtain rfl : v = .bool a := p
  obtain rfl : u = .bool b := q
  show wpAny _ _ (isSame (.bool a) (.bool b) >>= fun c => pure (Value.bool (!c))) _ _ _
  refine wpAny_bind (wpAny_of_eq (a := decide (a = b)) ?_ (wpAny_pure ⟨.refl _ _, rfl⟩))
  cases a <;> cases b <;> rfl
theorem op_isB {a b : Bool} : Op2 prog w hb n (compareOp .Is) (vBool a) (vBool b) (vBool (decide (a = b))) := fun W frs A s E v u rm o p q => by
  obtain rfl : v = .bool a := p
  obtain rfl : u = .bool b := q
  show wpAny _ _ (isSame (.bool a) (.bool b) >>= fun c => pure (Value.bool c)) _ _ _
  refine wpAny_bind (wpAny_of_eq (a := decide (a = b)) ?_ (wpAny_pure ⟨.refl _ _, rfl⟩))
  cases a <;> cases b <;> rfl
end
end Mine
end

section
open PySem PySem.W PyProof.Rows PySem.Calls
set_option Elab.async false
set_option autoImplicit false
set_option linter.unusedVariables false
set_option maxRecDepth 100000
set_option maxHeartbeats 1000000
namespace Mine
def stOf (l : List Nat) : Str := ⟨l.toArray⟩
theorem join_codes : ∀ ls : List (List Nat), Str.join (stOf []) (ls.map stOf) = stOf ls.flatten
  | [] => rfl
  | [x] => by simp [Str.join]
  | x :: y :: r => by
    have ih := join_codes (y :: r)
    show stOf x ++ stOf [] ++ Str.join (stOf []) ((y :: r).map stOf) = _
    rw [ih]
    show (⟨(x.toArray ++ #[]) ++ (y :: r).flatten.toArray⟩ : Str) = ⟨_⟩
    congr 1
    simp
theorem str_vals {W : Addr → Prop} {h : Heap} : ∀ {us : List Value} {ls : List (List Nat)}, Paired (fun v p => (vTx false p).ok W h v) us ls → ∃ l : List (Str × Tok), us = strValues l ∧ l.map (·.1) = ls.map stOf
  | _, _, .nil => ⟨[], rfl, rfl⟩
  | _, _, .cons (b := p) ⟨_, t, e⟩ r => by
    obtain ⟨l, e1, e2⟩ := str_vals r
    refine ⟨(stOf p, t) :: l, ?_, ?_⟩
    · rw [e, e1]; rfl
    · rw [List.map_cons, e2]; rfl
theorem flat_len {ls : List (List Nat)} {b : Nat} (h : ∀ p ∈ ls, p.length ≤ b) : ls.flatten.length ≤ ls.length * b := by
  have := fm_len (l := ls) (f := fun p => p) h
  simpa using this
theorem byt_vals {W : Addr → Prop} {h : Heap} : ∀ {us : List Value} {ls : List (List Nat)}, Paired (fun v p => (vTx true p).ok W h v) us ls → ∃ l : List (List Nat × Tok), us = l.map (fun x => Value.bytes (u8s x.1) x.2) ∧ l.map (·.1) = ls
  | _, _, .nil => ⟨[], rfl, rfl⟩
  | _, _, .cons (b := p) ⟨_, t, e⟩ r => by
    obtain ⟨l, e1, e2⟩ := byt_vals r
    exact ⟨(p, t) :: l, by rw [e, e1]; rfl, by rw [List.map_cons, e2]⟩
theorem slot_bytes_join : Slot "bytes" "join" "bytes.join" :=
  .of (owner := "bytes") (n := "join") (by rw [typeLookup_type, builtinLookup_eq_fast]; kernel_rfl) (by decide +kernel) (by decide +kernel) (by decide +kernel)
    (by first | exact .inl (by decide +kernel) | exact .inr (by decide +kernel)) (by rw [isSubtype_type]; kernel_rfl)
theorem type_bytes_join : typeOf (.builtin "bytes.join") = pure (.type "method_descriptor") := by show builtinType _ = _; rw [builtinType_eq_fast]; kernel_rfl
theorem entry_bytes_join : entryFor table "bytes.join" = some Builtin.«bytes.join» := entryFor_of_tree (by kernel_rfl)
theorem args_bytes_join_2 (a b : Value) : argsOk "bytes.join" ⟨[a, b], []⟩ := by
  unfold argsOk; rw [signature?_of (id := "bytes.join") (n := ['n', 'i', 'o', 'j']) (o := ['s', 'e', 't', 'y', 'b']) (by kernel_rfl) FB.owner_bytes]; kernel_rfl
theorem take_eq {b : Array UInt8} {t : Tok} {id : String} : Builtin.Bytes.takeBufferQuiet? id (.bytes b t) 0 = pure (some (b, none)) := by
  have e : Builtin.Bytes.takeBuffer? id (.bytes b t) 0 = pure (some (b, none)) := by
    unfold Builtin.Bytes.takeBuffer?
    rw [KBy.special_eq KBy.look_buffer, KBy.own_buffer]
    have : Builtin.Bytes.buffer? id (.bytes b t) ((0 : Int) == Builtin.Bytes.fullReadOnly) = pure (some b) := by
      rw [show ((0 : Int) == Builtin.Bytes.fullReadOnly) = false by decide +kernel]
      exact KBy.buffer_eq
    simp only [pure_bind]
    show (Builtin.Bytes.buffer? id (.bytes b t) ((0 : Int) == Builtin.Bytes.fullReadOnly) >>= fun r => pure (r.map (·, none))) = _
    rw [this]
    rfl
  unfold Builtin.Bytes.takeBufferQuiet?
  rw [e]
  rfl
end Mine
end

section
open PySem PySem.W PyProof.Rows PySem.Calls
set_option Elab.async false
set_option autoImplicit false
set_option linter.unusedVariables false
set_option maxRecDepth 100000
set_option maxHeartbeats 1000000
namespace Mine
theorem u8s_size (X : List Nat) : (u8s X).size = X.length := by simp [u8s]
theorem size_fold : ∀ (l : List (List Nat × Tok)) (c : Nat), (l.map fun x => u8s x.1).foldl (fun a b => a + b.size) c = c + ((l.map (·.1)).flatten).length
  | [], c => by simp
  | x :: l, c => by
    rw [List.map_cons, List.foldl_cons, size_fold l, List.map_cons, List.flatten_cons, List.length_append, u8s_size]
    lia
theorem wp_range {β : Type} {M : Model} {A : Around} {E : Value → Shared → Prop} {s : Shared} {n : Nat} {f : Nat → β → Sem (ForInStep β)} (st : Nat → β) {Q : β → Shared → Prop}
    (turn : ∀ i, i < n → ∀ (Q' : ForInStep β → Shared → Prop), Q' (.yield (st (i + 1))) s → wpAny M A (f i (st i)) Q' E s) (hq : Q (st n) s) : wpAny M A (forIn [:n] (st 0) f) Q E s := by
  rw [Std.Legacy.Range.forIn_eq_forIn_range']
  have go : ∀ m i, i + m = n → wpAny M A (forIn (List.range' i m) (st i) f) Q E s := by
    intro m
    induction m with
    | zero =>
      intro i hi
      have : i = n := by lia
      subst this
      rw [show List.range' i 0 = [] from rfl, List.forIn_nil]
      exact wpAny_pure hq
    | succ m ih =>
      intro i hi
      rw [List.range'_succ, List.forIn_cons]
      refine wpAny_bind (turn i (by lia) _ ?_)
      exact ih (i + 1) (by lia)
  simpa using go n 0 (by lia)
theorem letgo_all {M : Model} {A : Around} {E : Value → Shared → Prop} {s : Shared} {Q : Unit → Shared → Prop} (h : Q () s) : ∀ (l : List (List Nat × Tok)) (keep : List Value), wpAny M A (Builtin.Bytes.joinLetGo (l.map fun x => (Value.bytes (u8s x.1) x.2, none)) keep) Q E s
  | [], keep => wpAny_pure h
  | x :: l, keep => by
    rw [List.map_cons]
    unfold Builtin.Bytes.joinLetGo
    exact wpAny_bind (wpAny_letGo (letgo_all h l keep))
theorem joined_flat : ∀ (l : List (List Nat)), Builtin.Bytes.joined (u8s []) (l.map u8s) = u8s l.flatten := by
  intro l
  unfold Builtin.Bytes.joined
  have go : ∀ (l : List (List Nat)) (k : Nat) (acc : Array UInt8), ((l.map u8s).zipIdx k).foldl (fun out (x : Array UInt8 × Nat) => (if x.2 > 0 then out ++ u8s [] else out) ++ x.1) acc = acc ++ u8s l.flatten := by
    intro l
    induction l with
    | nil => intro k acc; simp [u8s]
    | cons x l ih =>
      intro k acc
      rw [List.map_cons, List.zipIdx_cons, List.foldl_cons, ih]
      have e : (if k > 0 then acc ++ u8s [] else acc) = acc := by split <;> simp [u8s]
      show (if k > 0 then acc ++ u8s [] else acc) ++ u8s x ++ u8s l.flatten = _
      rw [e]
      apply Array.toList_inj.mp
      simp [u8s]
  have := go l 0 #[]
  simpa using this
theorem meets_bjoin (t : Tok) (D : Addr) (l : List (List Nat × Tok)) (n₀ : Nat) (hl : l.length ≤ 1000) (hs : ((l.map (·.1)).flatten).length ≤ 10000) :
    Meets (Builtin.«bytes.join» ⟨[.bytes (u8s []) t, .ref D], []⟩) (fun _ R s => s.heap.get? D = some { cls := .type "list", data := .seq (l.map (fun x => Value.bytes (u8s x.1) x.2)).toArray n₀ } ∧ ∀ t' k, R (.ok (.ret (.bytes (u8s (l.map (·.1)).flatten) t'))) { s with toks := k }) := by
  refine .of_wp fun prog w A R s h => ?_
  obtain ⟨ho, h⟩ := h
  have hT : s.TypeIs (.ref D) "list" := ⟨_, ho, rfl⟩
  unfold Builtin.«bytes.join» Builtin.Bytes.joinM
  refine wpAny_bind (wpAny_of_eq (a := (.bytes (u8s []) t, .ref D)) (by first | rfl | kernel_rfl) ?_)
  dsimp only
  refine KFB.if_so (by decide) ?_
  refine wpAny_bind ?_
  unfold Builtin.Bytes.joinItems
  refine wpAny_bind (wpAny_typeOf hT ?_)
  rw [if_pos (by decide)]
  refine wpAny_pure ?_
  refine wpAny_bind (wpAny_seqItems ho rfl ?_)
  dsimp only
  refine KFB.if_so (by decide) ?_
  rcases l with _ | ⟨p, _ | ⟨q, r⟩⟩
  rotate_left
  · k_node
    refine wpAny_bind (wpAny_typeOf (typeIs_bytes _ _ _) ?_)
    refine KFB.if_so (by decide) ?_
    refine wpAny_bind (wpAny_rule (wpAny_pure ⟨_, rfl, ?_⟩))
    have := h p.2 s.toks
    show R (.ok (.ret (Value.bytes (u8s p.1) p.2))) s
    simpa using this
  all_goals k_node
  all_goals first | generalize p :: q :: r = l at * | generalize ([] : List (List Nat × Tok)) = l at *
  all_goals
    refine wpAny_bind ?_
    generalize hit : (l.map (fun x => Value.bytes (u8s x.1) x.2)).toArray = items at *
    have hlen : items.size = l.length := by rw [← hit]; simp
    refine wp_range (n := items.size) (fun i => (((l.take i).map fun x => u8s x.1).toArray, (l.take i).map fun x => ((Value.bytes (u8s x.1) x.2), (none : Option Value)))) ?_ ?_
    · intro i hi Q' hq'
      have hi' : i < l.length := by lia
      refine wpAny_bind (wpAny_seqItems ho rfl ?_)
      dsimp only
      refine KFB.if_not ?_ ?_
      · rw [show (Builtin.Bytes.Kind.bytes == Builtin.Bytes.Kind.bytearray) = false by decide, Bool.false_or, List.any_map]
        simp [Value.onHeap]
      · have hx : items.getD i Value.none = Value.bytes (u8s l[i].1) l[i].2 := by
          rw [← hit]; simp [hi']
        rw [hx]
        refine wpAny_bind (wpAny_holding (wpAny_of_eq take_eq ?_))
        dsimp only
        refine wpAny_bind (wpAny_seqItems ho rfl ?_)
        dsimp only
        refine KFB.if_not (by simp) ?_
        refine wpAny_pure ?_
        have e : l.take (i + 1) = l.take i ++ [l[i]] := by
          rw [List.take_add_one, List.getElem?_eq_getElem hi']; rfl
        rw [List.push_toArray]
        simpa only [e, List.map_append, List.map_cons, List.map_nil] using hq'
    · refine wpAny_bind (wpAny_of_eq (a := u8s []) rfl ?_)
      rw [List.take_of_length_le (by lia)]
      refine KFB.if_not ?_ ?_
      · have hz := size_fold l ((u8s []).size * ((l.map fun x => u8s x.1).toArray.size - 1))
        have hz' : (l.map fun x => u8s x.1).toArray.foldl (fun a b => a + b.size) ((u8s []).size * ((l.map fun x => u8s x.1).toArray.size - 1)) = (l.map fun x => u8s x.1).foldl (fun a b => a + b.size) ((u8s []).size * ((l.map fun x => u8s x.1).toArray.size - 1)) := by simp
        show Builtin.Bytes.tooLong _ = false
        refine KBy.tooLong_not ?_
        rw [hz', hz, show (u8s []).size = 0 from rfl]
        lia
      · have hj := joined_flat (l.map (·.1))
        rw [List.map_map] at hj
        have hsz : (u8s (l.map (·.1)).flatten).size ≤ sizeLine := by rw [sizeLine_eq, u8s_size]; lia
        show wpAny _ _ (mkBytes (Builtin.Bytes.joined (u8s []) ((l.map fun x => u8s x.1).toArray.toList)) >>= _) _ _ _
        have e2 : Builtin.Bytes.joined (u8s []) ((l.map fun x => u8s x.1).toArray.toList) = u8s (l.map (·.1)).flatten := hj
        rw [e2]
        refine wpAny_bind (wpAny_mkBytes ?_ hsz)
        refine wpAny_bind (wpAny_holding (wpAny_point ?_))
        refine wpAny_bind (letgo_all ?_ l _)
        exact wpAny_pure ⟨_, rfl, h _ _⟩
end Mine
end

section
open PySem PySem.W PyProof.Rows PySem.Calls
set_option Elab.async false
set_option autoImplicit false
set_option linter.unusedVariables false
set_option maxRecDepth 100000
namespace Mine
section
variable {prog : Program} {w : World} {hb : Heap} {n : Nat} {env : Env} {σ : List (Str × VP)} {mg mb : Str → Option Value}
theorem ev_join {m : Bool} {ls : List (List Nat)} {value e : Expr} {pa pc : Pos} (hv : Ev prog w hb n env σ value (vTx m [])) (he : Ev prog w hb n env σ e (vList (vTx m) ls)) (hz : ls.flatten.length ≤ 1000)
    (hbase : attributeBase value "join" env (eval value env) = eval value env := by rfl) (hline : (pa.endLine == pc.line) = true := by rfl) (hst : starEach [e] env = [(false, eval e env)] := by rfl) :
    Ev prog w hb n env σ (.Call (.Attribute value "join" pa) [e] [] pc) (vTx m ls.flatten) := fun W frs A s E rm o => by
  refine Call_method1 hbase hst hline (wpAny_mono (hv W frs A s E rm o) (fun v s₁ ⟨k₁, p₁⟩ => ?_) fun _ _ x => x)
  obtain ⟨_, t, rfl⟩ := p₁
  have o₁ := o.kp k₁
  have codes : ∀ {W h us}, Paired (fun v p => (vTx m p).ok W h v) us ls → ∀ c ∈ ls.flatten, c < 128 := by
    intro W h us p c hc
    obtain ⟨q, hq, hcq⟩ := List.mem_flatten.mp hc
    obtain ⟨i, hi, e⟩ := List.getElem_of_mem hq
    obtain ⟨u, _, hu, _⟩ := Paired.get p (i := i) (b := q) (by rw [List.getElem?_eq_getElem hi, e])
    exact hu c hcq
  cases m with
  | false =>
    refine ⟨"str", "str.join", F.plainAttrs_str, F.slot_str_join, F.type_str_join, typeIs_str _ _ _, (fun a q => by cases q), ?_⟩
    refine PySem.seqMethod1_meets F.slot_str_join F.entry_str_join (wpAny_mono (he W frs A s₁ E rm o₁) (fun v s₂ ⟨k₂, p₂⟩ => ?_) fun _ _ x => x)
    obtain ⟨lm, a, us, rfl, nw, pl, pp⟩ := p₂
    obtain ⟨l, rfl, e2⟩ := str_vals pp
    have hlen : (l.map (·.1)) = ls.map stOf := e2
    have hj : Txt.join (stOf []) (l.map (·.1)) = stOf ls.flatten := by
      show Builtin.Str.glued _ _ = _
      rw [StrLaws.glued_eq_join, e2, join_codes]
    have hok : JoinOk (stOf []) (l.map (·.1)) = true := by
      unfold JoinOk
      rw [e2]
      have hs : ((ls.map stOf).toArray.foldl (fun a b => a + b.length + (stOf []).length) 0) = ls.flatten.length := by
        have go : ∀ (ls : List (List Nat)) (c : Nat), (ls.map stOf).foldl (fun a b => a + b.length + (stOf []).length) c = c + ls.flatten.length := by
          intro ls
          induction ls with
          | nil => intro c; simp
          | cons x ls ih =>
            intro c
            rw [List.map_cons, List.foldl_cons, ih, List.flatten_cons, List.length_append]
            show c + (stOf x).length + (stOf []).length + _ = _
            have h1 : (stOf x).length = x.length := by simp [stOf, Str.length]
            have h2 : (stOf []).length = 0 := rfl
            lia
        have := go ls 0
        simpa using this
      rw [hs]
      have : Builtin.Str.tooLong ls.flatten.length = false := by
        unfold Builtin.Str.tooLong
        rw [sizeLine_eq]
        exact decide_eq_false (by lia)
      rw [this]; rfl
    have hok2 : Builtin.Str.tooLong ((l.map (·.1)).toArray.foldl (· + ·.length + (stOf []).length) 0) = false := by
      unfold JoinOk at hok
      rwa [Bool.not_eq_true'] at hok
    refine ⟨typeIs_str _ _ _, F.args_str_join_2 _ _, _, meets_str_join_list (stOf []) t a l hok2, pl.isList, post_join l ⟨?_, fun t' k => ⟨(k₁.trans k₂).trans (.tok1 _ _ _), codes pp, t', ?_⟩⟩⟩
    · rw [hj, sizeLine_eq]
      show (ls.flatten.toArray).size ≤ _
      rw [List.size_toArray]
      lia
    · rw [hj]; rfl
  | true =>
    refine ⟨"bytes", "bytes.join", FB.plainAttrs_bytes, slot_bytes_join, type_bytes_join, typeIs_bytes _ _ _, (fun a q => by cases q), ?_⟩
    refine PySem.seqMethod1_meets slot_bytes_join entry_bytes_join (wpAny_mono (he W frs A s₁ E rm o₁) (fun v s₂ ⟨k₂, p₂⟩ => ?_) fun _ _ x => x)
    obtain ⟨lm, a, us, rfl, nw, ⟨ne, ee⟩, pp⟩ := p₂
    have hlen := Paired.length pp
    have hc := codes pp
    obtain ⟨l, rfl, e2⟩ := byt_vals pp
    subst e2
    refine ⟨typeIs_bytes _ _ _, args_bytes_join_2 _ _, _, meets_bjoin t a l ne (by rw [List.length_map] at lm; exact lm) (by lia), ee, fun t' k => ⟨(k₁.trans k₂).trans (.tok1 _ _ _), hc, t', rfl⟩⟩
end
end Mine
end

section
open PySem PySem.W PyProof.Rows PySem.Calls
set_option Elab.async false
set_option autoImplicit false
set_option linter.unusedVariables false
set_option maxRecDepth 100000
namespace Mine
noncomputable def f213 (w : World) : DefOf w 213 := ⟨(_, _), rfl, rfl⟩
def digs (pcs : List (List Int)) : List (List Nat) := pcs.map fun p => p.map Int.toNat
def rowOf (p : List Int) : List Nat := ((rangeL 1 6).filter fun k => decide (k ∈ p)).map Int.toNat
def rowsOf (pcs : List (List Int)) : List (List Nat) := pcs.map rowOf
def onceP {α : Type} [DecidableEq α] (d : α) (rows : List α) (k : Int) : Bool := !decide (rows.getD k.toNat d ∈ rows.take k.toNat)
def onceL (rows : List (List Nat)) : List (List Nat) := ((rangeL 0 rows.length).filter (onceP [] rows)).map fun k => rows.getD k.toNat []
def srt (l : List (List Nat)) : List (List Nat) := (sortL (lexO natO) l : List (lexO natO).α)
def dueOf (rows : List (List Nat)) : List (List Nat) := obo (oMu rows * 1001 + 1001) rows 0
structure LawOK (pcs : List (List Int)) (r : List (List Nat)) : Prop where
  len : pcs.length ≤ 10
  rlen : ∀ p ∈ pcs, p.length ≤ 10 ∧ ∀ k ∈ p, 0 ≤ k ∧ k < 6
  read : (digs pcs).map rd = rowsOf pcs
  rnd : rounds 20 (dedupL (rowsOf pcs)) = some r
  rl : r.length ≤ 10 ∧ ∀ q ∈ r, q.length ≤ 10
  sorted : srt r = srt (dueOf (rowsOf pcs))
  dl : (dueOf (rowsOf pcs)).length < 64
  cmp : cmpOL (dueOf (rowsOf pcs)).reverse r = true
  cmp2 : cmpOL r (rowsOf pcs) = decide (srt (onceL (rowsOf pcs)) = srt (dueOf (rowsOf pcs)))
  lack : lack r = lack (rowsOf pcs)
  fin : decide (Mine.lack (rowsOf pcs) = 0) = decide (r.filter (fun q => !decide (q = [])) = [])
section
variable {prog : Program} {w : World} {hb : Heap} {n : Nat} {mg mb : Str → Option Value} {env : Env} {σ : List (Str × VP)}
theorem fn_law (G : Gd w hb mg mb) : FnAt hb 213 (f213 w).1.1 (f213 w).1.2 := fnAt G (f213 w) rfl rfl rfl rfl rfl rfl rfl
theorem ev_sorted {m : Bool} {l : List (List Nat)} {f e : Expr} {pos : Pos} (h64 : l.length < 64) (hf : Ev prog w hb n env σ f (vIs (.builtin "sorted"))) (he : Ev prog w hb n env σ e (vList (vList (nmV m)) l))
    (he' : eval (.Call f [e] [] pos) env = (do callWith pos (← eval f env) [] (backTo pos (starEach [e] env)) (backToKw pos (keywordEach [] env))) := by rfl)
    (hst : starEach [e] env = (false, eval e env) :: starEach [] env := by rfl) :
    Ev prog w hb n env σ (.Call f [e] [] pos) (vList (vList (nmV m)) (srt l)) :=
  ev_callB hf (evl_cons he evl_nil hst) (cl_sorted (O := lexO natO) (R := vList (nmV m)) (T := .type "list") (d := 1) (l := l) (fun a W h v => looks_list) (by decide) (by decide) (fun a b => ltP_list nm_inj eqP_nm ltP_nm a b) (by omega) h64) he' hst rfl
theorem srt_len (l : List (List Nat)) : (srt l).length = l.length := (sortL_perm (O := lexO natO) l).length_eq
theorem paths_of {m : Bool} {pcs : List (List Int)} : vList (fun p : List Int => vTx m (pathL (p.map Int.toNat))) pcs = vList (fun ks => vTx m (pathL ks)) (digs pcs) := by
  have key : ∀ (W : Addr → Prop) (hp : Heap) (vs : List Value), Paired (fun v p => (vTx m (pathL (p.map Int.toNat))).ok W hp v) vs pcs ↔ Paired (fun v ks => (vTx m (pathL ks)).ok W hp v) vs (digs pcs) := by
    intro W hp vs
    constructor
    · intro p
      unfold digs
      induction p with
      | nil => exact .nil
      | cons h r ih => exact .cons h ih
    · exact Paired.map2
  unfold vList
  congr 1
  funext W hp v
  simp only [key, show (digs pcs).length = pcs.length from List.length_map _]
theorem Cp.conv {e iter : Expr} {scope : Scope} {T T' : VP} (h : Cp prog w hb n env σ e scope iter T) (q : T = T') : Cp prog w hb n env σ e scope iter T' := q ▸ h
theorem pathL_flat (p : List Int) : (p.map fun k => 47 :: sg k.toNat).flatten = pathL (p.map Int.toNat) := by
  unfold pathL
  rw [List.flatMap_map]
  rfl

theorem cl_law (G : Gd w hb mg mb) (ns : List Int) (r : List (List Nat)) (H : LawOK (pieces (ns.take 10)) r) : Cl prog w hb (n + 5) (.ref 213) [vScr ns] (vBool true) := by
  intro W frs A s E vs rm st hp
  cases hp with
  | cons h1 hp =>
  cases hp
  rename_i v
  have lmN : ns.length ≤ 1000 := h1.1
  obtain ⟨o74, ho74, hd74⟩ := (fn_dedup G).ob
  obtain ⟨o88, ho88, hd88⟩ := (fn_pcs G).ob
  obtain ⟨o93, ho93, hd93⟩ := (fn_read G).ob
  obtain ⟨o98, ho98, hd98⟩ := (fn_rnd G).ob
  obtain ⟨o03, ho03, hd03⟩ := (fn_obo G).ob
  obtain ⟨o81, ho81, hd81⟩ := (fn_cmp G).ob
  obtain ⟨o08, ho08, hd08⟩ := (fn_lack G).ob
  refine wpAny_call (fn_enter G (fn_law G) (binds := [("script", v)]) (Ps := [vScr ns]) rm st (BindsTo.of_eq rfl) (.cons h1 .nil) (by simp) rfl fun s₁ i₁ => ?_)
  have rm' := rm_deeper (env := fE (f213 w).1.1 s.heap.objs.size 213) rm
  refine seq_next (x_assign i₁ rm' (ev_takeScr (l := ns) (k := 10) (ev_name rfl) ev_int (by omega)) (.inl rfl)) fun s₂ i₂ => ?_
  refine seq_next (x_assign (P := vBool (decide ((ns.take 10).sum.fmod 2 = 1))) i₂ rm' (ev_cmp (ev_bin (ev_callB (ev_blt G rfl rfl (by decide) rfl) (evl_cons (ev_name (P := vList vInt (ns.take 10)) rfl) evl_nil) cl_sum) ev_int (op_mod_int (by decide))) ev_int (op_eq eqP_int (by omega))) (.inl rfl)) fun s₃ i₃ => ?_
  generalize hm : decide ((ns.take 10).sum.fmod 2 = 1) = m at i₃
  have hR : Inj (nmV m) := nm_inj
  have hE : ∀ a b, EqP (nmV m a) (nmV m b) (decide (a = b)) 0 := eqP_nm
  refine seq_next (x_assign (P := vTx m [47]) i₃ rm' (ev_if (b := m) (tr_of (ev_name rfl) tv_bool) (fun h => by subst h; exact ev_bytes rfl (by decide)) (fun h => by subst h; exact ev_str rfl (by decide))) (.inr ⟨rfl, _, rfl⟩)) fun s₄ i₄ => ?_
  refine seq_next (x_assign (P := vList (nmV m) [0, 1, 2, 3, 4, 5]) i₄ rm' (ev_if (b := m) (tr_of (ev_name rfl) tv_bool)
    (fun h => by subst h; exact ev_list (evl_cons (ev_bytes (l := sg 0) rfl (by decide)) (evl_cons (ev_bytes (l := sg 1) rfl (by decide)) (evl_cons (ev_bytes (l := sg 2) rfl (by decide)) (evl_cons (ev_bytes (l := sg 3) rfl (by decide)) (evl_cons (ev_bytes (l := sg 4) rfl (by decide)) (evl_cons (ev_bytes (l := sg 5) rfl (by decide)) evl_nil)))))) (by simp))
    (fun h => by subst h; exact ev_list (evl_cons (ev_str (l := sg 0) rfl (by decide)) (evl_cons (ev_str (l := sg 1) rfl (by decide)) (evl_cons (ev_str (l := sg 2) rfl (by decide)) (evl_cons (ev_str (l := sg 3) rfl (by decide)) (evl_cons (ev_str (l := sg 4) rfl (by decide)) (evl_cons (ev_str (l := sg 5) rfl (by decide)) evl_nil)))))) (by simp))) (.inr ⟨rfl, _, rfl⟩)) fun s₅ i₅ => ?_
  refine seq_next (x_assign (P := vList (vList vInt) (pieces (ns.take 10))) i₅ rm' (ev_callF ho88 hd88 (ev_glob G rfl rfl) (evl_cons (ev_name (P := vList vInt (ns.take 10)) rfl) evl_nil) (cl_pcs G (ns.take 10) (by rw [List.length_take]; omega))) (.inl rfl)) fun s₆ i₆ => ?_
  generalize pieces (ns.take 10) = pcs at *
  have hlen := H.len
  have hrl := H.rlen
  have sgl : ∀ k, (sg k).length ≤ 1 := fun k => by cases k <;> simp [sg]
  have hsig : ∀ k : Int, 0 ≤ k → k < 6 → ([0, 1, 2, 3, 4, 5] : List Nat)[k.toNat]? = some k.toNat := fun k h0 h6 => by
    obtain ⟨j, rfl⟩ := Int.eq_ofNat_of_zero_le h0
    have : j < 6 := by omega
    match j, this with
    | 0, _ | 1, _ | 2, _ | 3, _ | 4, _ | 5, _ => rfl
  have hft : pcs.filter (fun _ => true) = pcs := by simp
  refine seq_next (x_comp (T := vList (fun p : List Int => vTx m (pathL (p.map Int.toNat))) pcs) i₆ rm' ?_ (.inl rfl)) fun s₇ i₇ => ?_
  · refine Cp.conv (cp_n (R := vList vInt) (R' := fun p : List Int => vTx m (pathL (p.map Int.toNat))) (xs := pcs) (p := fun _ => true) (g := fun p => p) (ev_name rfl) iterP_list (fun C p hp => trs_nil) (fun C p hp _ => ?_) (by rw [hft, List.length_map]; omega)) (by rw [hft, List.map_id'])
    obtain ⟨hp1, hp2⟩ := hrl p hp
    have hfl : ((p.map fun k : Int => 47 :: sg k.toNat).flatten).length ≤ 20 := by
      have h1 := flat_len (ls := p.map fun k : Int => 47 :: sg k.toNat) (b := 2) (fun q hq => by
        obtain ⟨k, _, rfl⟩ := List.mem_map.mp hq
        have := sgl k.toNat
        simp only [List.length_cons]
        omega)
      rw [List.length_map] at h1
      omega
    refine Ev.conv (ev_join (m := m) (ls := p.map fun k : Int => 47 :: sg k.toNat) (ev_item (R := nmV m) (l := [0, 1, 2, 3, 4, 5]) (k := 0) (x := 0) (ev_name rfl) ev_int (by omega) rfl) (ev_map (R := vInt) (R' := vTx m) (xs := p) (fun k : Int => 47 :: sg k.toNat) (ev_name rfl) iterP_list (fun C' k hk => ?_) (by omega)) (by omega)) (by rw [pathL_flat])
    exact ev_bin (ev_name (P := vTx m [47]) rfl) (ev_item (R := nmV m) (l := [0, 1, 2, 3, 4, 5]) (k := k) (x := k.toNat) (ev_name rfl) (ev_name rfl) (hp2 k hk).1 (hsig k (hp2 k hk).1 (hp2 k hk).2)) (op_add_tx (a := [47]) (b := sg k.toNat) (by have := sgl k.toNat; simp; omega))
  have rl6 : ∀ p : List Int, (rowOf p).length ≤ 5 := fun p => by
    unfold rowOf
    rw [List.length_map]
    have := List.length_filter_le (fun k : Int => decide (k ∈ p)) (rangeL 1 6)
    rw [rangeL_len] at this
    have e : ((6 : Int) - 1).toNat = 5 := rfl
    omega
  refine seq_next (x_assign (P := vList (vList (nmV m)) (rowsOf pcs)) i₇ rm' (ev_map (R := vList vInt) (R' := vList (nmV m)) (xs := pcs) rowOf (ev_name rfl) iterP_list (fun C p hp => ev_comp (R := vInt) (R' := nmV m) (xs := rangeL 1 6) (p := fun k => decide (k ∈ p)) (g := Int.toNat)
    (ev_callT (ev_blt G rfl rfl (by decide) rfl) (evl_cons (ev_int (i := 1)) (evl_cons (ev_int (i := 6)) evl_nil)) cl_range2) (iterP_range (by omega) (by omega))
    (fun C' k hk => trs_one (tr_cmp (ev_name (P := vInt k) rfl) (ev_name (P := vList vInt p) rfl) (op_in inj_int (fun a b => eqP_int) (by omega) k p)))
    (fun C' k hk _ => ev_item (R := nmV m) (l := [0, 1, 2, 3, 4, 5]) (k := k) (x := k.toNat) (ev_name rfl) (ev_name rfl) (by have := mem_rangeL.mp hk; omega) (hsig k (by have := mem_rangeL.mp hk; omega) (by have := mem_rangeL.mp hk; omega))) (by have := rl6 p; unfold rowOf at this; omega)) (by omega)) (.inr ⟨rfl, _, rfl⟩)) fun s₈ i₈ => ?_
  have rw10 : (rowsOf pcs).length ≤ 10 := by unfold rowsOf; rw [List.length_map]; exact hlen
  have rr10 : ∀ q ∈ rowsOf pcs, q.length ≤ 10 := fun q hq => by
    obtain ⟨p, _, rfl⟩ := List.mem_map.mp hq
    have := rl6 p
    omega
  refine seq_next (x_assign (P := vList (vList (nmV m)) (rowsOf pcs)) i₈ rm' (Ev.conv (ev_callF ho93 hd93 (ev_glob G rfl rfl) (evl_cons (Ev.conv (ev_name (P := vList (fun p : List Int => vTx m (pathL (p.map Int.toNat))) pcs) rfl) paths_of) evl_nil)
    (cl_read G (digs pcs) (by unfold digs; rw [List.length_map]; exact hlen) (fun ks hks => by obtain ⟨p, hp, rfl⟩ := List.mem_map.mp hks; rw [List.length_map]; exact (hrl p hp).1))) (by rw [H.read])) (.inl rfl)) fun s₉ i₉ => ?_
  refine x_if (b := false) i₉ rm' (Tr.conv (tr_cmp (ev_name rfl) (ev_name rfl) (op_ne (eqP_list (inj_list hR) (eqP_list hR hE) (rowsOf pcs) (rowsOf pcs)) (by omega))) (by simp)) (fun h => by cases h) fun _ s₁₀ i₁₀ => ?_
  refine wpAny_execs_nil ?_
  refine seq_next (x_assign (P := vList (vList (nmV m)) r) i₁₀ rm' (ev_callF ho98 hd98 (ev_glob G rfl rfl) (evl_cons (ev_name (P := vList (vList (nmV m)) (rowsOf pcs)) rfl) evl_nil) (cl_rnd G (rowsOf pcs) r H.rnd rw10 rr10)) (.inl rfl)) fun s₁₁ i₁₁ => ?_
  refine seq_next (x_assign (P := vList (vList (nmV m)) (dueOf (rowsOf pcs))) i₁₁ rm' (ev_callF ho03 hd03 (ev_glob G rfl rfl) (evl_cons (ev_name (P := vList (vList (nmV m)) (rowsOf pcs)) rfl) evl_nil) (cl_obo G hR hE (by omega) (rowsOf pcs))) (.inl rfl)) fun s₁₂ i₁₂ => ?_
  have hdl := H.dl
  obtain ⟨hr1, hr2⟩ := H.rl
  refine x_if (b := false) i₁₂ rm' (Tr.conv (tr_or (tr_cmp (ev_sorted (l := r) (by omega) (ev_blt G rfl rfl (by decide) rfl) (ev_name rfl)) (ev_sorted (l := dueOf (rowsOf pcs)) hdl (ev_blt G rfl rfl (by decide) rfl) (ev_name rfl)) (op_ne (eqP_list (inj_list hR) (eqP_list hR hE) _ _) (by omega)))
    (fun _ => tr_cmp (ev_callF ho81 hd81 (ev_glob G rfl rfl) (evl_cons (ev_rev (l := dueOf (rowsOf pcs)) (ev_name rfl) (ev_neg ev_int)) (evl_cons (ev_name (P := vList (vList (nmV m)) r) rfl) evl_nil)) (cl_cmp G (inj_list hR) (eqP_list hR hE) (by omega) _ _)) (ev_bool (b := true)) op_isNotB)) (by rw [H.sorted, H.cmp]; simp)) (fun h => by cases h) fun _ s₁₃ i₁₃ => ?_
  refine wpAny_execs_nil ?_
  have hon : (onceL (rowsOf pcs)).length ≤ 10 := by
    unfold onceL
    rw [List.length_map]
    have := List.length_filter_le (onceP [] (rowsOf pcs)) (rangeL 0 (rowsOf pcs).length)
    rw [rangeL_len] at this
    omega
  refine seq_next (x_comp (T := vList (vList (nmV m)) (onceL (rowsOf pcs))) i₁₃ rm' (cp_n (R := vInt) (R' := vList (nmV m)) (xs := rangeL 0 (rowsOf pcs).length) (p := onceP [] (rowsOf pcs)) (g := fun k => (rowsOf pcs).getD k.toNat [])
    (ev_callT (ev_blt G rfl rfl (by decide) rfl) (evl_cons (ev_callB (ev_blt G rfl rfl (by decide) rfl) (evl_cons (ev_name (P := vList (vList (nmV m)) (rowsOf pcs)) rfl) evl_nil) cl_len) evl_nil) cl_range1) (iterP_range (by omega) (by omega))
    (fun C k hk => ?_) (fun C k hk _ => ?_) (by unfold onceL at hon; omega)) (.inl rfl)) fun s₁₄ i₁₄ => ?_
  · obtain ⟨k1, k2⟩ := mem_rangeL.mp hk
    have hlt : k.toNat < (rowsOf pcs).length := by omega
    have hg : (rowsOf pcs)[k.toNat]? = some ((rowsOf pcs).getD k.toNat []) := by rw [List.getElem?_eq_getElem hlt]; simp [hlt]
    exact trs_one (tr_cmp (ev_item (l := rowsOf pcs) (k := k) (ev_name rfl) (ev_name rfl) k1 hg) (ev_take (l := rowsOf pcs) (k := k) (ev_name rfl) (ev_name rfl) k1) (op_notIn (inj_list hR) (eqP_list hR hE) (by omega) _ _))
  · obtain ⟨k1, k2⟩ := mem_rangeL.mp hk
    have hlt : k.toNat < (rowsOf pcs).length := by omega
    have hg : (rowsOf pcs)[k.toNat]? = some ((rowsOf pcs).getD k.toNat []) := by rw [List.getElem?_eq_getElem hlt]; simp [hlt]
    exact ev_item (l := rowsOf pcs) (k := k) (ev_name rfl) (ev_name rfl) k1 hg
  refine x_if (b := false) i₁₄ rm' (Tr.conv (tr_cmp (ev_callF ho81 hd81 (ev_glob G rfl rfl) (evl_cons (ev_name (P := vList (vList (nmV m)) r) rfl) (evl_cons (ev_name (P := vList (vList (nmV m)) (rowsOf pcs)) rfl) evl_nil)) (cl_cmp G (inj_list hR) (eqP_list hR hE) (by omega) _ _))
    (ev_cmp (ev_sorted (l := onceL (rowsOf pcs)) (by omega) (ev_blt G rfl rfl (by decide) rfl) (ev_name rfl)) (ev_sorted (l := dueOf (rowsOf pcs)) hdl (ev_blt G rfl rfl (by decide) rfl) (ev_name rfl)) (op_eq (eqP_list (inj_list hR) (eqP_list hR hE) _ _) (by omega))) op_isNotB) (by rw [H.cmp2]; simp)) (fun h => by cases h) fun _ s₁₅ i₁₅ => ?_
  refine wpAny_execs_nil ?_
  refine seq_next (x_assign (P := vInt (lack (rowsOf pcs))) i₁₅ rm' (ev_callF ho08 hd08 (ev_glob G rfl rfl) (evl_cons (ev_name (P := vList (vList (nmV m)) (rowsOf pcs)) rfl) evl_nil) (cl_lack G hR hE (by omega) (rowsOf pcs) rw10 rr10)) (.inl rfl)) fun s₁₆ i₁₆ => ?_
  refine x_if (b := false) i₁₆ rm' (Tr.conv (tr_cmp (ev_callF ho08 hd08 (ev_glob G rfl rfl) (evl_cons (ev_name (P := vList (vList (nmV m)) r) rfl) evl_nil) (cl_lack G hR hE (by omega) r hr1 hr2)) (ev_name rfl) (op_ne eqP_int (by omega))) (by rw [H.lack]; simp)) (fun h => by cases h) fun _ s₁₇ i₁₇ => ?_
  refine wpAny_execs_nil ?_
  refine x_ret i₁₇ rm' (ev_cmp (ev_cmp (ev_name (P := vInt (lack (rowsOf pcs))) rfl) ev_int (op_eq eqP_int (by omega))) (ev_cmp (ev_filter (R := vList (nmV m)) (xs := r) (fun q => !decide (q = [])) (ev_name rfl) iterP_list
    (fun C q hq => tr_cmp (ev_name (P := vList (nmV m) q) rfl) (ev_list (l := []) evl_nil (by simp)) (op_ne (eqP_list hR hE q []) (by omega))) (by omega)) (ev_list (l := []) evl_nil (by simp)) (op_eq (eqP_list (inj_list hR) (eqP_list hR hE) _ []) (by omega))) op_isB) fun z s' i p => ⟨i.kp, ?_⟩
  have hf := H.fin
  have p' : z = .bool _ := p
  rw [p', hf]
  show Value.bool _ = Value.bool true
  simp
end
end Mine
end

section
open PySem PySem.W PyProof.Rows PySem.Calls
set_option Elab.async false
set_option autoImplicit false
set_option linter.unusedVariables false
set_option maxRecDepth 100000
theorem Mine.intsAre_paired {W : Addr → Prop} {h : Heap} : ∀ {vs : List Value} {ns : List Int}, IntsAre vs ns → Paired (fun v x => (vInt x).ok W h v) vs ns
  | _, _, .nil => .nil
  | _, _, .cons n t r => .cons ⟨t, rfl⟩ (intsAre_paired r)
theorem Mine.holdsOf (L : ∀ ns : List Int, ∃ r, LawOK (pieces (ns.take 10)) r) : (PySem.Challenge.rw_op0014_01).Holds := by
  refine Mine.hd ?_
  intro w s₀ s₁ mg mb G Y fa o pm cd doc dV kV ho hd' hcd hD hmg hg args vals as hpre hlay hrd hwl hlo
  have KX := kIn_of Y
  refine Ground.open G ?_
  intro T B D TE TW
  have TR := topRead_of T
  have GD : Mine.Gd w s₁.heap mg mb := ⟨KX, TR.g, TR.b, TR.nolimit, TR.builtins⟩
  clear ho hd' hcd hD D
  have hfa : fa = 213 := by
    have h := mg_of (v := .ref 213) GD.kin GD.g (n := "law") rfl
    rw [hmg] at h
    cases h
    rfl
  subst hfa
  clear hmg
  wrow_args hpre hlay hrd hwl hlo
  rename_i ns hs0 hl0 hl1 hr0 hl2 as1 as2 a vs as3 hL ra w1 r0 hI hr1 hc1 hc2
  obtain ⟨r, HL⟩ := L ns
  obtain ⟨ol, hol, hcl, no, hdl⟩ := hL
  have hcl := cl_law (prog := PySem.Challenge.rw_op0014_01.row.prog) (n := 0) GD ns r HL (fun _ => False) [] callerA s₁ (fun _ _ => False) [.ref a] ⟨rfl, rfl, by decide +kernel, by decide +kernel⟩ ⟨fun _ _ e => e, trivial, fun _ q => q.elim, fun _ q => q.elim, fun _ q => by cases q⟩ (.cons ⟨by have := hc1; omega, a, vs, rfl, fun q => q, ⟨ol, no, hol, hcl, hdl⟩, intsAre_paired hI⟩ .nil)
  refine wpAny_mono hcl ?_ (fun _ _ x => x.elim)
  intro v s' hv
  obtain ⟨hk, hv⟩ := hv
  obtain rfl : v = .bool true := hv
  refine GoodW.toG ?_
  obtain ⟨h', tk, rfl, hk⟩ := hk
  refine ⟨.inl ⟨.bool true, .bool true, [], rfl, raisesW_false ?_, .bool true, ?_, unshared_nil⟩, fun b o e => (hk b o e).1 (fun q => by cases q), rfl, hg⟩
  · wrow_none_raised
  · wrow_post
end

section
open PySem PySem.W PyProof.Rows PySem.Calls
set_option Elab.async false
set_option autoImplicit false
set_option linter.unusedVariables false
set_option linter.unusedSectionVars false
set_option maxRecDepth 100000
namespace Mine
section
variable {α : Type} [DecidableEq α]
theorem nodup_len_le : ∀ {l m : List α}, l.Nodup → (∀ x ∈ l, x ∈ m) → l.length ≤ m.length
  | [], m, _, _ => Nat.zero_le _
  | a :: l, m, hn, hs => by
    obtain ⟨h1, h2⟩ := List.nodup_cons.mp hn
    have ha := hs a (.head _)
    have := nodup_len_le (l := l) (m := m.erase a) h2 fun x hx => (List.mem_erase_of_ne (fun (q : x = a) => h1 (by rw [← q]; exact hx))).mpr (hs x (.tail _ hx))
    rw [List.length_erase_of_mem ha] at this
    have : 0 < m.length := List.length_pos_of_mem ha
    simp only [List.length_cons]
    lia
theorem nodup_sub_eq {l m : List α} (hn : l.Nodup) (hs : ∀ x ∈ l, x ∈ m) (hl : m.length ≤ l.length) : ∀ x ∈ m, x ∈ l := by
  intro x hx
  by_cases q : x ∈ l
  · exact q
  · have := nodup_len_le (l := x :: l) (m := m) (List.nodup_cons.mpr ⟨q, hn⟩) fun y hy => by
      rcases List.mem_cons.mp hy with rfl | h
      · exact hx
      · exact hs y h
    simp only [List.length_cons] at this
    lia
theorem nodup_len_eq {l m : List α} (h1 : l.Nodup) (h2 : m.Nodup) (h : ∀ x, x ∈ l ↔ x ∈ m) : l.length = m.length :=
  Nat.le_antisymm (nodup_len_le h1 fun x q => (h x).mp q) (nodup_len_le h2 fun x q => (h x).mpr q)
theorem nodup_filter {l : List α} (h : l.Nodup) (p : α → Bool) : (l.filter p).Nodup := List.Sublist.nodup List.filter_sublist h
/-- how many different elements -/
def nd (l : List α) : Nat := (dedupL l).length
theorem nd_of {l m : List α} (hm : m.Nodup) (h : ∀ x, x ∈ m ↔ x ∈ l) : nd l = m.length :=
  nodup_len_eq (dedupL_nodup l) hm fun x => dedupL_mem.trans (h x).symm
theorem nd_congr {l m : List α} (h : ∀ x, x ∈ l ↔ x ∈ m) : nd l = nd m :=
  nd_of (dedupL_nodup m) fun x => dedupL_mem.trans (h x).symm
theorem dedupL_snoc (l : List α) (a : α) : dedupL (l ++ [a]) = if a ∈ dedupL l then dedupL l else dedupL l ++ [a] := by
  unfold dedupL
  rw [List.foldl_append]
  rfl
theorem nd_cons (a : α) (l : List α) : nd (a :: l) = if a ∈ l then nd l else nd l + 1 := by
  rw [nd_congr (m := l ++ [a]) (fun x => by simp [or_comm])]
  unfold nd
  rw [dedupL_snoc]
  simp only [dedupL_mem]
  split <;> simp
theorem nd_le (l : List α) : nd l ≤ l.length := dedupL_len l
theorem nd_nil : nd ([] : List α) = 0 := rfl
theorem nd_pos {l : List α} {x : α} (h : x ∈ l) : 0 < nd l := List.length_pos_of_mem (dedupL_mem.mpr h)
theorem nd_one {l : List α} (h : nd l ≤ 1) {x y : α} (hx : x ∈ l) (hy : y ∈ l) : x = y := by
  by_cases q : x = y
  · exact q
  · have := nodup_len_le (l := [x, y]) (m := dedupL l) (by simp [q]) fun z hz => by
      rcases List.mem_cons.mp hz with rfl | h
      · exact dedupL_mem.mpr hx
      · rw [List.mem_singleton.mp h]; exact dedupL_mem.mpr hy
    unfold nd at h
    simp only [List.length_cons, List.length_nil] at this
    lia
theorem nd_map {β γ : Type} [DecidableEq β] [DecidableEq γ] {l : List α} {f : α → β} {g : α → γ} (h : ∀ a ∈ l, ∀ b ∈ l, f a = f b ↔ g a = g b) : nd (l.map f) = nd (l.map g) := by
  induction l with
  | nil => rfl
  | cons a l ih =>
    rw [List.map_cons, List.map_cons, nd_cons, nd_cons, ih fun x hx y hy => h x (.tail _ hx) y (.tail _ hy)]
    have : f a ∈ l.map f ↔ g a ∈ l.map g := by
      simp only [List.mem_map]
      constructor
      · rintro ⟨x, hx, e⟩; exact ⟨x, hx, (h x (.tail _ hx) a (.head _)).mp e⟩
      · rintro ⟨x, hx, e⟩; exact ⟨x, hx, (h x (.tail _ hx) a (.head _)).mpr e⟩
    simp only [this]
theorem nd_split {β : Type} [DecidableEq β] {l : List α} {f : α → β} {sm : α → Bool} (h : l.Pairwise fun i j => (sm i = true ∨ sm j = true) → f i ≠ f j) : nd (l.map f) = (l.filter sm).length + nd ((l.filter fun x => !sm x).map f) := by
  induction l with
  | nil => rfl
  | cons a l ih =>
    obtain ⟨h1, h2⟩ := List.pairwise_cons.mp h
    rw [List.map_cons, nd_cons, ih h2]
    by_cases q : sm a = true
    · have : f a ∉ l.map f := fun m => by
        obtain ⟨x, hx, e⟩ := List.mem_map.mp m
        exact h1 x hx (.inl q) e.symm
      rw [if_neg this, List.filter_cons_of_pos (by exact q), List.filter_cons_of_neg (by simp [q]), List.length_cons]
      lia
    · rw [List.filter_cons_of_neg (by exact q), List.filter_cons_of_pos (by simpa using q), List.map_cons, nd_cons]
      have : f a ∈ l.map f ↔ f a ∈ (l.filter fun x => !sm x).map f := by
        simp only [List.mem_map, List.mem_filter]
        constructor
        · rintro ⟨x, hx, e⟩
          refine ⟨x, ⟨hx, ?_⟩, e⟩
          by_cases qx : sm x = true
          · exact absurd e.symm (h1 x hx (.inr qx))
          · simpa using qx
        · rintro ⟨x, ⟨hx, _⟩, e⟩; exact ⟨x, hx, e⟩
      simp only [this]
      split <;> lia
/-- one label becomes another -/
theorem nd_merge {l : List α} {a b : α} (hab : a ≠ b) : nd (l.map fun x => if x = b then a else x) + (if a ∈ l ∧ b ∈ l then 1 else 0) = nd l := by
  by_cases hb : b ∈ l
  · by_cases ha : a ∈ l
    · rw [if_pos ⟨ha, hb⟩]
      have hd := dedupL_nodup l
      have hbd : b ∈ dedupL l := dedupL_mem.mpr hb
      rw [nd_of (m := (dedupL l).erase b) (hd.erase b) ?_, List.length_erase_of_mem hbd]
      · have := List.length_pos_of_mem hbd
        unfold nd; lia
      · intro x
        rw [hd.mem_erase_iff, dedupL_mem]
        simp only [List.mem_map]
        constructor
        · rintro ⟨h1, h2⟩; exact ⟨x, h2, if_neg h1⟩
        · rintro ⟨y, hy, e⟩
          split at e
          · subst e; exact ⟨hab, ha⟩
          · subst e; exact ⟨‹_›, hy⟩
    · rw [if_neg (fun h => ha h.1), Nat.add_zero]
      rw [nd_map (g := fun x => x)]
      · rw [List.map_id']
      · intro x hx y hy
        have hxa : x ≠ a := fun q => ha (q ▸ hx)
        have hya : y ≠ a := fun q => ha (q ▸ hy)
        by_cases h1 : x = b
        · by_cases h2 : y = b
          · rw [if_pos h1, if_pos h2, h1, h2]; simp
          · rw [if_pos h1, if_neg h2]
            exact ⟨fun e => absurd e.symm hya, fun e => absurd (e.symm.trans h1) h2⟩
        · by_cases h2 : y = b
          · rw [if_neg h1, if_pos h2]
            exact ⟨fun e => absurd e hxa, fun e => absurd (e.trans h2) h1⟩
          · rw [if_neg h1, if_neg h2]
  · rw [if_neg (fun h => hb h.2), Nat.add_zero]
    congr 1
    conv => rhs; rw [← List.map_id' l]
    refine List.map_congr_left fun x hx => if_neg fun (q : x = b) => hb (by rw [← q]; exact hx)
/-- the first of each -/
theorem first_dedup (d : α) (l : List α) : ((rangeL 0 l.length).filter (onceP d l)).map (fun k => l.getD k.toNat d) = dedupL l := by
  have key : ∀ k, k ≤ l.length → ((rangeL 0 k).filter (onceP d l)).map (fun k => l.getD k.toNat d) = dedupL (l.take k) := by
    intro k
    induction k with
    | zero => intro _; rfl
    | succ k ih =>
      intro hk
      have hlt : k < l.length := by lia
      have hr : rangeL 0 ((k + 1 : Nat) : Int) = rangeL 0 k ++ [(k : Int)] := by
        unfold rangeL
        rw [show (((k + 1 : Nat) : Int) - 0).toNat = k + 1 from by lia, show ((k : Int) - 0).toNat = k from by lia, List.range_succ, List.map_append]
        simp
      rw [hr, List.filter_append, List.map_append, ih (by lia), List.take_add_one, List.getElem?_eq_getElem hlt]
      show _ = dedupL (l.take k ++ [l[k]])
      rw [dedupL_snoc]
      have hg : l.getD k d = l[k] := by simp [hlt]
      have hp : onceP d l (k : Int) = !decide (l[k] ∈ l.take k) := by
        unfold onceP
        rw [Int.toNat_natCast, hg]
      simp only [dedupL_mem]
      by_cases q : l[k] ∈ l.take k
      · simp [List.filter, hp, q]
      · simp [List.filter, hp, q, hlt]
  have := key l.length (Nat.le_refl _)
  rwa [List.take_length] at this
end
theorem onceL_eq (rows : List (List Nat)) : onceL rows = dedupL rows := first_dedup [] rows
/-- sorted rows -/
def Srt (r : List Nat) : Prop := r.Pairwise (· < ·)
theorem Srt.nodup {r : List Nat} (h : Srt r) : r.Nodup := List.nodup_iff_pairwise_ne.mpr (List.Pairwise.imp (fun h => Nat.ne_of_lt h) h)
theorem srt_ext : ∀ {l m : List Nat}, Srt l → Srt m → (∀ x, x ∈ l ↔ x ∈ m) → l = m
  | [], [], _, _, _ => rfl
  | [], b :: m, _, _, h => by have := (h b).mpr (.head _); cases this
  | a :: l, [], _, _, h => by have := (h a).mp (.head _); cases this
  | a :: l, b :: m, h1, h2, h => by
    obtain ⟨h1a, h1b⟩ := List.pairwise_cons.mp h1
    obtain ⟨h2a, h2b⟩ := List.pairwise_cons.mp h2
    have hab : a = b := by
      have ha := (h a).mp (.head _)
      have hb := (h b).mpr (.head _)
      rcases List.mem_cons.mp ha with e | ha
      · exact e
      · rcases List.mem_cons.mp hb with e | hb
        · exact e.symm
        · have := h2a a ha
          have := h1a b hb
          lia
    subst hab
    congr 1
    refine srt_ext h1b h2b fun x => ?_
    constructor
    · intro hx
      have := h1a x hx
      rcases List.mem_cons.mp ((h x).mp (.tail _ hx)) with rfl | q
      · lia
      · exact q
    · intro hx
      have := h2a x hx
      rcases List.mem_cons.mp ((h x).mpr (.tail _ hx)) with rfl | q
      · lia
      · exact q
theorem srt_filter {r : List Nat} (h : Srt r) (p : Nat → Bool) : Srt (r.filter p) := List.Pairwise.filter p h
end Mine
end

section
open PySem PySem.W PyProof.Rows PySem.Calls
set_option Elab.async false
set_option autoImplicit false
set_option linter.unusedVariables false
set_option linter.unusedSectionVars false
set_option maxRecDepth 100000
namespace Mine
theorem mem_flt {α : Type} {p : α → Bool} {l : List α} {x : α} (h : x ∈ l.filter p) : x ∈ l := (List.mem_filter.mp h).1
/-! ## pieces -/
theorem pcD_rng (x : Int) : 0 ≤ pcD x ∧ pcD x < 6 := by
  unfold pcD
  split
  · have h1 := Int.fmod_nonneg (a := x.fmod 11 - 1) (b := 5) 
    have h2 := Int.fmod_lt_of_pos (x.fmod 11 - 1) (b := 5) (by lia)
    have h3 : 0 ≤ (x.fmod 11 - 1).fmod 5 := Int.fmod_nonneg_of_pos _ (by lia)
    lia
  · lia
def PcOK (k : Nat) (pcs : List (List Int)) : Prop := pcs.length ≤ k ∧ ∀ p ∈ pcs, p.length ≤ k ∧ ∀ d ∈ p, 0 ≤ d ∧ d < 6
theorem pcStep_ok {k : Nat} {pcs : List (List Int)} (h : PcOK k pcs) (x : Int) : PcOK (k + 1) (pcStep pcs x) := by
  obtain ⟨h1, h2⟩ := h
  have hx := pcD_rng x
  rcases nil_or_snoc pcs with rfl | ⟨pre, cur, rfl⟩
  · refine ⟨?_, fun p hp => ?_⟩
    · show ([[pcD x]] : List (List Int)).length ≤ _
      simp
    · have hp : p ∈ [[pcD x]] := hp
      rw [List.mem_singleton.mp hp]
      exact ⟨by simp, fun d hd => by rw [List.mem_singleton.mp hd]; exact hx⟩
  · rw [pcStep_snoc]
    split
    · refine ⟨by simp at h1 ⊢; lia, fun p hp => ?_⟩
      rcases List.mem_append.mp hp with q | q
      · have := h2 p q
        exact ⟨by lia, this.2⟩
      · rw [List.mem_singleton.mp q]
        exact ⟨by simp, fun d hd => by rw [List.mem_singleton.mp hd]; exact hx⟩
    · refine ⟨by simp at h1 ⊢; lia, fun p hp => ?_⟩
      rcases List.mem_append.mp hp with q | q
      · have := h2 p (List.mem_append_left _ q)
        exact ⟨by lia, this.2⟩
      · rw [List.mem_singleton.mp q]
        have := h2 cur (by simp)
        refine ⟨by simp; lia, fun d hd => ?_⟩
        rcases List.mem_append.mp hd with q | q
        · exact this.2 d q
        · rw [List.mem_singleton.mp q]; exact hx
theorem pieces_ok (ns : List Int) : PcOK ns.length (pieces ns) := by
  unfold pieces
  have key : ∀ (l : List Int) (k : Nat) (acc : List (List Int)), PcOK k acc → PcOK (k + l.length) (l.foldl pcStep acc) := by
    intro l
    induction l with
    | nil => intro k acc h; exact h
    | cons x l ih =>
      intro k acc h
      have := ih (k + 1) (pcStep acc x) (pcStep_ok h x)
      rw [List.length_cons, List.foldl_cons]
      rwa [show k + (l.length + 1) = k + 1 + l.length from by lia]
  have := key ns 0 [] ⟨Nat.le_refl _, fun p hp => by cases hp⟩
  rwa [Nat.zero_add] at this
/-! ## rows -/
def RowG (r : List Nat) : Prop := Srt r ∧ ∀ x ∈ r, 1 ≤ x ∧ x ≤ 5
def Good (H : List (List Nat)) : Prop := ∀ r ∈ H, RowG r
theorem RowG.filter {r : List Nat} (h : RowG r) (p : Nat → Bool) : RowG (r.filter p) := ⟨srt_filter h.1 p, fun x hx => h.2 x (mem_flt hx)⟩
theorem mem_rowOf {p : List Int} {x : Nat} : x ∈ rowOf p ↔ 1 ≤ x ∧ x ≤ 5 ∧ (x : Int) ∈ p := by
  unfold rowOf
  simp only [List.mem_map, List.mem_filter, mem_rangeL, decide_eq_true_eq]
  constructor
  · rintro ⟨k, ⟨⟨h1, h2⟩, h3⟩, rfl⟩
    refine ⟨by lia, by lia, ?_⟩
    rwa [show ((k.toNat : Nat) : Int) = k from by lia]
  · rintro ⟨h1, h2, h3⟩
    exact ⟨x, ⟨⟨by lia, by lia⟩, h3⟩, by lia⟩
theorem rowOf_srt (p : List Int) : Srt (rowOf p) := by
  unfold rowOf Srt
  have h : rangeL 1 6 = [1, 2, 3, 4, 5] := rfl
  rw [List.pairwise_map]
  have hp : ([1, 2, 3, 4, 5] : List Int).Pairwise (fun a b => a.toNat < b.toNat) := by decide
  rw [h]
  exact List.Pairwise.filter _ hp
theorem rowOf_good (p : List Int) : RowG (rowOf p) := ⟨rowOf_srt p, fun x hx => ⟨(mem_rowOf.mp hx).1, (mem_rowOf.mp hx).2.1⟩⟩
theorem rowsOf_good (pcs : List (List Int)) : Good (rowsOf pcs) := fun r hr => by
  obtain ⟨p, _, rfl⟩ := List.mem_map.mp hr
  exact rowOf_good p
theorem natO_kle {a b : Nat} : natO.kle a b ↔ a ≤ b := by
  show decide (b < a) = false ↔ _
  simp
theorem rd_srt (ks : List Nat) : Srt (rd ks) := by
  have h1 := sortL_sorted (O := natO) (rd0 ks)
  have h2 : (rd ks).Nodup := (sortL_perm (O := natO) (rd0 ks)).nodup_iff.mpr (dedupL_nodup _)
  have h3 : (rd ks).Pairwise (fun a b => a ≠ b) := List.nodup_iff_pairwise_ne.mp h2
  have h4 : (rd ks).Pairwise (fun a b : Nat => a ≤ b) := List.Pairwise.imp (fun h => natO_kle.mp h) h1
  exact List.Pairwise.imp (fun ⟨h, h'⟩ => by lia) (List.Pairwise.and h4 h3)
theorem mem_rd {ks : List Nat} {x : Nat} : x ∈ rd ks ↔ x ∈ ks ∧ x ≠ 0 := by
  have h1 : x ∈ rd ks ↔ x ∈ rd0 ks := (sortL_perm (O := natO) (rd0 ks)).mem_iff
  rw [h1]
  unfold rd0
  rw [dedupL_mem]
  simp only [List.mem_filter, List.mem_cons]
  constructor
  · rintro ⟨h | h, h'⟩ <;> simp_all
  · rintro ⟨h, h'⟩; simp_all
theorem rd_row {p : List Int} (h : ∀ k ∈ p, 0 ≤ k ∧ k < 6) : rd (p.map Int.toNat) = rowOf p := by
  refine srt_ext (rd_srt _) (rowOf_srt _) fun x => ?_
  rw [mem_rd, mem_rowOf]
  simp only [List.mem_map]
  constructor
  · rintro ⟨⟨k, hk, rfl⟩, h0⟩
    have := h k hk
    refine ⟨by lia, by lia, ?_⟩
    rwa [show ((k.toNat : Nat) : Int) = k from by lia]
  · rintro ⟨h1, h2, h3⟩
    exact ⟨⟨x, h3, by lia⟩, by lia⟩
theorem read_rows {pcs : List (List Int)} (h : ∀ p ∈ pcs, ∀ k ∈ p, 0 ≤ k ∧ k < 6) : (digs pcs).map rd = rowsOf pcs := by
  unfold digs rowsOf
  rw [List.map_map]
  exact List.map_congr_left fun p hp => rd_row (h p hp)
/-! ## confluence -/
def Mx (S : Nat → Bool) (H : List (List Nat)) (e : List Nat) : Prop := (∃ r ∈ H, r.filter S = e) ∧ ∀ r ∈ H, (∀ x ∈ e, x ∈ r.filter S) → r.filter S = e
def Stuck (S : Nat → Bool) (H : List (List Nat)) : Prop := ∀ x, S x = true → ∃ e1 e2, e1 ≠ e2 ∧ Mx S H e1 ∧ Mx S H e2 ∧ x ∈ e1 ∧ x ∈ e2
def Rel (H H' : List (List Nat)) : Prop := ∀ S, (Stuck S H ↔ Stuck S H') ∧ (Stuck S H → ∀ e, Mx S H e ↔ Mx S H' e)
theorem Rel.refl (H : List (List Nat)) : Rel H H := fun S => ⟨Iff.rfl, fun _ _ => Iff.rfl⟩
theorem Rel.symm {H H' : List (List Nat)} (h : Rel H H') : Rel H' H := fun S => ⟨(h S).1.symm, fun q e => ((h S).2 ((h S).1.mpr q) e).symm⟩
theorem Rel.trans {H H' H'' : List (List Nat)} (h : Rel H H') (h' : Rel H' H'') : Rel H H'' := fun S =>
  ⟨(h S).1.trans (h' S).1, fun q e => ((h S).2 q e).trans ((h' S).2 ((h S).1.mp q) e)⟩
/-- a step that lets contained rows go -/
def E2 (H H' : List (List Nat)) : Prop := (∀ r ∈ H', r ∈ H) ∧ ∀ r ∈ H, ∃ q ∈ H', ∀ x ∈ r, x ∈ q
/-- a step that lets lonely names go -/
def E1 (K : Nat → Bool) (H H' : List (List Nat)) : Prop := (∀ r', r' ∈ H' ↔ ∃ r ∈ H, r.filter K = r') ∧ ∀ x, K x = false → ∀ r1 ∈ H, ∀ r2 ∈ H, x ∈ r1 → x ∈ r2 → r1 = r2
theorem E2.mx {H H' : List (List Nat)} (h : E2 H H') (g : Good H) (S : Nat → Bool) (e : List Nat) : Mx S H e ↔ Mx S H' e := by
  obtain ⟨h1, h2⟩ := h
  constructor
  · rintro ⟨⟨r, hr, rfl⟩, hm⟩
    refine ⟨?_, fun q hq hs => hm q (h1 q hq) hs⟩
    obtain ⟨q, hq, hs⟩ := h2 r hr
    refine ⟨q, hq, hm q (h1 q hq) fun x hx => ?_⟩
    rw [List.mem_filter] at hx ⊢
    exact ⟨hs x hx.1, hx.2⟩
  · rintro ⟨⟨r, hr, rfl⟩, hm⟩
    refine ⟨⟨r, h1 r hr, rfl⟩, fun p hp hs => ?_⟩
    obtain ⟨q, hq, hpq⟩ := h2 p hp
    have hpq' : ∀ x ∈ p.filter S, x ∈ q.filter S := fun x hx => by
      rw [List.mem_filter] at hx ⊢
      exact ⟨hpq x hx.1, hx.2⟩
    have := hm q hq fun x hx => hpq' x (hs x hx)
    refine srt_ext (srt_filter (g p hp).1 S) (srt_filter (g r (h1 r hr)).1 S) fun x => ⟨fun hx => ?_, hs x⟩
    rw [← this]
    exact hpq' x hx
theorem E2.rel {H H' : List (List Nat)} (h : E2 H H') (g : Good H) : Rel H H' := fun S =>
  have m := h.mx g S
  ⟨by unfold Stuck; simp only [m], fun _ e => m e⟩
theorem E1.mx {K : Nat → Bool} {H H' : List (List Nat)} (h : E1 K H H') {S : Nat → Bool} (hS : ∀ x, S x = true → K x = true) (e : List Nat) : Mx S H e ↔ Mx S H' e := by
  have hf : ∀ r : List Nat, (r.filter K).filter S = r.filter S := fun r => by
    rw [List.filter_filter]
    refine List.filter_congr fun x _ => ?_
    cases q : S x
    · simp
    · simp [hS x q]
  have key : ∀ P : List Nat → Prop, (∃ r ∈ H, P (r.filter S)) ↔ ∃ r ∈ H', P (r.filter S) := by
    intro P
    constructor
    · rintro ⟨r, hr, hp⟩
      exact ⟨r.filter K, (h.1 _).mpr ⟨r, hr, rfl⟩, by rwa [hf]⟩
    · rintro ⟨r, hr, hp⟩
      obtain ⟨q, hq, rfl⟩ := (h.1 _).mp hr
      exact ⟨q, hq, by rwa [hf] at hp⟩
  have key2 : ∀ P : List Nat → Prop, (∀ r ∈ H, P (r.filter S)) ↔ ∀ r ∈ H', P (r.filter S) := by
    intro P
    constructor
    · intro hp r hr
      obtain ⟨q, hq, rfl⟩ := (h.1 _).mp hr
      rw [hf]
      exact hp q hq
    · intro hp r hr
      have := hp (r.filter K) ((h.1 _).mpr ⟨r, hr, rfl⟩)
      rwa [hf] at this
  unfold Mx
  rw [key (fun v => v = e), key2 (fun v => (∀ x ∈ e, x ∈ v) → v = e)]
theorem E1.rel {K : Nat → Bool} {H H' : List (List Nat)} (h : E1 K H H') : Rel H H' := fun S => by
  have a : Stuck S H → ∀ x, S x = true → K x = true := fun st x hx => by
    obtain ⟨e1, e2, hne, ⟨⟨r1, hr1, q1⟩, _⟩, ⟨⟨r2, hr2, q2⟩, _⟩, h1, h2⟩ := st x hx
    cases q : K x
    · refine absurd ?_ hne
      rw [← q1, ← q2]
      rw [← q1] at h1
      rw [← q2] at h2
      rw [h.2 x q r1 hr1 r2 hr2 (mem_flt h1) (mem_flt h2)]
    · rfl
  have b : Stuck S H' → ∀ x, S x = true → K x = true := fun st x hx => by
    obtain ⟨e1, e2, hne, ⟨⟨r1, hr1, q1⟩, _⟩, _, h1, h2⟩ := st x hx
    obtain ⟨r, hr, rfl⟩ := (h.1 _).mp hr1
    rw [← q1] at h1
    exact (List.mem_filter.mp (mem_flt h1)).2
  refine ⟨⟨fun st => ?_, fun st => ?_⟩, fun st e => h.mx (a st) e⟩
  · have m := h.mx (a st)
    intro x hx
    obtain ⟨e1, e2, hne, m1, m2, h1, h2⟩ := st x hx
    exact ⟨e1, e2, hne, (m e1).mp m1, (m e2).mp m2, h1, h2⟩
  · have m := h.mx (b st)
    intro x hx
    obtain ⟨e1, e2, hne, m1, m2, h1, h2⟩ := st x hx
    exact ⟨e1, e2, hne, (m e1).mpr m1, (m e2).mpr m2, h1, h2⟩
/-- nothing more to do -/
structure Irr (H : List (List Nat)) : Prop where
  nodup : H.Nodup
  anti : ∀ r ∈ H, ∀ q ∈ H, (∀ x ∈ r, x ∈ q) → r = q
  two : ∀ r ∈ H, ∀ x ∈ r, ∃ q ∈ H, q ≠ r ∧ x ∈ q
def nmS (H : List (List Nat)) (x : Nat) : Bool := decide (∃ r ∈ H, x ∈ r)
theorem Irr.mx {H : List (List Nat)} (h : Irr H) (e : List Nat) : Mx (nmS H) H e ↔ e ∈ H := by
  have hf : ∀ r ∈ H, r.filter (nmS H) = r := fun r hr => List.filter_eq_self.mpr fun x hx => decide_eq_true ⟨r, hr, hx⟩
  constructor
  · rintro ⟨⟨r, hr, rfl⟩, _⟩
    rwa [hf r hr]
  · intro he
    refine ⟨⟨e, he, hf e he⟩, fun r hr hs => ?_⟩
    rw [hf r hr] at hs ⊢
    exact (h.anti e he r hr hs).symm
theorem Irr.stuck {H : List (List Nat)} (h : Irr H) : Stuck (nmS H) H := fun x hx => by
  obtain ⟨r, hr, hxr⟩ := of_decide_eq_true hx
  obtain ⟨q, hq, hne, hxq⟩ := h.two r hr x hxr
  exact ⟨q, r, hne, (h.mx q).mpr hq, (h.mx r).mpr hr, hxq, hxr⟩
theorem irr_uniq {H H' : List (List Nat)} (h : Irr H) (h' : Irr H') (hr : Rel H H') (e : List Nat) : e ∈ H ↔ e ∈ H' := by
  have sub : ∀ {A B : List (List Nat)}, Irr A → Irr B → Rel A B → ∀ x, nmS A x = true → nmS B x = true := by
    intro A B ha hb r x hx
    obtain ⟨e1, _, _, ⟨⟨q, hq, rfl⟩, _⟩, _, h1, _⟩ := ((r (nmS A)).1.mp ha.stuck) x hx
    exact decide_eq_true ⟨q, hq, mem_flt h1⟩
  have hN : nmS H = nmS H' := by
    funext x
    cases q : nmS H x <;> cases q' : nmS H' x
    · rfl
    · rw [sub h' h hr.symm x q'] at q; cases q
    · rw [sub h h' hr x q] at q'; cases q'
    · rfl
  rw [← h.mx e, (hr (nmS H)).2 h.stuck e, hN, h'.mx e]
end Mine
end

section
open PySem PySem.W PyProof.Rows PySem.Calls
set_option Elab.async false
set_option autoImplicit false
set_option linter.unusedVariables false
set_option linter.unusedSectionVars false
set_option maxRecDepth 100000
namespace Mine
theorem rowG_len {r : List Nat} (h : RowG r) : r.length ≤ 5 :=
  nodup_len_le (m := [1, 2, 3, 4, 5]) h.1.nodup fun x hx => by
    have := h.2 x hx
    simp only [List.mem_cons, List.not_mem_nil]
    lia
theorem rdNames_cons (r : List Nat) (H : List (List Nat)) : rdNames (r :: H) = r ++ rdNames H := by
  unfold rdNames
  rw [List.flatMap_cons, List.map_id']
theorem mem_rdNames {H : List (List Nat)} {x : Nat} : x ∈ rdNames H ↔ ∃ r ∈ H, x ∈ r := by
  unfold rdNames
  simp only [List.mem_flatMap, List.mem_map]
  constructor
  · rintro ⟨r, hr, y, hy, rfl⟩; exact ⟨r, hr, hy⟩
  · rintro ⟨r, hr, hx⟩; exact ⟨r, hr, x, hx, rfl⟩
theorem cntN {H : List (List Nat)} (g : Good H) (x : Nat) : (rdNames H).count x = (H.filter fun r => decide (x ∈ r)).length := by
  induction H with
  | nil => rfl
  | cons r H ih =>
    rw [rdNames_cons, List.count_append, ih fun q hq => g q (.tail _ hq)]
    by_cases q : x ∈ r
    · rw [List.filter_cons_of_pos (by simpa using q), count_one (g r (.head _)).1.nodup q, List.length_cons]
      lia
    · rw [List.filter_cons_of_neg (by simpa using q), List.count_eq_zero.mpr q]
      lia
theorem mem_shared {left : List (List Nat)} {x : Nat} : x ∈ rdShared left ↔ 2 ≤ (rdNames left).count x := by
  unfold rdShared toldL
  simp only [List.mem_map, List.mem_filter, dedupL_mem]
  constructor
  · rintro ⟨y, ⟨⟨e, ⟨he, h1⟩, rfl⟩, _⟩, rfl⟩
    have := List.count_pos_iff.mpr he
    simp at h1
    show 2 ≤ (rdNames left).count e
    lia
  · intro h
    refine ⟨(((rdNames left).count x : Int), 1, x), ⟨⟨x, ⟨List.count_pos_iff.mp (by lia), ?_⟩, rfl⟩, ?_⟩, rfl⟩
    · simp; lia
    · simp
/-- two rows bear a shared name -/
theorem shared_two {H : List (List Nat)} (g : Good H) (hn : H.Nodup) {x : Nat} (h : 2 ≤ (rdNames H).count x) (r : List Nat) : ∃ q ∈ H, q ≠ r ∧ x ∈ q := by
  rw [cntN g] at h
  refine Classical.byContradiction fun no => ?_
  have := nodup_len_le (l := H.filter fun r => decide (x ∈ r)) (m := [r]) (nodup_filter hn _) fun q hq => by
    rw [List.mem_filter] at hq
    by_cases e : q = r
    · rw [e]; exact .head _
    · exact absurd ⟨q, hq.1, e, by simpa using hq.2⟩ no
  simp only [List.length_cons, List.length_nil] at this
  lia
theorem lone_one {H : List (List Nat)} (g : Good H) {x : Nat} (h : ¬ 2 ≤ (rdNames H).count x) {r1 r2 : List Nat} (h1 : r1 ∈ H) (h2 : r2 ∈ H) (x1 : x ∈ r1) (x2 : x ∈ r2) : r1 = r2 := by
  rw [cntN g] at h
  refine Classical.byContradiction fun no => h ?_
  have := nodup_len_le (l := [r1, r2]) (m := H.filter fun r => decide (x ∈ r)) (by simp [no]) fun q hq => by
    rw [List.mem_filter]
    rcases List.mem_cons.mp hq with rfl | hq
    · exact ⟨h1, by simpa using x1⟩
    · rw [List.mem_singleton.mp hq]; exact ⟨h2, by simpa using x2⟩
  simpa using this
theorem ulist_nil : ∀ {xs ms ac : List Nat}, xs.Nodup → (ulist xs ms ac = [] ↔ ms = [] ∧ ∀ x ∈ xs, x ∈ ac)
  | [], ms, ac, _ => by simp [ulist]
  | x :: xs, ms, ac, hn => by
    obtain ⟨h1, h2⟩ := List.nodup_cons.mp hn
    unfold ulist
    by_cases q : x ∈ ac
    · rw [if_pos q, ulist_nil h2]
      refine and_congr_right fun _ => ?_
      constructor
      · intro h y hy
        rcases List.mem_cons.mp hy with rfl | hy
        · exact q
        · exact List.mem_of_mem_erase (h y hy)
      · intro h y hy
        exact (List.mem_erase_of_ne (fun (e : y = x) => h1 (e ▸ hy))).mpr (h y (.tail _ hy))
    · rw [if_neg q, ulist_nil h2]
      constructor
      · rintro ⟨h, _⟩; simp at h
      · rintro ⟨_, h⟩; exact absurd (h x (.head _)) q
theorem ulDiff_nil {l m : List Nat} (h : l.Nodup) : ulDiff l m = [] ↔ ∀ x ∈ l, x ∈ m := by
  unfold ulDiff
  rw [ulist_nil ((List.reverse_perm l).nodup_iff.mpr h)]
  simp
theorem rdTop_iff {F : List (List Nat)} {r : List Nat} (h : r.Nodup) : rdTop F r = true ↔ ∀ o ∈ F, (∀ x ∈ r, x ∈ o) → o = r := by
  unfold rdTop
  rw [decide_eq_true_eq, List.filter_eq_nil_iff]
  constructor
  · intro k o ho hs
    have := k o ho
    simp only [Bool.and_eq_true, Bool.not_eq_true', decide_eq_false_iff_not, decide_eq_true_eq, not_and] at this
    by_cases e : o = r
    · exact e
    · exact absurd ((ulDiff_nil h).mpr hs) (this e)
  · intro k o ho
    simp only [Bool.and_eq_true, Bool.not_eq_true', decide_eq_false_iff_not, decide_eq_true_eq, not_and]
    intro hne hd
    exact hne (k o ho ((ulDiff_nil h).mp hd))
theorem mem_rdFewer {left : List (List Nat)} {r : List Nat} : r ∈ rdFewer left ↔ ∃ q ∈ left, q.filter (fun x => decide (x ∈ rdShared left)) = r := by
  unfold rdFewer
  rw [dedupL_mem]
  simp only [List.mem_map]
theorem rdFewer_good {left : List (List Nat)} (g : Good left) : Good (rdFewer left) := fun r hr => by
  obtain ⟨q, hq, rfl⟩ := mem_rdFewer.mp hr
  exact (g q hq).filter _
theorem rd_e1 {left : List (List Nat)} (g : Good left) : E1 (fun x => decide (x ∈ rdShared left)) left (rdFewer left) :=
  ⟨fun r => mem_rdFewer, fun x hx r1 h1 r2 h2 => lone_one g (fun q => of_decide_eq_false hx (mem_shared.mpr q)) h1 h2⟩
theorem top_above {F : List (List Nat)} (g : Good F) : ∀ (k : Nat) (r : List Nat), r ∈ F → 5 - r.length < k → ∃ q ∈ F.filter (rdTop F), ∀ x ∈ r, x ∈ q := by
  intro k
  induction k with
  | zero => intro r _ h; lia
  | succ k ih =>
    intro r hr hk
    cases q : rdTop F r
    · have hno : ¬ ∀ o ∈ F, (∀ x ∈ r, x ∈ o) → o = r := fun h => by rw [(rdTop_iff (g r hr).1.nodup).mpr h] at q; cases q
      obtain ⟨o, hno⟩ := Classical.not_forall.mp hno
      obtain ⟨ho, hno⟩ := Classical.not_imp.mp hno
      obtain ⟨hs, hne⟩ := Classical.not_imp.mp hno
      have hl : r.length < o.length := by
        rcases Nat.lt_or_ge r.length o.length with q | q
        · exact q
        · exact absurd (srt_ext (g o ho).1 (g r hr).1 fun x => ⟨nodup_sub_eq (g r hr).1.nodup hs q x, hs x⟩) hne
      have h5 := rowG_len (g o ho)
      obtain ⟨q, hq, hs'⟩ := ih o ho (by lia)
      exact ⟨q, hq, fun x hx => hs' x (hs x hx)⟩
    · exact ⟨r, List.mem_filter.mpr ⟨hr, q⟩, fun x hx => hx⟩
theorem rd_e2 {left : List (List Nat)} (g : Good left) : E2 (rdFewer left) (rdKept left) :=
  ⟨fun r hr => mem_flt hr, fun r hr => top_above (rdFewer_good g) 6 r hr (by lia)⟩
theorem rdKept_good {left : List (List Nat)} (g : Good left) : Good (rdKept left) := fun r hr => rdFewer_good g r (mem_flt hr)
theorem rd_rel {left : List (List Nat)} (g : Good left) : Rel left (rdKept left) := (rd_e1 g).rel.trans ((rd_e2 g).rel (rdFewer_good g))
theorem rdKept_nodup (left : List (List Nat)) : (rdKept left).Nodup := nodup_filter (dedupL_nodup _) _
theorem rdKept_anti {left : List (List Nat)} (g : Good left) : ∀ r ∈ rdKept left, ∀ q ∈ rdKept left, (∀ x ∈ r, x ∈ q) → r = q := fun r hr q hq hs => by
  obtain ⟨h1, h2⟩ := List.mem_filter.mp hr
  exact ((rdTop_iff (rdFewer_good g r h1).1.nodup).mp h2 q (mem_flt hq) hs).symm
theorem rd_fix_irr {r : List (List Nat)} (g : Good r) (h : rdKept r = r) : Irr r := by
  have hn : r.Nodup := h ▸ rdKept_nodup r
  refine ⟨hn, ?_, ?_⟩
  · have := rdKept_anti g
    rwa [h] at this
  · intro p hp x hx
    rw [← h] at hp
    obtain ⟨q, hq, rfl⟩ := mem_rdFewer.mp (mem_flt hp)
    have hs := (List.mem_filter.mp hx).2
    exact shared_two g hn (mem_shared.mp (of_decide_eq_true hs)) _
theorem dd_self {α : Type} [DecidableEq α] : ∀ (l acc : List α), (acc ++ l).Nodup → l.foldl (fun acc x => if x ∈ acc then acc else acc ++ [x]) acc = acc ++ l := by
  intro l
  induction l with
  | nil => intro acc _; simp
  | cons a l ih =>
    intro acc h
    rw [List.foldl_cons, if_neg, ih]
    · simp
    · simpa using h
    · intro q
      rw [List.nodup_append] at h
      exact h.2.2 a q a (.head _) rfl
theorem dedupL_self {α : Type} [DecidableEq α] {l : List α} (h : l.Nodup) : dedupL l = l := dd_self l [] (by simpa using h)
/-- where no name is lonely, an antichain stays -/
theorem irr_fix {H : List (List Nat)} (g : Good H) (hn : H.Nodup) (ha : ∀ r ∈ H, ∀ q ∈ H, (∀ x ∈ r, x ∈ q) → r = q) (hs : ∀ x ∈ rdNames H, x ∈ rdShared H) : rdKept H = H := by
  have hmap : H.map (fun r => r.filter fun x => decide (x ∈ rdShared H)) = H := by
    conv => rhs; rw [← List.map_id' H]
    refine List.map_congr_left fun r hr => List.filter_eq_self.mpr fun x hx => decide_eq_true (hs x (mem_rdNames.mpr ⟨r, hr, hx⟩))
  have hf : rdFewer H = H := by
    unfold rdFewer
    rw [hmap]
    exact dedupL_self hn
  unfold rdKept
  rw [hf]
  exact List.filter_eq_self.mpr fun r hr => (rdTop_iff (g r hr).1.nodup).mpr fun o ho hs => (ha r hr o ho hs).symm
theorem rd_names_lt {H : List (List Nat)} (g : Good H) (hn : H.Nodup) (ha : ∀ r ∈ H, ∀ q ∈ H, (∀ x ∈ r, x ∈ q) → r = q) (h : rdKept H ≠ H) : nd (rdNames (rdKept H)) < nd (rdNames H) := by
  have : ¬ ∀ x ∈ rdNames H, x ∈ rdShared H := fun q => h (irr_fix g hn ha q)
  obtain ⟨x, hx⟩ := Classical.not_forall.mp this
  obtain ⟨hx, hns⟩ := Classical.not_imp.mp hx
  have hsub : ∀ y ∈ rdNames (rdKept H), y ∈ rdNames H ∧ y ∈ rdShared H := fun y hy => by
    obtain ⟨r, hr, hyr⟩ := mem_rdNames.mp hy
    obtain ⟨q, hq, rfl⟩ := mem_rdFewer.mp (mem_flt hr)
    obtain ⟨h1, h2⟩ := List.mem_filter.mp hyr
    exact ⟨mem_rdNames.mpr ⟨q, hq, h1⟩, of_decide_eq_true h2⟩
  have := nodup_len_le (l := x :: dedupL (rdNames (rdKept H))) (m := dedupL (rdNames H)) (List.nodup_cons.mpr ⟨fun q => hns (hsub x (dedupL_mem.mp q)).2, dedupL_nodup _⟩) fun y hy => by
    rcases List.mem_cons.mp hy with rfl | hy
    · exact dedupL_mem.mpr hx
    · exact dedupL_mem.mpr (hsub y (dedupL_mem.mp hy)).1
  simp only [List.length_cons] at this
  unfold nd
  lia
theorem rounds_ok {P : List (List Nat) → Prop} (hP : ∀ H, Good H → P H → P (rdKept H)) : ∀ (f : Nat) (H : List (List Nat)), Good H → H.Nodup → (∀ r ∈ H, ∀ q ∈ H, (∀ x ∈ r, x ∈ q) → r = q) → P H → nd (rdNames H) < f → ∃ r, rounds f H = some r ∧ P r ∧ Good r ∧ rdKept r = r := by
  intro f
  induction f with
  | zero => intro H _ _ _ _ h; lia
  | succ f ih =>
    intro H g hn ha p hf
    by_cases q : rdKept H = H
    · exact ⟨H, by unfold rounds; rw [if_pos q], p, g, q⟩
    · have := rd_names_lt g hn ha q
      obtain ⟨r, hr, k⟩ := ih (rdKept H) (rdKept_good g) (rdKept_nodup H) (rdKept_anti g) (hP H g p) (by lia)
      exact ⟨r, by unfold rounds; rw [if_neg q]; exact hr, k⟩
theorem rounds_end {P : List (List Nat) → Prop} (hP : ∀ H, Good H → P H → P (rdKept H)) {H : List (List Nat)} (g : Good H) (p : P H) : ∃ r, rounds 20 H = some r ∧ P r ∧ Good r ∧ rdKept r = r := by
  by_cases q : rdKept H = H
  · exact ⟨H, by unfold rounds; rw [if_pos q], p, g, q⟩
  · have h5 : nd (rdNames (rdKept H)) ≤ 5 := nodup_len_le (m := [1, 2, 3, 4, 5]) (dedupL_nodup _) fun x hx => by
      obtain ⟨r, hr, hxr⟩ := mem_rdNames.mp (dedupL_mem.mp hx)
      have := (rdKept_good g r hr).2 x hxr
      simp only [List.mem_cons, List.not_mem_nil]
      lia
    obtain ⟨r, hr, k⟩ := rounds_ok hP 19 (rdKept H) (rdKept_good g) (rdKept_nodup H) (rdKept_anti g) (hP H g p) (by lia)
    exact ⟨r, by unfold rounds; rw [if_neg q]; exact hr, k⟩
end Mine
end

section
open PySem PySem.W PyProof.Rows PySem.Calls
set_option Elab.async false
set_option autoImplicit false
set_option linter.unusedVariables false
set_option linter.unusedSectionVars false
set_option maxRecDepth 100000
namespace Mine
theorem mem_others {left : List (List Nat)} {k : Nat} {o : List Nat} : o ∈ oOthers left k ↔ ∃ j, j ≠ k ∧ left[j]? = some o := by
  unfold oOthers
  rw [List.mem_append, List.mem_iff_getElem?, List.mem_iff_getElem?]
  constructor
  · rintro (⟨j, h⟩ | ⟨j, h⟩)
    · rw [List.getElem?_take] at h
      split at h
      · exact ⟨j, by lia, h⟩
      · cases h
    · rw [List.getElem?_drop] at h
      exact ⟨k + 1 + j, by lia, h⟩
  · rintro ⟨j, hj, h⟩
    rcases Nat.lt_or_ge j k with q | q
    · exact .inl ⟨j, by rw [List.getElem?_take, if_pos q]; exact h⟩
    · exact .inr ⟨j - (k + 1), by rw [List.getElem?_drop, show k + 1 + (j - (k + 1)) = j from by lia]; exact h⟩
theorem mem_of_get {left : List (List Nat)} {k : Nat} {r : List Nat} (h : left[k]? = some r) : r ∈ left := List.mem_iff_getElem?.mpr ⟨k, h⟩
theorem mem_left {left : List (List Nat)} {k : Nat} {r o : List Nat} (h : left[k]? = some r) : o ∈ left ↔ o ∈ oOthers left k ∨ o = r := by
  rw [mem_others]
  constructor
  · intro ho
    obtain ⟨j, hj⟩ := List.mem_iff_getElem?.mp ho
    by_cases q : j = k
    · subst q
      rw [h] at hj
      exact .inr (Option.some.inj hj).symm
    · exact .inl ⟨j, q, hj⟩
  · rintro (⟨j, _, hj⟩ | rfl)
    · exact mem_of_get hj
    · exact mem_of_get h
theorem mem_oFewer {left : List (List Nat)} {k : Nat} {r : List Nat} {x : Nat} : x ∈ oFewer left k r ↔ x ∈ r ∧ ∃ o ∈ oOthers left k, x ∈ o := by
  unfold oFewer
  rw [List.mem_filter]
  refine and_congr_right fun _ => ?_
  rw [Bool.not_eq_true', decide_eq_false_iff_not, List.filter_eq_nil_iff]
  constructor
  · intro h
    refine Classical.byContradiction fun no => h fun o ho => ?_
    simp only [decide_eq_true_eq]
    exact fun q => no ⟨o, ho, q⟩
  · rintro ⟨o, ho, hx⟩ h
    exact h o ho (by simpa using hx)
theorem oGoes_iff {left : List (List Nat)} {k : Nat} {r : List Nat} : oGoes left k r = true ↔ ∃ o ∈ oOthers left k, ∀ x ∈ oFewer left k r, x ∈ o := by
  unfold oGoes
  rw [Bool.not_eq_true', decide_eq_false_iff_not, List.filter_eq_nil_iff]
  constructor
  · intro h
    refine Classical.byContradiction fun no => h fun o ho => ?_
    rw [decide_eq_true_eq, List.filter_eq_nil_iff]
    intro q
    refine no ⟨o, ho, fun x hx => ?_⟩
    have := q x hx
    simpa using this
  · rintro ⟨o, ho, hs⟩ h
    refine h o ho ?_
    rw [decide_eq_true_eq, List.filter_eq_nil_iff]
    intro x hx
    simpa using hs x hx
def obK (left : List (List Nat)) (k : Nat) (r : List Nat) (x : Nat) : Bool := decide (x ∉ r ∨ ∃ o ∈ oOthers left k, x ∈ o)
theorem ob_e1 {left : List (List Nat)} {k : Nat} {r : List Nat} (g : Good left) (h : left[k]? = some r) : E1 (obK left k r) left (oOthers left k ++ [oFewer left k r]) := by
  have h1 : ∀ o ∈ oOthers left k, o.filter (obK left k r) = o := fun o ho => List.filter_eq_self.mpr fun x hx => decide_eq_true (.inr ⟨o, ho, hx⟩)
  have h2 : r.filter (obK left k r) = oFewer left k r := by
    unfold oFewer
    refine List.filter_congr fun x hx => ?_
    have a : obK left k r x = true ↔ ∃ o ∈ oOthers left k, x ∈ o := by
      unfold obK
      rw [decide_eq_true_eq]
      exact ⟨fun q => q.resolve_left (fun n => n hx), .inr⟩
    have b := mem_oFewer (left := left) (k := k) (r := r) (x := x)
    unfold oFewer at b
    rw [List.mem_filter] at b
    rw [Bool.eq_iff_iff, a]
    exact ⟨fun q => (b.mpr ⟨hx, q⟩).2, fun q => (b.mp ⟨hx, q⟩).2⟩
  refine ⟨fun r' => ?_, fun x hx r1 m1 r2 m2 x1 x2 => ?_⟩
  · rw [List.mem_append, List.mem_singleton]
    constructor
    · rintro (q | rfl)
      · exact ⟨r', (mem_left h).mpr (.inl q), h1 r' q⟩
      · exact ⟨r, mem_of_get h, h2⟩
    · rintro ⟨q, hq, rfl⟩
      rcases (mem_left h).mp hq with q' | rfl
      · rw [h1 q q']; exact .inl q'
      · exact .inr h2
  · have hx := of_decide_eq_false hx
    have hno : ∀ o ∈ oOthers left k, x ∉ o := fun o ho q => hx (.inr ⟨o, ho, q⟩)
    rcases (mem_left h).mp m1 with q | rfl
    · exact absurd x1 (hno _ q)
    · rcases (mem_left h).mp m2 with q | rfl
      · exact absurd x2 (hno _ q)
      · rfl
theorem ob_good {left : List (List Nat)} {k : Nat} {r : List Nat} (g : Good left) (h : left[k]? = some r) : Good (oOthers left k ++ [oFewer left k r]) := fun q hq => by
  rcases List.mem_append.mp hq with q' | q'
  · exact g q ((mem_left h).mpr (.inl q'))
  · rw [List.mem_singleton.mp q']
    exact (g r (mem_of_get h)).filter _
theorem ob_e2 {left : List (List Nat)} {k : Nat} {r : List Nat} (h : oGoes left k r = true) : E2 (oOthers left k ++ [oFewer left k r]) (oOthers left k) :=
  ⟨fun q hq => List.mem_append_left _ hq, fun q hq => by
    rcases List.mem_append.mp hq with q' | q'
    · exact ⟨q, q', fun x hx => hx⟩
    · rw [List.mem_singleton.mp q']
      exact oGoes_iff.mp h⟩
def Fine (left : List (List Nat)) (j : Nat) : Prop := ∀ r, left[j]? = some r → oGoes left j r = false ∧ oFewer left j r = r
theorem obo_ind {P : List (List Nat) → Prop}
    (hg : ∀ left k r, P left → left[k]? = some r → oGoes left k r = true → P (oOthers left k))
    (hf : ∀ left k r, P left → left[k]? = some r → P (oOthers left k ++ [oFewer left k r])) :
    ∀ (f : Nat) (left : List (List Nat)) (k : Nat), P left → left.length ≤ 10 → (∀ j, j < k → Fine left j) → oMu left * 1001 + (1000 - k) < f → k ≤ left.length →
      P (obo f left k) ∧ (obo f left k).length ≤ 10 ∧ ∀ j, Fine (obo f left k) j := by
  intro f
  induction f with
  | zero => intro left k _ _ _ h; lia
  | succ f ih =>
    intro left k p hl hk hm hkl
    unfold obo
    cases e : left[k]? with
    | none =>
      show P left ∧ left.length ≤ 10 ∧ ∀ j, Fine left j
      refine ⟨p, hl, fun j r hr => ?_⟩
      have h1 := List.getElem?_eq_none_iff.mp e
      obtain ⟨h2, _⟩ := List.getElem?_eq_some_iff.mp hr
      exact hk j (by lia) r hr
    | some r =>
      have hlt : k < left.length := (List.getElem?_eq_some_iff.mp e).1
      have hmu := oMu_others e
      have hlen := oOthers_len hlt
      show P (if oGoes left k r then obo f (oOthers left k) 0 else if oFewer left k r ≠ r then obo f (oOthers left k ++ [oFewer left k r]) 0 else obo f left (k + 1)) ∧ (if oGoes left k r then obo f (oOthers left k) 0 else if oFewer left k r ≠ r then obo f (oOthers left k ++ [oFewer left k r]) 0 else obo f left (k + 1)).length ≤ 10 ∧ ∀ j, Fine (if oGoes left k r then obo f (oOthers left k) 0 else if oFewer left k r ≠ r then obo f (oOthers left k ++ [oFewer left k r]) 0 else obo f left (k + 1)) j
      by_cases q : oGoes left k r = true
      · rw [if_pos q]
        exact ih _ 0 (hg left k r p e q) (by lia) (fun j hj => by lia) (by lia) (Nat.zero_le _)
      · rw [if_neg q]
        by_cases q2 : oFewer left k r ≠ r
        · rw [if_pos q2]
          have hlt2 := oFewer_lt q2
          have hmu2 : oMu (oOthers left k ++ [oFewer left k r]) = oMu (oOthers left k) + ((oFewer left k r).length + 1) := by
            unfold oMu
            rw [List.map_append, List.sum_append]
            simp
          refine ih _ 0 (hf left k r p e) ?_ (fun j hj => by lia) (by lia) (Nat.zero_le _)
          rw [List.length_append]
          simp only [List.length_cons, List.length_nil]
          lia
        · rw [if_neg q2]
          refine ih left (k + 1) p hl (fun j hj => ?_) (by lia) (by lia)
          rcases Nat.lt_or_ge j k with q' | q'
          · exact hk j q'
          · obtain rfl : j = k := by lia
            intro r' hr'
            rw [e] at hr'
            obtain rfl := Option.some.inj hr'
            exact ⟨by simpa using q, by simpa using q2⟩
theorem fine_irr {left : List (List Nat)} (h : ∀ j, Fine left j) : Irr left := by
  have no : ∀ (i j : Nat) (r q : List Nat), left[i]? = some r → left[j]? = some q → (∀ x ∈ r, x ∈ q) → i = j := by
    intro i j r q hi hj hs
    obtain ⟨h1, h2⟩ := h i r hi
    refine Classical.byContradiction fun ne => ?_
    have : oGoes left i r = true := oGoes_iff.mpr ⟨q, mem_others.mpr ⟨j, fun e => ne e.symm, hj⟩, by rw [h2]; exact hs⟩
    rw [this] at h1
    cases h1
  refine ⟨?_, ?_, ?_⟩
  · rw [List.nodup_iff_pairwise_ne, List.pairwise_iff_getElem]
    intro i j hi hj hij e
    have := no i j (left[i]) (left[j]) (List.getElem?_eq_getElem hi) (List.getElem?_eq_getElem hj) (fun x hx => by rw [e] at hx; exact hx)
    lia
  · intro r hr q hq hs
    obtain ⟨i, hi⟩ := List.mem_iff_getElem?.mp hr
    obtain ⟨j, hj⟩ := List.mem_iff_getElem?.mp hq
    have := no i j r q hi hj hs
    subst this
    rw [hi] at hj
    exact Option.some.inj hj
  · intro r hr x hx
    obtain ⟨i, hi⟩ := List.mem_iff_getElem?.mp hr
    obtain ⟨_, h2⟩ := h i r hi
    rw [← h2] at hx
    obtain ⟨_, o, ho, hxo⟩ := mem_oFewer.mp hx
    obtain ⟨j, hj, ho'⟩ := mem_others.mp ho
    refine ⟨o, mem_of_get ho', fun e => ?_, hxo⟩
    subst e
    exact hj (no j i o o ho' hi fun x hx => hx)
theorem due_ok {rows : List (List Nat)} (g : Good rows) (h10 : rows.length ≤ 10) : Irr (dueOf rows) ∧ Rel rows (dueOf rows) ∧ (dueOf rows).length ≤ 10 := by
  obtain ⟨⟨p, _⟩, l, f⟩ := obo_ind (P := fun left => Rel rows left ∧ Good left)
    (fun left k r ⟨p, g⟩ e q => ⟨p.trans ((ob_e1 g e).rel.trans ((ob_e2 q).rel (ob_good g e))), fun o ho => g o ((mem_left e).mpr (.inl ho))⟩)
    (fun left k r ⟨p, g⟩ e => ⟨p.trans (ob_e1 g e).rel, ob_good g e⟩)
    (oMu rows * 1001 + 1001) rows 0 ⟨.refl rows, g⟩ h10 (fun j hj => by lia) (by lia) (Nat.zero_le _)
  exact ⟨fine_irr f, p, l⟩
end Mine
end

section
open PySem PySem.W PyProof.Rows PySem.Calls
set_option Elab.async false
set_option autoImplicit false
set_option linter.unusedVariables false
set_option linter.unusedSectionVars false
set_option maxRecDepth 100000
namespace Mine
section
variable {α : Type} [DecidableEq α]
theorem rmAll_perm : ∀ {l t u : List α}, rmAll l t = some u → t.Perm (l ++ u)
  | [], t, u, h => by cases h; exact .refl _
  | x :: l, t, u, h => by
    rw [rmAll] at h
    split at h
    · exact (List.perm_cons_erase ‹_›).trans (List.Perm.cons x (rmAll_perm h))
    · cases h
theorem rmAll_of : ∀ {l t u : List α}, t.Perm (l ++ u) → ∃ u', rmAll l t = some u' ∧ u'.Perm u
  | [], t, u, h => ⟨t, rfl, h⟩
  | x :: l, t, u, h => by
    have hx : x ∈ t := h.mem_iff.mpr (.head _)
    obtain ⟨u', h1, h2⟩ := rmAll_of (l := l) (t := t.erase x) (u := u) (List.perm_cons x |>.mp ((List.perm_cons_erase hx).symm.trans h))
    exact ⟨u', by rw [rmAll, if_pos hx]; exact h1, h2⟩
theorem cmpOL_iff {l m : List α} : cmpOL l m = true ↔ ∀ x, x ∈ l ↔ x ∈ m := by
  have hd : (∀ x, x ∈ l ↔ x ∈ m) ↔ (dedupL m).Perm (dedupL l) := by
    rw [List.perm_ext_iff_of_nodup (dedupL_nodup m) (dedupL_nodup l)]
    simp only [dedupL_mem]
    exact ⟨fun h x => (h x).symm, fun h x => (h x).symm⟩
  rw [hd]
  unfold cmpOL
  constructor
  · intro h
    cases e : rmAll (dedupL l) (dedupL m) with
    | none => rw [e] at h; cases h
    | some u =>
      rw [e] at h
      have hu : u = [] := by simpa using h
      subst hu
      simpa using rmAll_perm e
  · intro h
    obtain ⟨u', h1, h2⟩ := rmAll_of (l := dedupL l) (t := dedupL m) (u := []) (by simpa using h)
    rw [h1, h2.eq_nil]
    rfl
end
theorem srt_iff {l m : List (List Nat)} : srt l = srt m ↔ l.Perm m := sortL_perm_eq (O := lexO natO)
theorem law_but {ns : List Int} {r : List (List Nat)} (hr : rounds 20 (dedupL (rowsOf (pieces (ns.take 10)))) = some r) (gr : Good r) (fx : rdKept r = r) (rel : Rel (rowsOf (pieces (ns.take 10))) r) (l10 : r.length ≤ 10)
    (hl : lack r = lack (rowsOf (pieces (ns.take 10)))) (hf : decide (lack (rowsOf (pieces (ns.take 10))) = 0) = decide (r.filter (fun q => !decide (q = [])) = [])) : LawOK (pieces (ns.take 10)) r := by
  have hp := pieces_ok (ns.take 10)
  have h10 : (ns.take 10).length ≤ 10 := by rw [List.length_take]; lia
  generalize pieces (ns.take 10) = pcs at *
  obtain ⟨p1, p2⟩ := hp
  have g := rowsOf_good pcs
  have hlen : (rowsOf pcs).length ≤ 10 := by unfold rowsOf; rw [List.length_map]; lia
  obtain ⟨dI, dR, dL⟩ := due_ok g hlen
  have rI := rd_fix_irr gr fx
  have same := irr_uniq rI dI (rel.symm.trans dR)
  have hperm : r.Perm (dueOf (rowsOf pcs)) := (List.perm_ext_iff_of_nodup rI.nodup dI.nodup).mpr same
  refine ⟨by lia, fun p hp => ⟨by have := (p2 p hp).1; lia, (p2 p hp).2⟩, read_rows fun p hp => (p2 p hp).2, hr, ⟨l10, fun q hq => by have := rowG_len (gr q hq); lia⟩, srt_iff.mpr hperm, by lia, ?_, ?_, hl, hf⟩
  · rw [cmpOL_iff]
    intro x
    rw [List.mem_reverse]
    exact (same x).symm
  · rw [Bool.eq_iff_iff, cmpOL_iff, decide_eq_true_eq, srt_iff, onceL_eq, List.perm_ext_iff_of_nodup (dedupL_nodup _) dI.nodup]
    constructor
    · intro h x
      rw [dedupL_mem, ← h x]
      exact same x
    · intro h x
      rw [same x, ← h x, dedupL_mem]
end Mine
end

section
open PySem PySem.W PyProof.Rows PySem.Calls
set_option Elab.async false
set_option autoImplicit false
set_option linter.unusedVariables false
set_option linter.unusedSectionVars false
set_option maxRecDepth 100000
namespace Mine
def tw (t : List Int) : Nat := (t.getD 0 0).toNat
def ti (t : List Int) : Nat := (t.getD 1 0).toNat
def tj (t : List Int) : Nat := (t.getD 2 0).toNat
def lb (g : List Int) (i : Nat) : Int := g.getD i 0
def lkLab (g : List Int) (t : List Int) : List Int := if lb g (ti t) = lb g (tj t) then g else g.map fun one => if one = lb g (tj t) then lb g (ti t) else one
theorem lkStep_eq (v : Int) (g t : List Int) : lkStep (v, g) t = (if lb g (ti t) = lb g (tj t) then v else v - t.getD 0 0, lkLab g t) := by
  unfold lkStep lkLab lb ti tj
  show (if g.getD (t.getD 1 0).toNat 0 = g.getD (t.getD 2 0).toNat 0 then (v, g) else _) = _
  split <;> rfl
def gL (n : Nat) (L : List (List Int)) : List Int := L.foldl lkLab (rangeL 0 n)
theorem gL_snoc (n : Nat) (L : List (List Int)) (t : List Int) : gL n (L ++ [t]) = lkLab (gL n L) t := by unfold gL; rw [List.foldl_append]; rfl
structure CmpG (n : Nat) (L : List (List Int)) (g : List Int) : Prop where
  len : g.length = n
  tie : ∀ t ∈ L, lb g (ti t) = lb g (tj t)
  all : ∀ f : Nat → Int, (∀ t ∈ L, f (ti t) = f (tj t)) → ∀ a b, a < n → b < n → lb g a = lb g b → f a = f b
theorem lb_map {g : List Int} {f : Int → Int} {i : Nat} (h : i < g.length) : lb (g.map f) i = f (lb g i) := by
  unfold lb
  simp [h]
theorem lb_range {n i : Nat} (h : i < n) : lb (rangeL 0 n) i = i := by
  unfold lb rangeL
  have : i < ((n : Int) - 0).toNat := by lia
  simp [h]
theorem lb_mem {g : List Int} {i : Nat} (h : i < g.length) : lb g i ∈ g := by
  unfold lb
  rw [List.getD_eq_getElem?_getD, List.getElem?_eq_getElem h]
  exact List.getElem_mem h
theorem lkLab_lb {g t : List Int} {i : Nat} (hi : i < g.length) : lb (lkLab g t) i = if lb g i = lb g (tj t) then lb g (ti t) else lb g i := by
  unfold lkLab
  split
  · split
    · rw [‹lb g i = _›, ‹lb g (ti t) = _›]
    · rfl
  · rw [lb_map hi]
theorem lkLab_len (g t : List Int) : (lkLab g t).length = g.length := by unfold lkLab; split <;> simp
theorem cmpG_nil (n : Nat) : CmpG n [] (rangeL 0 n) := by
  refine ⟨by rw [rangeL_len]; lia, fun t h => absurd h List.not_mem_nil, fun f _ a b ha hb h => ?_⟩
  rw [lb_range ha, lb_range hb] at h
  rw [show a = b from by lia]
theorem cmpG_step {n : Nat} {L : List (List Int)} {g t : List Int} (h : CmpG n L g) (hi : ti t < n) (hj : tj t < n) (hL : ∀ t ∈ L, ti t < n ∧ tj t < n) : CmpG n (L ++ [t]) (lkLab g t) := by
  have hl := h.len
  refine ⟨by rw [lkLab_len]; exact hl, fun u hu => ?_, fun f hf a b ha hb e => ?_⟩
  · rcases List.mem_append.mp hu with q | q
    · obtain ⟨h1, h2⟩ := hL u q
      rw [lkLab_lb (by lia), lkLab_lb (by lia), h.tie u q]
    · rw [List.mem_singleton.mp q, lkLab_lb (by lia), lkLab_lb (by lia), if_pos (rfl : lb g (tj t) = lb g (tj t))]
      split <;> rfl
  · have hft : f (ti t) = f (tj t) := hf t (by simp)
    have hfL := h.all f fun u hu => hf u (List.mem_append_left _ hu)
    rw [lkLab_lb (by lia), lkLab_lb (by lia)] at e
    by_cases q1 : lb g a = lb g (tj t)
    · rw [if_pos q1] at e
      by_cases q2 : lb g b = lb g (tj t)
      · exact hfL a b ha hb (q1.trans q2.symm)
      · rw [if_neg q2] at e
        exact (hfL a _ ha hj q1).trans (hft.symm.trans (hfL _ b hi hb e))
    · rw [if_neg q1] at e
      by_cases q2 : lb g b = lb g (tj t)
      · rw [if_pos q2] at e
        exact (hfL a _ ha hi e).trans (hft.trans (hfL _ b hj hb q2.symm))
      · rw [if_neg q2] at e
        exact hfL a b ha hb e
theorem cmpG_fold {n : Nat} : ∀ {M L : List (List Int)} {g : List Int}, CmpG n L g → (∀ t ∈ L ++ M, ti t < n ∧ tj t < n) → CmpG n (L ++ M) (M.foldl lkLab g)
  | [], L, g, h, _ => by simpa using h
  | t :: M, L, g, h, hb => by
    have e : L ++ t :: M = (L ++ [t]) ++ M := by simp
    rw [e] at hb ⊢
    have ht := hb t (by simp)
    exact cmpG_fold (cmpG_step h ht.1 ht.2 fun u hu => hb u (by simp [hu])) hb
theorem cmpG_gL {n : Nat} {L : List (List Int)} (hb : ∀ t ∈ L, ti t < n ∧ tj t < n) : CmpG n L (gL n L) := by
  exact cmpG_fold (M := L) (cmpG_nil n) hb
/-! ## sums -/
def sumT : Nat → (Nat → Int) → Int
  | 0, _ => 0
  | T + 1, f => sumT T f + f T
theorem sumT_congr {f g : Nat → Int} : ∀ {T : Nat}, (∀ k, k < T → f k = g k) → sumT T f = sumT T g
  | 0, _ => rfl
  | T + 1, h => by
    unfold sumT
    rw [sumT_congr fun k hk => h k (by lia), h T (by lia)]
theorem sumT_add {f g : Nat → Int} : ∀ {T : Nat}, sumT T (fun k => f k + g k) = sumT T f + sumT T g
  | 0 => rfl
  | T + 1 => by
    unfold sumT
    rw [sumT_add]
    show sumT T f + sumT T g + (f T + g T) = _
    lia
theorem sumT_zero : ∀ {T : Nat}, sumT T (fun _ => 0) = 0
  | 0 => rfl
  | T + 1 => by unfold sumT; rw [sumT_zero]; rfl
theorem sumT_ind {w : Nat} {c : Int} : ∀ {T : Nat}, sumT T (fun k => if k + 1 ≤ w then c else 0) = (min w T : Nat) * c
  | 0 => by simp [sumT]
  | T + 1 => by
    unfold sumT
    rw [sumT_ind]
    show _ + (if T + 1 ≤ w then c else 0) = _
    by_cases h : T + 1 ≤ w
    · rw [if_pos h, show min w T = T from by lia, show min w (T + 1) = T + 1 from by lia]
      rw [Int.natCast_add, Int.add_mul]
      simp
    · rw [if_neg h, show min w T = min w (T + 1) from by lia]
      lia
/-! ## value -/
theorem nd_lkLab {n : Nat} {g t : List Int} (hl : g.length = n) (hi : ti t < n) (hj : tj t < n) : (nd (lkLab g t) : Int) - nd g = if lb g (ti t) = lb g (tj t) then 0 else -1 := by
  unfold lkLab
  by_cases q : lb g (ti t) = lb g (tj t)
  · rw [if_pos q, if_pos q]; lia
  · rw [if_neg q, if_neg q]
    have := nd_merge (l := g) q
    rw [if_pos ⟨lb_mem (by lia), lb_mem (by lia)⟩] at this
    lia
def flt (k : Nat) (L : List (List Int)) : List (List Int) := L.filter fun t => decide (k + 1 ≤ tw t)
def Sv (T n : Nat) (L : List (List Int)) : Int := sumT T fun k => nd (gL n (flt k L))
theorem Sv_snoc {T n : Nat} {L : List (List Int)} {t : List Int} (hs : ∀ u ∈ L, tw t ≤ tw u) (hT : tw t ≤ T) (hi : ti t < n) (hj : tj t < n) (hL : ∀ t ∈ L, ti t < n ∧ tj t < n) :
    Sv T n (L ++ [t]) = Sv T n L + tw t * (if lb (gL n L) (ti t) = lb (gL n L) (tj t) then 0 else -1) := by
  have key : ∀ k, k < T → (nd (gL n (flt k (L ++ [t]))) : Int) = nd (gL n (flt k L)) + if k + 1 ≤ tw t then (if lb (gL n L) (ti t) = lb (gL n L) (tj t) then 0 else -1) else 0 := by
    intro k _
    unfold flt
    rw [List.filter_append]
    by_cases h : k + 1 ≤ tw t
    · rw [if_pos h, List.filter_cons_of_pos (by simpa using h), List.filter_nil, List.filter_eq_self.mpr fun u hu => by have := hs u hu; simp; lia, gL_snoc]
      have := nd_lkLab (cmpG_gL hL).len hi hj
      lia
    · rw [if_neg h, List.filter_cons_of_neg (by simpa using h), List.filter_nil, List.append_nil]
      lia
  unfold Sv
  rw [sumT_congr key, sumT_add, sumT_ind, show min (tw t) T = tw t from by lia]
theorem val_fold {T n : Nat} : ∀ {M L : List (List Int)} {v : Int}, (L ++ M).Pairwise (fun a b => tw b ≤ tw a) → (∀ t ∈ L ++ M, tw t ≤ T ∧ t.getD 0 0 = tw t ∧ ti t < n ∧ tj t < n) →
    (M.foldl lkStep (v, gL n L)).1 - Sv T n (L ++ M) = v - Sv T n L
  | [], L, v, _, _ => by simp
  | t :: M, L, v, hp, hb => by
    have e : L ++ t :: M = (L ++ [t]) ++ M := by simp
    rw [e] at hp hb ⊢
    obtain ⟨h1, h2, h3, h4⟩ := hb t (by simp)
    have hs : ∀ u ∈ L, tw t ≤ tw u := fun u hu => by
      have := (List.pairwise_append.mp (List.pairwise_append.mp hp).1).2.2 u hu t (.head _)
      exact this
    have hS := Sv_snoc (T := T) hs h1 h3 h4 fun u hu => (hb u (by simp [hu])).2.2
    rw [List.foldl_cons, lkStep_eq, ← gL_snoc, val_fold hp hb, hS, h2]
    split <;> lia
theorem lack_val {T : Nat} {H : List (List Nat)} (hp : (lkAll H).Pairwise (fun a b => tw b ≤ tw a)) (hb : ∀ t ∈ lkAll H, tw t ≤ T ∧ t.getD 0 0 = tw t ∧ ti t < H.length ∧ tj t < H.length) :
    lack H = lkFirst H - T * H.length + Sv T H.length (lkAll H) := by
  have h := val_fold (T := T) (n := H.length) (M := lkAll H) (L := []) (v := lkFirst H) (by simpa using hp) (by simpa using hb)
  have h0 : Sv T H.length [] = T * H.length := by
    unfold Sv flt gL
    have : nd (rangeL 0 H.length) = H.length := by
      rw [nd_of (m := rangeL 0 H.length) ?_ fun x => Iff.rfl, rangeL_len]
      · lia
      · unfold rangeL
        rw [List.nodup_iff_pairwise_ne, List.pairwise_map]
        exact List.Pairwise.imp (fun h => by lia) (List.pairwise_lt_range (n := ((H.length : Int) - 0).toNat))
    show sumT T (fun _ => (nd (rangeL 0 H.length) : Int)) = _
    rw [this]
    have h2 := sumT_ind (w := T) (c := (H.length : Int)) (T := T)
    rw [show min T T = T from by lia] at h2
    rw [← h2]
    exact sumT_congr fun k hk => by rw [if_pos (by lia)]
  unfold lack
  rw [List.nil_append, h0] at h
  show ((lkAll H).foldl lkStep (lkFirst H, gL H.length [])).1 = _
  lia
end Mine
end

section
open PySem PySem.W PyProof.Rows PySem.Calls
set_option Elab.async false
set_option autoImplicit false
set_option linter.unusedVariables false
set_option linter.unusedSectionVars false
set_option maxRecDepth 100000
namespace Mine
def cap (r s : List Nat) : List Nat := r.filter fun x => decide (x ∈ s)
def row (H : List (List Nat)) (i : Nat) : List Nat := H.getD i []
theorem mem_cap {r s : List Nat} {x : Nat} : x ∈ cap r s ↔ x ∈ r ∧ x ∈ s := by
  unfold cap
  rw [List.mem_filter, decide_eq_true_eq]
theorem cap_comm {r s : List Nat} (hr : Srt r) (hs : Srt s) : cap r s = cap s r :=
  srt_ext (srt_filter hr _) (srt_filter hs _) fun x => by rw [mem_cap, mem_cap]; exact And.comm
theorem cap_le (r s : List Nat) : (cap r s).length ≤ r.length := List.length_filter_le _ _
theorem cap_self (r : List Nat) : cap r r = r := List.filter_eq_self.mpr fun x hx => decide_eq_true hx
theorem row_mem {H : List (List Nat)} {i : Nat} (h : i < H.length) : row H i ∈ H := by
  unfold row
  rw [List.getD_eq_getElem?_getD, List.getElem?_eq_getElem h]
  exact List.getElem_mem h
theorem row_of_mem {H : List (List Nat)} {r : List Nat} (h : r ∈ H) : ∃ i, i < H.length ∧ row H i = r := by
  obtain ⟨i, hi, e⟩ := List.getElem_of_mem h
  exact ⟨i, hi, by unfold row; rw [List.getD_eq_getElem?_getD, List.getElem?_eq_getElem hi]; exact e⟩
def tie (H : List (List Nat)) (i j : Nat) : List Int := [((cap (row H i) (row H j)).length : Int), i, j]
theorem mem_tiesI {H : List (List Nat)} {t : List Int} : t ∈ lkTiesI H ↔ ∃ i j : Nat, j < i ∧ i < H.length ∧ t = tie H i j := by
  unfold lkTiesI
  simp only [List.mem_flatMap, List.mem_map, mem_rangeL]
  constructor
  · rintro ⟨i, ⟨h1, h2⟩, j, ⟨h3, h4⟩, rfl⟩
    refine ⟨i.toNat, j.toNat, by lia, by lia, ?_⟩
    unfold tie
    rw [Int.toNat_of_nonneg h1, Int.toNat_of_nonneg h3]
    rfl
  · rintro ⟨i, j, h1, h2, rfl⟩
    exact ⟨i, ⟨by lia, by lia⟩, j, ⟨by lia, by lia⟩, rfl⟩
theorem mem_lkAll {H : List (List Nat)} {t : List Int} : t ∈ lkAll H ↔ ∃ i j : Nat, j < i ∧ i < H.length ∧ t = tie H i j := by
  have h1 : t ∈ lkAll H ↔ t ∈ sortL (lexO intO) (lkTies H) := List.mem_reverse (α := (lexO intO).α)
  have h2 : t ∈ sortL (lexO intO) (lkTies H) ↔ t ∈ lkTiesI H := (sortL_perm (O := lexO intO) (lkTies H)).mem_iff
  rw [h1, h2, mem_tiesI]
theorem tw_tie (H : List (List Nat)) (i j : Nat) : tw (tie H i j) = (cap (row H i) (row H j)).length := by
  unfold tw tie
  show (((cap (row H i) (row H j)).length : Int)).toNat = _
  lia
theorem ti_tie (H : List (List Nat)) (i j : Nat) : ti (tie H i j) = i := by
  unfold ti tie
  show ((i : Int)).toNat = _
  lia
theorem tj_tie (H : List (List Nat)) (i j : Nat) : tj (tie H i j) = j := by
  unfold tj tie
  show ((j : Int)).toNat = _
  lia
theorem kle_tw {a b : List Int} (h : (lexO intO).kle a b) (ha : ∃ w r, a = w :: r) (hb : ∃ w r, b = w :: r) : tw a ≤ tw b := by
  obtain ⟨w, r, rfl⟩ := ha
  obtain ⟨w', r', rfl⟩ := hb
  have h : lexB (fun a b : Int => decide (a < b)) (w' :: r') (w :: r) = false := h
  unfold tw
  show w.toNat ≤ w'.toNat
  unfold lexB at h
  by_cases q : w' < w
  · simp [q] at h
    lia
  · lia
theorem lkAll_desc (H : List (List Nat)) : (lkAll H).Pairwise (fun a b => tw b ≤ tw a) := by
  refine (List.pairwise_reverse (α := (lexO intO).α) (l := sortL (lexO intO) (lkTies H)) (R := fun a b : List Int => tw b ≤ tw a)).mpr ?_
  refine List.Pairwise.imp_of_mem ?_ (sortL_sorted (O := lexO intO) (lkTies H))
  intro a b ha hb h
  have key : ∀ t, t ∈ sortL (lexO intO) (lkTies H) → ∃ (w : Int) (r : List Int), t = w :: r := fun t ht => by
    have h1 : t ∈ lkTiesI H := (sortL_perm (O := lexO intO) (lkTies H)).mem_iff.mp ht
    obtain ⟨i, j, _, _, rfl⟩ := mem_tiesI.mp h1
    exact ⟨_, _, rfl⟩
  exact kle_tw h (key a ha) (key b hb)
theorem lkAll_ok {H : List (List Nat)} (g : Good H) : ∀ t ∈ lkAll H, tw t ≤ 5 ∧ t.getD 0 0 = tw t ∧ ti t < H.length ∧ tj t < H.length := by
  intro t ht
  obtain ⟨i, j, h1, h2, rfl⟩ := mem_lkAll.mp ht
  rw [tw_tie, ti_tie, tj_tie]
  have := rowG_len (g _ (row_mem h2))
  have := cap_le (row H i) (row H j)
  exact ⟨by lia, rfl, h2, by lia⟩
theorem lkFirst_eq (H : List (List Nat)) : lkFirst H = ((rdNames H).length : Int) - nd (rdNames H) := by
  have e : lkNames H = rdNames H := rfl
  unfold lkFirst
  rw [e]
  congr 1
  have h := congrArg List.length (first_dedup 0 (rdNames H))
  rw [List.length_map] at h
  unfold nd
  rw [← h]
  congr 2
  refine List.filter_congr fun k hk => ?_
  obtain ⟨h1, h2⟩ := mem_rangeL.mp hk
  have hlt : k.toNat < (rdNames H).length := by lia
  unfold onceP
  rw [List.getD_eq_getElem?_getD, List.getElem?_eq_getElem hlt]
  rfl
theorem lack_eq {H : List (List Nat)} (g : Good H) : lack H = ((rdNames H).length : Int) - nd (rdNames H) - 5 * H.length + Sv 5 H.length (lkAll H) := by
  rw [lack_val (lkAll_desc H) (lkAll_ok g), lkFirst_eq]
  rfl
/-! ## the labels at a threshold -/
structure Lb (k : Nat) (H : List (List Nat)) (h : List Nat → Int) : Prop where
  tie : ∀ r ∈ H, ∀ s ∈ H, k + 1 ≤ (cap r s).length → h r = h s
  all : ∀ f : List Nat → Int, (∀ r ∈ H, ∀ s ∈ H, k + 1 ≤ (cap r s).length → f r = f s) → ∀ r ∈ H, ∀ s ∈ H, k + 1 ≤ r.length → k + 1 ≤ s.length → h r = h s → f r = f s
def big (k : Nat) (r : List Nat) : Bool := decide (k + 1 ≤ r.length)
theorem map_rows (H : List (List Nat)) : (List.range H.length).map (row H) = H := by
  refine List.ext_getElem (by simp) fun i h1 h2 => ?_
  simp [row, h2]
theorem len_big (H : List (List Nat)) (k : Nat) : ((H.filter fun r => !big k r).length : Int) = H.length - (H.filter (big k)).length := by
  induction H with
  | nil => rfl
  | cons r H ih =>
    cases q : big k r
    · rw [List.filter_cons_of_pos (by simp [q]), List.filter_cons_of_neg (by simp [q])]
      simp only [List.length_cons]
      lia
    · rw [List.filter_cons_of_neg (by simp [q]), List.filter_cons_of_pos (by simp [q])]
      simp only [List.length_cons]
      lia
theorem sum_big {H : List (List Nat)} (g : Good H) : sumT 5 (fun k => ((H.filter (big k)).length : Int)) = (rdNames H).length := by
  induction H with
  | nil => exact sumT_zero
  | cons r H ih =>
    have h5 := rowG_len (g r (.head _))
    have e : ∀ k, k < 5 → (((r :: H).filter (big k)).length : Int) = (if k + 1 ≤ r.length then 1 else 0) + (H.filter (big k)).length := by
      intro k _
      unfold big
      by_cases q : k + 1 ≤ r.length
      · rw [if_pos q, List.filter_cons_of_pos (by simpa using q)]
        simp only [List.length_cons]
        lia
      · rw [if_neg q, List.filter_cons_of_neg (by simpa using q)]
        lia
    rw [sumT_congr e, sumT_add, sumT_ind, ih fun q hq => g q (.tail _ hq), rdNames_cons, List.length_append, show min r.length 5 = r.length from by lia]
    lia
theorem lab_at {H : List (List Nat)} (g : Good H) (k : Nat) : ∃ h : List Nat → Int, Lb k H h ∧ (nd (gL H.length (flt k (lkAll H))) : Int) = (H.filter fun r => !big k r).length + nd ((H.filter (big k)).map h) := by
  have hflt : ∀ t, t ∈ flt k (lkAll H) ↔ ∃ i j : Nat, j < i ∧ i < H.length ∧ t = tie H i j ∧ k + 1 ≤ (cap (row H i) (row H j)).length := by
    intro t
    unfold flt
    rw [List.mem_filter, mem_lkAll, decide_eq_true_eq]
    constructor
    · rintro ⟨⟨i, j, h1, h2, rfl⟩, h3⟩
      rw [tw_tie] at h3
      exact ⟨i, j, h1, h2, rfl, h3⟩
    · rintro ⟨i, j, h1, h2, rfl, h3⟩
      exact ⟨⟨i, j, h1, h2, rfl⟩, by rw [tw_tie]; exact h3⟩
  have C := cmpG_gL (n := H.length) (L := flt k (lkAll H)) fun t ht => by
    obtain ⟨i, j, h1, h2, rfl, _⟩ := (hflt t).mp ht
    rw [ti_tie, tj_tie]
    exact ⟨h2, by lia⟩
  generalize gL H.length (flt k (lkAll H)) = G at C
  have hcc : ∀ i j, i < H.length → j < H.length → cap (row H i) (row H j) = cap (row H j) (row H i) := fun i j hi hj => cap_comm (g _ (row_mem hi)).1 (g _ (row_mem hj)).1
  have htie : ∀ i j, i < H.length → j < H.length → k + 1 ≤ (cap (row H i) (row H j)).length → lb G i = lb G j := by
    intro i j hi hj hk
    rcases Nat.lt_trichotomy i j with q | q | q
    · have := C.tie (tie H j i) ((hflt _).mpr ⟨j, i, q, hj, rfl, by rw [hcc j i hj hi]; exact hk⟩)
      rw [ti_tie, tj_tie] at this
      exact this.symm
    · rw [q]
    · have := C.tie (tie H i j) ((hflt _).mpr ⟨i, j, q, hi, rfl, hk⟩)
      rw [ti_tie, tj_tie] at this
      exact this
  have hidx : ∀ r ∈ H, H.idxOf r < H.length ∧ row H (H.idxOf r) = r := by
    intro r hr
    have h1 := List.idxOf_lt_length_of_mem hr
    refine ⟨h1, ?_⟩
    unfold row
    rw [List.getD_eq_getElem?_getD, List.getElem?_eq_getElem h1]
    exact List.getElem_idxOf h1
  have hlab : ∀ i, i < H.length → k + 1 ≤ (row H i).length → lb G i = lb G (H.idxOf (row H i)) := by
    intro i hi hk
    obtain ⟨h1, h2⟩ := hidx _ (row_mem hi)
    refine htie _ _ hi h1 ?_
    rw [h2, cap_self]
    exact hk
  refine ⟨fun r => lb G (H.idxOf r), ⟨?_, ?_⟩, ?_⟩
  · intro r hr s hs hk
    obtain ⟨h1, h2⟩ := hidx r hr
    obtain ⟨h3, h4⟩ := hidx s hs
    exact htie _ _ h1 h3 (by rw [h2, h4]; exact hk)
  · intro f hf r hr s hs hkr hks e
    obtain ⟨h1, h2⟩ := hidx r hr
    obtain ⟨h3, h4⟩ := hidx s hs
    have := C.all (fun i => f (row H i)) (fun t ht => by
      obtain ⟨i, j, h1, h2, rfl, h3⟩ := (hflt t).mp ht
      rw [ti_tie, tj_tie]
      exact hf _ (row_mem h2) _ (row_mem (by lia)) h3) _ _ h1 h3 e
    simpa [h2, h4] using this
  · have hGm : G = (List.range H.length).map (lb G) := by
      refine List.ext_getElem (by simp [C.len]) fun i h1 h2 => ?_
      simp [lb, h1]
    have hsp := nd_split (l := List.range H.length) (f := lb G) (sm := fun i => !big k (row H i)) ?_
    · rw [← hGm] at hsp
      rw [hsp]
      have e1 : ((List.range H.length).filter fun i => !big k (row H i)).length = (H.filter fun r => !big k r).length := by
        have h := List.filter_map (f := row H) (p := fun r => !big k r) (l := List.range H.length)
        rw [map_rows] at h
        rw [h, List.length_map]
        rfl
      have e2 : nd (((List.range H.length).filter fun i => !!big k (row H i)).map (lb G)) = nd ((H.filter (big k)).map fun r => lb G (H.idxOf r)) := by
        refine nd_congr fun x => ?_
        simp only [List.mem_map, List.mem_filter, List.mem_range, Bool.not_not]
        constructor
        · rintro ⟨i, ⟨hi, hk⟩, rfl⟩
          exact ⟨row H i, ⟨row_mem hi, hk⟩, (hlab i hi (of_decide_eq_true hk)).symm⟩
        · rintro ⟨r, ⟨hr, hk⟩, rfl⟩
          obtain ⟨h1, h2⟩ := hidx r hr
          exact ⟨_, ⟨h1, by rw [h2]; exact hk⟩, rfl⟩
      rw [e1, e2]
      lia
    · refine List.Pairwise.imp_of_mem ?_ (List.pairwise_lt_range (n := H.length))
      intro a b ha hb hab hsm e
      have ha := List.mem_range.mp ha
      have hb := List.mem_range.mp hb
      have sml : ∀ i, i < H.length → big k (row H i) = false → ∀ j, j < H.length → lb G j = lb G i → j = i := by
        intro i hi hs j hj e
        have := C.all (fun m => if m = i then 1 else 0) (fun t ht => by
          obtain ⟨a, b, h1, h2, rfl, h3⟩ := (hflt t).mp ht
          rw [ti_tie, tj_tie]
          have hs := of_decide_eq_false hs
          have l1 := cap_le (row H a) (row H b)
          have l2 := cap_le (row H b) (row H a)
          rw [hcc b a (by lia) h2] at l2
          rw [if_neg, if_neg]
          · intro q; subst q; lia
          · intro q; subst q; lia) j i hj hi e
        by_cases q : j = i
        · exact q
        · simp [q] at this
      rcases hsm with h | h
      · have := sml a ha (by simpa using h) b hb e.symm
        lia
      · have := sml b hb (by simpa using h) a ha e
        lia
theorem lack_form {H : List (List Nat)} (g : Good H) : ∃ h : Nat → List Nat → Int, (∀ k, Lb k H (h k)) ∧ lack H = sumT 5 (fun k => (nd ((H.filter (big k)).map (h k)) : Int)) - nd (rdNames H) := by
  refine ⟨fun k => Classical.choose (lab_at g k), fun k => (Classical.choose_spec (lab_at g k)).1, ?_⟩
  rw [lack_eq g]
  have e : ∀ k, k < 5 → (nd (gL H.length (flt k (lkAll H))) : Int) = (((H.filter fun r => !big k r).length : Int) + nd ((H.filter (big k)).map (Classical.choose (lab_at g k)))) := fun k _ => (Classical.choose_spec (lab_at g k)).2
  unfold Sv
  rw [sumT_congr e, sumT_add]
  have e2 : sumT 5 (fun k => ((H.filter fun r => !big k r).length : Int)) + sumT 5 (fun k => ((H.filter (big k)).length : Int)) = 5 * H.length := by
    rw [← sumT_add]
    have h2 := sumT_ind (w := 5) (c := (H.length : Int)) (T := 5)
    rw [sumT_congr (g := fun k => if k + 1 ≤ 5 then (H.length : Int) else 0) fun k hk => by
      rw [len_big, if_pos (by lia)]
      lia, h2]
    rfl
  rw [sum_big g] at e2
  dsimp only
  lia
/-! ## lack stays -/
theorem lb_same {k : Nat} {H : List (List Nat)} {h h' : List Nat → Int} (a : Lb k H h) (b : Lb k H h') : nd ((H.filter (big k)).map h) = nd ((H.filter (big k)).map h') := by
  refine nd_map fun r hr s hs => ?_
  obtain ⟨r1, r2⟩ := List.mem_filter.mp hr
  obtain ⟨s1, s2⟩ := List.mem_filter.mp hs
  have r2 := of_decide_eq_true r2
  have s2 := of_decide_eq_true s2
  exact ⟨fun e => a.all h' b.tie r r1 s s1 r2 s2 e, fun e => b.all h a.tie r r1 s s1 r2 s2 e⟩
theorem lack_e2 {H H' : List (List Nat)} (g : Good H) (e : E2 H H') : lack H' = lack H := by
  obtain ⟨e1, e2⟩ := e
  have g' : Good H' := fun r hr => g r (e1 r hr)
  obtain ⟨h, hL, hv⟩ := lack_form g
  obtain ⟨h', hL', hv'⟩ := lack_form g'
  have hn : nd (rdNames H') = nd (rdNames H) := nd_congr fun x => by
    rw [mem_rdNames, mem_rdNames]
    constructor
    · rintro ⟨r, hr, hx⟩; exact ⟨r, e1 r hr, hx⟩
    · rintro ⟨r, hr, hx⟩
      obtain ⟨q, hq, hs⟩ := e2 r hr
      exact ⟨q, hq, hs x hx⟩
  rw [hv, hv', hn]
  congr 1
  refine sumT_congr fun k _ => ?_
  have hq : ∀ r, ∃ q, r ∈ H → q ∈ H' ∧ ∀ x ∈ r, x ∈ q := fun r => by
    by_cases m : r ∈ H
    · obtain ⟨q, a, b⟩ := e2 r m
      exact ⟨q, fun _ => ⟨a, b⟩⟩
    · exact ⟨r, fun q => absurd q m⟩
  obtain ⟨up, hup⟩ := Classical.axiomOfChoice hq
  have capup : ∀ r ∈ H, cap r (up r) = r := fun r hr => List.filter_eq_self.mpr fun x hx => decide_eq_true ((hup r hr).2 x hx)
  have capmono : ∀ r ∈ H, ∀ s ∈ H, (cap r s).length ≤ (cap (up r) (up s)).length := fun r hr s hs =>
    nodup_len_le (nodup_filter (g r hr).1.nodup _) fun x hx => by
      obtain ⟨h1, h2⟩ := mem_cap.mp hx
      exact mem_cap.mpr ⟨(hup r hr).2 x h1, (hup s hs).2 x h2⟩
  have uplen : ∀ r ∈ H, r.length ≤ (up r).length := fun r hr => nodup_len_le (g r hr).1.nodup (hup r hr).2
  have hh : Lb k H' (h k) := by
    refine ⟨fun r hr s hs c => (hL k).tie r (e1 r hr) s (e1 s hs) c, fun f hf r hr s hs kr ks eq => ?_⟩
    have := (hL k).all (fun p => f (up p)) (fun p hp q hq c => hf _ (hup p hp).1 _ (hup q hq).1 (Nat.le_trans c (capmono p hp q hq))) r (e1 r hr) s (e1 s hs) kr ks eq
    have ur := hf r hr (up r) (hup r (e1 r hr)).1 (by rw [capup r (e1 r hr)]; exact kr)
    have us := hf s hs (up s) (hup s (e1 s hs)).1 (by rw [capup s (e1 s hs)]; exact ks)
    rw [ur, us]
    exact this
  rw [lb_same (hL' k) hh]
  congr 1
  refine nd_congr fun x => ?_
  simp only [List.mem_map, List.mem_filter]
  constructor
  · rintro ⟨r, ⟨hr, hk⟩, rfl⟩
    exact ⟨r, ⟨e1 r hr, hk⟩, rfl⟩
  · rintro ⟨r, ⟨hr, hk⟩, rfl⟩
    have kr := of_decide_eq_true hk
    have := uplen r hr
    exact ⟨up r, ⟨(hup r hr).1, decide_eq_true (by lia)⟩, ((hL k).tie r hr (up r) (e1 _ (hup r hr).1) (by rw [capup r hr]; exact kr)).symm⟩
end Mine
end

section
open PySem PySem.W PyProof.Rows PySem.Calls
set_option Elab.async false
set_option autoImplicit false
set_option linter.unusedVariables false
set_option linter.unusedSectionVars false
set_option maxRecDepth 100000
namespace Mine
theorem names_flt (K : Nat → Bool) (H : List (List Nat)) : rdNames (H.map fun r => r.filter K) = (rdNames H).filter K := by
  induction H with
  | nil => rfl
  | cons r H ih => rw [List.map_cons, rdNames_cons, rdNames_cons, ih, List.filter_append]
theorem len_split (p : Nat → Bool) (l : List Nat) : l.length = (l.filter p).length + (l.filter fun x => !p x).length := by
  induction l with
  | nil => rfl
  | cons a l ih =>
    cases q : p a
    · rw [List.filter_cons_of_neg (by simp [q]), List.filter_cons_of_pos (by simp [q])]
      simp only [List.length_cons]
      lia
    · rw [List.filter_cons_of_pos (by simp [q]), List.filter_cons_of_neg (by simp [q])]
      simp only [List.length_cons]
      lia
theorem lone_pair {p : Nat → Bool} : ∀ {l : List Nat}, (∀ x, p x = true → l.count x < 2) → l.Pairwise fun i j => (p i = true ∨ p j = true) → i ≠ j
  | [], _ => .nil
  | a :: l, h => by
    refine List.pairwise_cons.mpr ⟨fun b hb hp e => ?_, lone_pair fun x hx => ?_⟩
    · subst e
      have := h a (hp.elim id id)
      rw [List.count_cons_self] at this
      have := List.count_pos_iff.mpr hb
      lia
    · have := h x hx
      rw [List.count_cons] at this
      lia
theorem row_map {K : Nat → Bool} {H : List (List Nat)} {i : Nat} (h : i < H.length) : row (H.map fun r => r.filter K) i = (row H i).filter K := by
  unfold row
  simp [h]
theorem lack_lone {H : List (List Nat)} {K : Nat → Bool} (h1 : ∀ x, K x = false → (rdNames H).count x < 2) (h2 : ∀ x, K x = false → ∀ i j, j < i → i < H.length → x ∈ row H i → x ∉ row H j) : lack (H.map fun r => r.filter K) = lack H := by
  have hf : lkFirst (H.map fun r => r.filter K) = lkFirst H := by
    rw [lkFirst_eq, lkFirst_eq, names_flt]
    have hs := nd_split (l := rdNames H) (f := fun x => x) (sm := fun x => !K x) (lone_pair fun x hx => h1 x (by simpa using hx))
    have hl := len_split K (rdNames H)
    have hs' : nd (rdNames H) = ((rdNames H).filter fun x => !K x).length + nd ((rdNames H).filter K) := by simpa using hs
    lia
  have ht : lkTiesI (H.map fun r => r.filter K) = lkTiesI H := by
    unfold lkTiesI
    rw [List.length_map, List.flatMap_def, List.flatMap_def]
    congr 1
    refine List.map_congr_left fun i hi => List.map_congr_left fun j hj => ?_
    obtain ⟨a, b⟩ := mem_rangeL.mp hi
    obtain ⟨c, d⟩ := mem_rangeL.mp hj
    have e1 := row_map (K := K) (H := H) (i := i.toNat) (by lia)
    have e2 := row_map (K := K) (H := H) (i := j.toNat) (by lia)
    unfold row at e1 e2
    rw [e1, e2, List.filter_filter]
    congr 3
    refine List.filter_congr fun x hx => ?_
    rw [Bool.eq_iff_iff]
    simp only [Bool.and_eq_true, decide_eq_true_eq, List.mem_filter]
    constructor
    · rintro ⟨⟨q, _⟩, _⟩; exact q
    · intro q
      cases k : K x
      · exact absurd q (h2 x k i.toNat j.toNat (by lia) (by lia) hx)
      · exact ⟨⟨q, rfl⟩, rfl⟩
  unfold lack lkAll lkTies
  rw [ht, hf, List.length_map]
theorem lack_kept {H : List (List Nat)} (g : Good H) (hn : H.Nodup) : lack (rdKept H) = lack H := by
  have h1 := lack_lone (H := H) (K := fun x => decide (x ∈ rdShared H)) (fun x hx => by
    have := of_decide_eq_false hx
    rw [mem_shared] at this
    lia) (fun x hx i j hij hi a b => by
    have := lone_one g (fun q => of_decide_eq_false hx (mem_shared.mpr q)) (row_mem hi) (row_mem (by lia : j < H.length)) a b
    unfold row at this
    rw [List.getD_eq_getElem?_getD, List.getD_eq_getElem?_getD, List.getElem?_eq_getElem hi, List.getElem?_eq_getElem (by lia : j < H.length)] at this
    have := (List.pairwise_iff_getElem.mp (List.nodup_iff_pairwise_ne.mp hn)) j i (by lia) hi hij
    exact this (by symm; assumption))
  have g1 : Good (H.map fun r => r.filter fun x => decide (x ∈ rdShared H)) := fun r hr => by
    obtain ⟨q, hq, rfl⟩ := List.mem_map.mp hr
    exact (g q hq).filter _
  have e : E2 (H.map fun r => r.filter fun x => decide (x ∈ rdShared H)) (rdFewer H) := ⟨fun r hr => dedupL_mem.mp hr, fun r hr => ⟨r, dedupL_mem.mpr hr, fun x hx => hx⟩⟩
  rw [lack_e2 (rdFewer_good g) (rd_e2 g), lack_e2 g1 e, h1]
theorem dedup_e2 (H : List (List Nat)) : E2 H (dedupL H) := ⟨fun r hr => dedupL_mem.mp hr, fun r hr => ⟨r, dedupL_mem.mpr hr, fun x hx => hx⟩⟩
theorem all_but_fin {rows : List (List Nat)} (g : Good rows) (h10 : rows.length ≤ 10) : ∃ r, rounds 20 (dedupL rows) = some r ∧ Good r ∧ rdKept r = r ∧ Rel rows r ∧ r.length ≤ 10 ∧ lack r = lack rows := by
  have gd : Good (dedupL rows) := fun r hr => g r (dedupL_mem.mp hr)
  obtain ⟨r, hr, ⟨_, p1, p2, p3⟩, gr, fx⟩ := rounds_end (P := fun H => H.Nodup ∧ Rel rows H ∧ H.length ≤ 10 ∧ lack H = lack rows)
    (fun H gH ⟨n, a, b, c⟩ => ⟨rdKept_nodup H, a.trans (rd_rel gH), Nat.le_trans (rdKept_len H) b, by rw [lack_kept gH n, c]⟩)
    gd ⟨dedupL_nodup _, (dedup_e2 rows).rel g, Nat.le_trans (dedupL_len rows) h10, lack_e2 g (dedup_e2 rows)⟩
  exact ⟨r, hr, gr, fx, p1, p2, p3⟩
end Mine
end

section
open PySem PySem.W PyProof.Rows PySem.Calls
set_option Elab.async false
set_option autoImplicit false
set_option linter.unusedVariables false
set_option linter.unusedSectionVars false
set_option maxRecDepth 100000
namespace Mine
section
variable {α : Type}
def sumN (l : List α) (f : α → Nat) : Nat := (l.map f).sum
theorem sumN_cons (a : α) (l : List α) (f : α → Nat) : sumN (a :: l) f = f a + sumN l f := rfl
theorem sumN_add {f g : α → Nat} : ∀ {l : List α}, sumN l (fun x => f x + g x) = sumN l f + sumN l g
  | [] => rfl
  | a :: l => by rw [sumN_cons, sumN_cons, sumN_cons, sumN_add]; lia
theorem sumN_congr {f g : α → Nat} : ∀ {l : List α}, (∀ x ∈ l, f x = g x) → sumN l f = sumN l g
  | [], _ => rfl
  | a :: l, h => by rw [sumN_cons, sumN_cons, h a (.head _), sumN_congr fun x hx => h x (.tail _ hx)]
theorem sumN_le {f g : α → Nat} : ∀ {l : List α}, (∀ x ∈ l, f x ≤ g x) → sumN l f ≤ sumN l g
  | [], _ => Nat.le_refl _
  | a :: l, h => by
    have h1 := h a (.head _)
    have h2 := sumN_le (l := l) fun x hx => h x (.tail _ hx)
    rw [sumN_cons, sumN_cons]
    lia
theorem sumN_ge {f : α → Nat} : ∀ {l : List α}, (∀ x ∈ l, 1 ≤ f x) → l.length ≤ sumN l f
  | [], _ => Nat.le_refl _
  | a :: l, h => by
    have h1 := h a (.head _)
    have h2 := sumN_ge (l := l) fun x hx => h x (.tail _ hx)
    rw [sumN_cons, List.length_cons]
    lia
theorem sumN_tight {f : α → Nat} : ∀ {l : List α}, (∀ x ∈ l, 1 ≤ f x) → sumN l f ≤ l.length → ∀ x ∈ l, f x ≤ 1
  | [], _, _, x, hx => by cases hx
  | a :: l, h, hs, x, hx => by
    have h1 := h a (.head _)
    have h2 := sumN_ge (l := l) fun x hx => h x (.tail _ hx)
    rw [sumN_cons, List.length_cons] at hs
    rcases List.mem_cons.mp hx with rfl | hx
    · lia
    · exact sumN_tight (fun x hx => h x (.tail _ hx)) (by lia) x hx
theorem sumN_ind {p : α → Prop} [DecidablePred p] : ∀ {l : List α}, sumN l (fun x => if p x then 1 else 0) = (l.filter fun x => decide (p x)).length
  | [] => rfl
  | a :: l => by
    rw [sumN_cons, sumN_ind]
    by_cases q : p a
    · rw [if_pos q, List.filter_cons_of_pos (by simpa using q), List.length_cons]; lia
    · rw [if_neg q, List.filter_cons_of_neg (by simpa using q)]; lia
end
theorem sumN_count {N : List Nat} (hN : N.Nodup) : ∀ {l : List Nat}, (∀ x ∈ l, x ∈ N) → sumN N (fun x => l.count x) = l.length
  | [], _ => by
    have : ∀ N : List Nat, sumN N (fun x => ([] : List Nat).count x) = 0 := fun N => by
      induction N with
      | nil => rfl
      | cons a N ih => rw [sumN_cons, ih]; rfl
    exact this N
  | a :: l, h => by
    have e : ∀ x ∈ N, (a :: l).count x = l.count x + if a = x then 1 else 0 := fun x _ => by
      rw [List.count_cons]
      by_cases q : a = x <;> simp [q]
    rw [sumN_congr e, sumN_add, sumN_count hN fun x hx => h x (.tail _ hx), sumN_ind, List.length_cons]
    congr 1
    have h1 := count_one hN (h a (.head _))
    rw [List.count_eq_countP, List.countP_eq_length_filter] at h1
    rw [← h1]
    congr 1
    refine List.filter_congr fun x _ => ?_
    rw [Bool.eq_iff_iff]
    simp only [decide_eq_true_eq, beq_iff_eq]
    exact ⟨fun q => q.symm, fun q => q.symm⟩
/-! ## the potential -/
def lx (H : List (List Nat)) (G : List Int) (x : Nat) : List Int := ((List.range H.length).filter fun i => decide (x ∈ row H i)).map (lb G)
theorem mem_lx {H : List (List Nat)} {G : List Int} {x : Nat} {c : Int} : c ∈ lx H G x ↔ ∃ i, i < H.length ∧ x ∈ row H i ∧ lb G i = c := by
  unfold lx
  simp only [List.mem_map, List.mem_filter, List.mem_range, decide_eq_true_eq]
  constructor
  · rintro ⟨i, ⟨a, b⟩, c⟩; exact ⟨i, a, b, c⟩
  · rintro ⟨i, a, b, c⟩; exact ⟨i, ⟨a, b⟩, c⟩
def Ns (H : List (List Nat)) : List Nat := dedupL (rdNames H)
def Phi (H : List (List Nat)) (G : List Int) : Nat := sumN (Ns H) fun x => nd (lx H G x)
theorem phi_start {H : List (List Nat)} (g : Good H) (G : List Int) : Phi H G ≤ (rdNames H).length := by
  unfold Phi
  refine Nat.le_trans (sumN_le (g := fun x => (rdNames H).count x) fun x _ => ?_) (Nat.le_of_eq (sumN_count (dedupL_nodup _) fun x hx => dedupL_mem.mpr hx))
  refine Nat.le_trans (nd_le _) (Nat.le_of_eq ?_)
  unfold lx
  rw [List.length_map, cntN g]
  have h := List.filter_map (f := row H) (p := fun r => decide (x ∈ r)) (l := List.range H.length)
  rw [map_rows] at h
  rw [h, List.length_map]
  rfl
theorem phi_step {H : List (List Nat)} {G t : List Int} (hl : G.length = H.length) (ne : lb G (ti t) ≠ lb G (tj t)) :
    Phi H (lkLab G t) + ((Ns H).filter fun x => decide (lb G (ti t) ∈ lx H G x ∧ lb G (tj t) ∈ lx H G x)).length = Phi H G := by
  unfold Phi
  rw [← sumN_ind, ← sumN_add]
  refine sumN_congr fun x _ => ?_
  have e : lx H (lkLab G t) x = (lx H G x).map fun c => if c = lb G (tj t) then lb G (ti t) else c := by
    unfold lx
    rw [List.map_map]
    refine List.map_congr_left fun i hi => ?_
    have := List.mem_range.mp (mem_flt hi)
    exact lkLab_lb (by lia)
  rw [e]
  exact nd_merge ne
/-- a leaf-like place, other than the one that is named, in each group -/
def LL (H : List (List Nat)) (G : List Int) : Prop :=
  ∀ i, i < H.length → (∃ k, k < H.length ∧ k ≠ i ∧ lb G k = lb G i) → ∃ p, p < H.length ∧ p ≠ i ∧ lb G p = lb G i ∧ ∃ s, s < H.length ∧ s ≠ p ∧ lb G s = lb G p ∧
    ∀ x ∈ row H p, (∃ q, q < H.length ∧ q ≠ p ∧ lb G q = lb G p ∧ x ∈ row H q) → x ∈ row H s
theorem ll_side {H : List (List Nat)} {G : List Int} (ll : LL H G) {i j : Nat} (hi : i < H.length) (hj : j < H.length) (ne : lb G i ≠ lb G j)
    (T : ∀ x, (∃ p, p < H.length ∧ x ∈ row H p ∧ lb G p = lb G i) → (∃ p, p < H.length ∧ x ∈ row H p ∧ lb G p = lb G j) → x ∈ row H i ∧ x ∈ row H j) :
    ∃ p, p < H.length ∧ lb G p = lb G j ∧ ∃ s, s < H.length ∧ s ≠ p ∧ (lb G s = lb G i ∨ lb G s = lb G j) ∧
      ∀ x ∈ row H p, (∃ q, q < H.length ∧ q ≠ p ∧ (lb G q = lb G i ∨ lb G q = lb G j) ∧ x ∈ row H q) → x ∈ row H s := by
  by_cases h : ∃ k, k < H.length ∧ k ≠ j ∧ lb G k = lb G j
  · obtain ⟨p, hp, hpj, ep, s, hs, hsp, es, c⟩ := ll j hj h
    refine ⟨p, hp, ep, s, hs, hsp, .inr (es.trans ep), fun x hx ⟨q, hq, hqp, eq, hxq⟩ => ?_⟩
    rcases eq with eq | eq
    · have := T x ⟨q, hq, hxq, eq⟩ ⟨p, hp, hx, ep⟩
      exact c x hx ⟨j, hj, fun e => hpj e.symm, ep.symm, this.2⟩
    · exact c x hx ⟨q, hq, hqp, eq.trans ep.symm, hxq⟩
  · refine ⟨j, hj, rfl, i, hi, fun e => ne (by rw [e]), .inl rfl, fun x hx ⟨q, hq, hqp, eq, hxq⟩ => ?_⟩
    rcases eq with eq | eq
    · exact (T x ⟨q, hq, hxq, eq⟩ ⟨j, hj, hx, rfl⟩).1
    · exact absurd ⟨q, hq, hqp, eq⟩ h
theorem ll_step {H : List (List Nat)} {G t : List Int} (hl : G.length = H.length) (ll : LL H G) (hi : ti t < H.length) (hj : tj t < H.length) (ne : lb G (ti t) ≠ lb G (tj t))
    (T : ∀ x, (∃ p, p < H.length ∧ x ∈ row H p ∧ lb G p = lb G (ti t)) → (∃ p, p < H.length ∧ x ∈ row H p ∧ lb G p = lb G (tj t)) → x ∈ row H (ti t) ∧ x ∈ row H (tj t)) : LL H (lkLab G t) := by
  have L : ∀ k, k < H.length → lb (lkLab G t) k = if lb G k = lb G (tj t) then lb G (ti t) else lb G k := fun k hk => lkLab_lb (by lia)
  have L2 : ∀ k, k < H.length → (lb (lkLab G t) k = lb G (ti t) ↔ lb G k = lb G (ti t) ∨ lb G k = lb G (tj t)) := fun k hk => by
    rw [L k hk]
    split
    · exact ⟨fun _ => .inr ‹_›, fun _ => rfl⟩
    · exact ⟨.inl, fun h => h.resolve_right ‹_›⟩
  have L3 : ∀ k, k < H.length → ∀ c, c ≠ lb G (ti t) → c ≠ lb G (tj t) → (lb (lkLab G t) k = c ↔ lb G k = c) := fun k hk c c1 c2 => by
    rw [L k hk]
    split
    · rename_i e
      exact ⟨fun h => absurd h.symm c1, fun h => absurd (h.symm.trans e) c2⟩
    · exact Iff.rfl
  intro i0 h0 hk
  by_cases q : lb (lkLab G t) i0 = lb G (ti t)
  · have fin : ∀ p s, p < H.length → s < H.length → p ≠ i0 → s ≠ p → (lb G p = lb G (ti t) ∨ lb G p = lb G (tj t)) → (lb G s = lb G (ti t) ∨ lb G s = lb G (tj t)) →
        (∀ x ∈ row H p, (∃ q, q < H.length ∧ q ≠ p ∧ (lb G q = lb G (ti t) ∨ lb G q = lb G (tj t)) ∧ x ∈ row H q) → x ∈ row H s) →
        ∃ p, p < H.length ∧ p ≠ i0 ∧ lb (lkLab G t) p = lb (lkLab G t) i0 ∧ ∃ s, s < H.length ∧ s ≠ p ∧ lb (lkLab G t) s = lb (lkLab G t) p ∧
          ∀ x ∈ row H p, (∃ q, q < H.length ∧ q ≠ p ∧ lb (lkLab G t) q = lb (lkLab G t) p ∧ x ∈ row H q) → x ∈ row H s := by
      intro p s hp hs hpi hsp ep es c
      have ep' := (L2 p hp).mpr ep
      refine ⟨p, hp, hpi, ep'.trans q.symm, s, hs, hsp, ((L2 s hs).mpr es).trans ep'.symm, fun x hx ⟨u, hu, hup, eu, hxu⟩ => c x hx ⟨u, hu, hup, (L2 u hu).mp (eu.trans ep'), hxu⟩⟩
    rcases (L2 i0 h0).mp q with q' | q'
    · obtain ⟨p, hp, ep, s, hs, hsp, es, c⟩ := ll_side ll hi hj ne T
      exact fin p s hp hs (fun e => ne (by rw [← q', ← ep, e])) hsp (.inr ep) es c
    · obtain ⟨p, hp, ep, s, hs, hsp, es, c⟩ := ll_side ll hj hi (fun e => ne e.symm) (fun x a b => (T x b a).symm)
      exact fin p s hp hs (fun e => ne (by rw [← ep, ← q', e])) hsp (.inl ep) es.symm fun x hx ⟨u, hu, hup, eu, hxu⟩ => c x hx ⟨u, hu, hup, eu.symm, hxu⟩
  · have q1 : lb G i0 ≠ lb G (tj t) := fun e => q ((L2 i0 h0).mpr (.inr e))
    have q2 : lb G i0 ≠ lb G (ti t) := fun e => q ((L2 i0 h0).mpr (.inl e))
    have e0 : lb (lkLab G t) i0 = lb G i0 := (L3 i0 h0 _ q2 q1).mpr rfl
    have same : ∀ k, k < H.length → (lb (lkLab G t) k = lb (lkLab G t) i0 ↔ lb G k = lb G i0) := fun k hk => by rw [e0]; exact L3 k hk _ q2 q1
    obtain ⟨k, hk1, hk2, hk3⟩ := hk
    obtain ⟨p, hp, hpi, ep, s, hs, hsp, es, c⟩ := ll i0 h0 ⟨k, hk1, hk2, (same k hk1).mp hk3⟩
    have ep' := (same p hp).mpr ep
    refine ⟨p, hp, hpi, ep', s, hs, hsp, ((same s hs).mpr (es.trans ep)).trans ep'.symm, fun x hx ⟨u, hu, hup, eu, hxu⟩ => c x hx ⟨u, hu, hup, ?_, hxu⟩⟩
    exact ((same u hu).mp (eu.trans ep')).trans ep.symm
theorem pot_fold {H : List (List Nat)} (g : Good H) : ∀ (M : List (List Int)) (v : Int) (G : List Int), (∀ t ∈ M, ∃ i j : Nat, j < i ∧ i < H.length ∧ t = tie H i j) → G.length = H.length → Phi H G ≤ v + nd (rdNames H) →
    (v + nd (rdNames H) ≤ Phi H G → LL H G) →
    ∃ G', (M.foldl lkStep (v, G)).2 = G' ∧ (Phi H G' : Int) ≤ (M.foldl lkStep (v, G)).1 + nd (rdNames H) ∧ ((M.foldl lkStep (v, G)).1 + nd (rdNames H) ≤ Phi H G' → LL H G') := by
  intro M
  induction M with
  | nil => intro v G _ _ h1 h2; exact ⟨G, rfl, h1, h2⟩
  | cons t M ih =>
    intro v G hM hl h1 h2
    obtain ⟨i, j, hji, hi, rfl⟩ := hM t (.head _)
    rw [List.foldl_cons, lkStep_eq]
    by_cases q : lb G (ti (tie H i j)) = lb G (tj (tie H i j))
    · rw [if_pos q]
      have : lkLab G (tie H i j) = G := by unfold lkLab; rw [if_pos q]
      rw [this]
      exact ih v G (fun t ht => hM t (.tail _ ht)) hl h1 h2
    · rw [if_neg q]
      have hs := phi_step hl q
      have hsub : ∀ x ∈ cap (row H i) (row H j), x ∈ (Ns H).filter fun x => decide (lb G (ti (tie H i j)) ∈ lx H G x ∧ lb G (tj (tie H i j)) ∈ lx H G x) := fun x hx => by
        obtain ⟨a, b⟩ := mem_cap.mp hx
        refine List.mem_filter.mpr ⟨dedupL_mem.mpr (mem_rdNames.mpr ⟨_, row_mem hi, a⟩), decide_eq_true ⟨mem_lx.mpr ⟨i, hi, a, by rw [ti_tie]⟩, mem_lx.mpr ⟨j, by lia, b, by rw [tj_tie]⟩⟩⟩
      have hcn : (cap (row H i) (row H j)).Nodup := nodup_filter (g _ (row_mem hi)).1.nodup _
      have hle := nodup_len_le hcn hsub
      have hw : (tie H i j).getD 0 0 = ((cap (row H i) (row H j)).length : Int) := rfl
      refine ih _ _ (fun t ht => hM t (.tail _ ht)) (by rw [lkLab_len]; exact hl) (by rw [hw]; lia) fun h3 => ?_
      rw [hw] at h3
      refine ll_step hl (h2 (by lia)) (by rw [ti_tie]; exact hi) (by rw [tj_tie]; lia) q fun x ⟨p, hp, hxp, ep⟩ ⟨p', hp', hxp', ep'⟩ => ?_
      have := nodup_sub_eq hcn hsub (by lia) x (List.mem_filter.mpr ⟨dedupL_mem.mpr (mem_rdNames.mpr ⟨_, row_mem hp, hxp⟩), decide_eq_true ⟨mem_lx.mpr ⟨p, hp, hxp, ep⟩, mem_lx.mpr ⟨p', hp', hxp', ep'⟩⟩⟩)
      rw [ti_tie, tj_tie]
      exact mem_cap.mp this
theorem lack_pos {H : List (List Nat)} (g : Good H) (I : Irr H) (h0 : lack H = 0) : ∀ r ∈ H, r = [] := by
  obtain ⟨G, hG, h1, h2⟩ := pot_fold g (lkAll H) (lkFirst H) (rangeL 0 H.length) (fun t ht => mem_lkAll.mp ht) (by rw [rangeL_len]; lia)
    (by rw [lkFirst_eq]; have := phi_start g (rangeL 0 H.length); lia)
    (fun _ i hi ⟨k, hk, hki, e⟩ => by rw [lb_range hk, lb_range hi] at e; lia)
  have hv : ((lkAll H).foldl lkStep (lkFirst H, rangeL 0 H.length)).1 = 0 := h0
  rw [hv, Int.zero_add] at h1 h2
  have hpos : ∀ x ∈ Ns H, 1 ≤ nd (lx H G x) := fun x hx => by
    obtain ⟨r, hr, hxr⟩ := mem_rdNames.mp (dedupL_mem.mp hx)
    obtain ⟨i, hi, rfl⟩ := row_of_mem hr
    exact nd_pos (mem_lx.mpr ⟨i, hi, hxr, rfl⟩)
  have hN : (Ns H).length = nd (rdNames H) := rfl
  have hge := sumN_ge hpos
  have hP : Phi H G = sumN (Ns H) fun x => nd (lx H G x) := rfl
  have ll := h2 (by lia)
  have one := sumN_tight hpos (by lia)
  have lab : ∀ x p q, p < H.length → q < H.length → x ∈ row H p → x ∈ row H q → lb G p = lb G q := fun x p q hp hq hxp hxq =>
    nd_one (one x (dedupL_mem.mpr (mem_rdNames.mpr ⟨_, row_mem hp, hxp⟩))) (mem_lx.mpr ⟨p, hp, hxp, rfl⟩) (mem_lx.mpr ⟨q, hq, hxq, rfl⟩)
  have other : ∀ x p, p < H.length → x ∈ row H p → ∃ q, q < H.length ∧ q ≠ p ∧ x ∈ row H q := fun x p hp hx => by
    obtain ⟨r, hr, hne, hxr⟩ := I.two _ (row_mem hp) x hx
    obtain ⟨q, hq, rfl⟩ := row_of_mem hr
    exact ⟨q, hq, fun e => hne (by rw [e]), hxr⟩
  intro r hr
  refine Classical.byContradiction fun hne => ?_
  obtain ⟨x, hx⟩ := List.exists_mem_of_ne_nil r hne
  obtain ⟨i, hi, rfl⟩ := row_of_mem hr
  obtain ⟨k, hk, hki, hxk⟩ := other x i hi hx
  obtain ⟨p, hp, _, _, s, hs, hsp, _, c⟩ := ll i hi ⟨k, hk, hki, lab x k i hk hi hxk hx⟩
  have := I.anti _ (row_mem hp) _ (row_mem hs) fun y hy => by
    obtain ⟨q, hq, hqp, hyq⟩ := other y p hp hy
    exact c y hy ⟨q, hq, hqp, lab y q p hq hp hyq hy, hyq⟩
  have hnp := List.pairwise_iff_getElem.mp (List.nodup_iff_pairwise_ne.mp I.nodup)
  unfold row at this
  rw [List.getD_eq_getElem?_getD, List.getD_eq_getElem?_getD, List.getElem?_eq_getElem hp, List.getElem?_eq_getElem hs] at this
  rcases Nat.lt_or_gt_of_ne hsp with q | q
  · exact hnp s p hs hp q (by symm; assumption)
  · exact hnp p s hp hs q (by assumption)
end Mine
end

section
open PySem PySem.W PyProof.Rows PySem.Calls
set_option Elab.async false
set_option autoImplicit false
set_option linter.unusedVariables false
set_option linter.unusedSectionVars false
set_option maxRecDepth 100000
namespace Mine
theorem lack_nil : lack ([] : List (List Nat)) = 0 := by decide +kernel
theorem lack_one : lack ([[]] : List (List Nat)) = 0 := by decide +kernel
theorem fin_ok {r : List (List Nat)} (g : Good r) (I : Irr r) : decide (lack r = 0) = decide (r.filter (fun q => !decide (q = [])) = []) := by
  rw [Bool.eq_iff_iff, decide_eq_true_eq, decide_eq_true_eq, List.filter_eq_nil_iff]
  constructor
  · intro h q hq
    simp [lack_pos g I h q hq]
  · intro h
    have h' : ∀ q ∈ r, q = [] := fun q hq => by have := h q hq; simpa using this
    have hn := I.nodup
    match r, h', hn with
    | [], _, _ => exact lack_nil
    | [q], h', _ => rw [h' q (.head _)]; exact lack_one
    | p :: q :: l, h', hn =>
      have := (List.nodup_cons.mp hn).1
      rw [h' p (.head _), h' q (.tail _ (.head _))] at this
      exact absurd (.head _) this
theorem law_ok (ns : List Int) : ∃ r, LawOK (pieces (ns.take 10)) r := by
  have hp := pieces_ok (ns.take 10)
  have h10 : (ns.take 10).length ≤ 10 := by rw [List.length_take]; omega
  have hlen : (rowsOf (pieces (ns.take 10))).length ≤ 10 := by
    unfold rowsOf
    rw [List.length_map]
    have := hp.1
    omega
  obtain ⟨r, hr, gr, fx, rel, l10, hl⟩ := all_but_fin (rowsOf_good (pieces (ns.take 10))) hlen
  exact ⟨r, law_but hr gr fx rel l10 hl (by rw [← hl]; exact fin_ok gr (rd_fix_irr gr fx))⟩
end Mine
end
theorem PySem.Challenge.cw_op0014_01_holds : PySem.Challenge.rw_op0014_01.Holds :=
  Mine.holdsOf Mine.law_ok
