import PyProof.Rows.All
import Wide.All
import OpenK.AllK
import Wide.FinOn
import Lean
import PySem.Challenge.RW_wb0084_01
set_option Elab.async false
set_option compiler.extract_closed false
set_option linter.unusedVariables false
set_option linter.unusedSimpArgs false
section
open PySem PySem.W PyProof.Rows PySem.Spec PySem.Calls
namespace Mine
theorem room1 {d9z k9z N9z : Nat} (h9z : d9z + k9z < N9z) : d9z < N9z := Nat.lt_of_le_of_lt (Nat.le_add_right _ _) h9z
theorem room2 {d9z a9z k9z N9z : Nat} (h9z : d9z + k9z < N9z) (e9z : Nat.ble a9z k9z = true) : d9z + a9z < N9z := Nat.lt_of_le_of_lt (Nat.add_le_add_left (Nat.le_of_ble_eq_true e9z) d9z) h9z
theorem room3 {d9z a9z b9z k9z N9z : Nat} (h9z : d9z + k9z < N9z) (e9z : Nat.ble (a9z + b9z) k9z = true) : d9z + a9z + b9z < N9z := by rw [Nat.add_assoc]; exact room2 h9z e9z
theorem ile_lt {a9z b9z c9z : Int} (h9z : a9z ≤ b9z) (e9z : decide (b9z < c9z) = true) : a9z < c9z := Int.lt_of_le_of_lt h9z (of_decide_eq_true e9z)
theorem ilt_lt {a9z b9z c9z : Int} (h9z : a9z < b9z) (e9z : decide (b9z ≤ c9z) = true) : a9z < c9z := Int.lt_of_lt_of_le h9z (of_decide_eq_true e9z)
theorem ile_le {a9z b9z c9z : Int} (h9z : a9z ≤ b9z) (e9z : decide (b9z ≤ c9z) = true) : a9z ≤ c9z := Int.le_trans h9z (of_decide_eq_true e9z)
theorem ilt_le {a9z b9z c9z : Int} (h9z : a9z < b9z) (e9z : decide (b9z ≤ c9z) = true) : a9z ≤ c9z := Int.le_trans (Int.le_of_lt h9z) (of_decide_eq_true e9z)
theorem ige_le {a9z b9z c9z : Int} (h9z : b9z ≤ a9z) (e9z : decide (c9z ≤ b9z) = true) : c9z ≤ a9z := Int.le_trans (of_decide_eq_true e9z) h9z
theorem ige_lt {a9z b9z c9z : Int} (h9z : b9z ≤ a9z) (e9z : decide (c9z < b9z) = true) : c9z < a9z := Int.lt_of_lt_of_le (of_decide_eq_true e9z) h9z
theorem ige_ne {a9z b9z c9z : Int} (h9z : b9z ≤ a9z) (e9z : decide (c9z < b9z) = true) : a9z ≠ c9z := Int.ne_of_gt (ige_lt h9z e9z)
theorem nle_le {a9z b9z c9z : Nat} (h9z : a9z ≤ b9z) (e9z : Nat.ble b9z c9z = true) : a9z ≤ c9z := Nat.le_trans h9z (Nat.le_of_ble_eq_true e9z)
theorem nle_lt {a9z b9z c9z : Nat} (h9z : a9z ≤ b9z) (e9z : Nat.ble (b9z + 1) c9z = true) : a9z < c9z := Nat.lt_of_le_of_lt h9z (Nat.le_of_ble_eq_true e9z)
theorem nlt_lt {a9z b9z c9z : Nat} (h9z : a9z < b9z) (e9z : Nat.ble b9z c9z = true) : a9z < c9z := Nat.lt_of_lt_of_le h9z (Nat.le_of_ble_eq_true e9z)
theorem le_p2 {a9z : Nat} : a9z ≤ a9z + 1 + 1 := Nat.le_add_right a9z 2
theorem le_p3 {a9z : Nat} : a9z ≤ a9z + 1 + 1 + 1 := Nat.le_add_right a9z 3
theorem viaLt {a9z b9z x9z : Nat} {R9z : Prop} (h9z : x9z < b9z ∧ R9z) (k9z : x9z < b9z ∧ R9z → a9z < b9z) : a9z < b9z := k9z h9z
theorem viaTr {a9z b9z m9z : Nat} (p9z : a9z < m9z) (q9z : m9z < b9z) : a9z < b9z := Nat.lt_trans p9z q9z

theorem ne_lt9 {a9z b9z : Nat} (h9z : a9z < b9z) : a9z ≠ b9z := Nat.ne_of_lt h9z
theorem ne_gt9 {a9z b9z : Nat} (h9z : b9z < a9z) : a9z ≠ b9z := Nat.ne_of_gt h9z
theorem le_lt9 {a9z b9z : Nat} (h9z : a9z < b9z) : a9z ≤ b9z := Nat.le_of_lt h9z
theorem lt_s9 {a9z : Nat} : a9z < a9z + 1 := Nat.lt_succ_self a9z
theorem lt_a9 {a9z b9z c9z : Nat} (h9z : a9z < b9z) : a9z < b9z + c9z := Nat.lt_add_right c9z h9z
theorem le_a9 {a9z b9z : Nat} : a9z ≤ a9z + b9z := Nat.le_add_right a9z b9z
theorem prod2 {α1 α2 : Type} {P : α1 × α2 → Prop} (h : ∀ a1 a2, P (a1, a2)) (c : α1 × α2) : P c := h c.1 c.2
theorem prod3 {α1 α2 α3 : Type} {P : α1 × α2 × α3 → Prop} (h : ∀ a1 a2 a3, P (a1, a2, a3)) (c : α1 × α2 × α3) : P c := h c.1 c.2.1 c.2.2
theorem prod5 {α1 α2 α3 α4 α5 : Type} {P : α1 × α2 × α3 × α4 × α5 → Prop} (h : ∀ a1 a2 a3 a4 a5, P (a1, a2, a3, a4, a5)) (c : α1 × α2 × α3 × α4 × α5) : P c := h c.1 c.2.1 c.2.2.1 c.2.2.2.1 c.2.2.2.2
theorem prod6 {α1 α2 α3 α4 α5 α6 : Type} {P : α1 × α2 × α3 × α4 × α5 × α6 → Prop} (h : ∀ a1 a2 a3 a4 a5 a6, P (a1, a2, a3, a4, a5, a6)) (c : α1 × α2 × α3 × α4 × α5 × α6) : P c := h c.1 c.2.1 c.2.2.1 c.2.2.2.1 c.2.2.2.2.1 c.2.2.2.2.2
theorem prod7 {α1 α2 α3 α4 α5 α6 α7 : Type} {P : α1 × α2 × α3 × α4 × α5 × α6 × α7 → Prop} (h : ∀ a1 a2 a3 a4 a5 a6 a7, P (a1, a2, a3, a4, a5, a6, a7)) (c : α1 × α2 × α3 × α4 × α5 × α6 × α7) : P c := h c.1 c.2.1 c.2.2.1 c.2.2.2.1 c.2.2.2.2.1 c.2.2.2.2.2.1 c.2.2.2.2.2.2
theorem prod9 {α1 α2 α3 α4 α5 α6 α7 α8 α9 : Type} {P : α1 × α2 × α3 × α4 × α5 × α6 × α7 × α8 × α9 → Prop} (h : ∀ a1 a2 a3 a4 a5 a6 a7 a8 a9, P (a1, a2, a3, a4, a5, a6, a7, a8, a9)) (c : α1 × α2 × α3 × α4 × α5 × α6 × α7 × α8 × α9) : P c := h c.1 c.2.1 c.2.2.1 c.2.2.2.1 c.2.2.2.2.1 c.2.2.2.2.2.1 c.2.2.2.2.2.2.1 c.2.2.2.2.2.2.2.1 c.2.2.2.2.2.2.2.2
theorem and2 {A1 A2 G : Prop} (h : A1 ∧ A2) (k : A1 → A2 → G) : G := k h.1 h.2
theorem and4 {A1 A2 A3 A4 G : Prop} (h : A1 ∧ A2 ∧ A3 ∧ A4) (k : A1 → A2 → A3 → A4 → G) : G := k h.1 h.2.1 h.2.2.1 h.2.2.2
theorem and7 {A1 A2 A3 A4 A5 A6 A7 G : Prop} (h : A1 ∧ A2 ∧ A3 ∧ A4 ∧ A5 ∧ A6 ∧ A7) (k : A1 → A2 → A3 → A4 → A5 → A6 → A7 → G) : G := k h.1 h.2.1 h.2.2.1 h.2.2.2.1 h.2.2.2.2.1 h.2.2.2.2.2.1 h.2.2.2.2.2.2
theorem and8 {A1 A2 A3 A4 A5 A6 A7 A8 G : Prop} (h : A1 ∧ A2 ∧ A3 ∧ A4 ∧ A5 ∧ A6 ∧ A7 ∧ A8) (k : A1 → A2 → A3 → A4 → A5 → A6 → A7 → A8 → G) : G := k h.1 h.2.1 h.2.2.1 h.2.2.2.1 h.2.2.2.2.1 h.2.2.2.2.2.1 h.2.2.2.2.2.2.1 h.2.2.2.2.2.2.2
theorem ex1and2 {α1 : Type} {P1 P2 : α1 → Prop} {G : Prop} (h : ∃ x1, P1 x1 ∧ P2 x1) (k : ∀ x1, P1 x1 → P2 x1 → G) : G := Exists.elim h fun x1 q => k x1 q.1 q.2
theorem ex1and6 {α1 : Type} {P1 P2 P3 P4 P5 P6 : α1 → Prop} {G : Prop} (h : ∃ x1, P1 x1 ∧ P2 x1 ∧ P3 x1 ∧ P4 x1 ∧ P5 x1 ∧ P6 x1) (k : ∀ x1, P1 x1 → P2 x1 → P3 x1 → P4 x1 → P5 x1 → P6 x1 → G) : G := Exists.elim h fun x1 q => k x1 q.1 q.2.1 q.2.2.1 q.2.2.2.1 q.2.2.2.2.1 q.2.2.2.2.2
theorem ex2and4 {α1 α2 : Type} {P1 P2 P3 P4 : α1 → α2 → Prop} {G : Prop} (h : ∃ x1 x2, P1 x1 x2 ∧ P2 x1 x2 ∧ P3 x1 x2 ∧ P4 x1 x2) (k : ∀ x1 x2, P1 x1 x2 → P2 x1 x2 → P3 x1 x2 → P4 x1 x2 → G) : G := Exists.elim h fun x1 e1 => Exists.elim e1 fun x2 q => k x1 x2 q.1 q.2.1 q.2.2.1 q.2.2.2
theorem ex2and5 {α1 α2 : Type} {P1 P2 P3 P4 P5 : α1 → α2 → Prop} {G : Prop} (h : ∃ x1 x2, P1 x1 x2 ∧ P2 x1 x2 ∧ P3 x1 x2 ∧ P4 x1 x2 ∧ P5 x1 x2) (k : ∀ x1 x2, P1 x1 x2 → P2 x1 x2 → P3 x1 x2 → P4 x1 x2 → P5 x1 x2 → G) : G := Exists.elim h fun x1 e1 => Exists.elim e1 fun x2 q => k x1 x2 q.1 q.2.1 q.2.2.1 q.2.2.2.1 q.2.2.2.2
theorem ex3and4 {α1 α2 α3 : Type} {P1 P2 P3 P4 : α1 → α2 → α3 → Prop} {G : Prop} (h : ∃ x1 x2 x3, P1 x1 x2 x3 ∧ P2 x1 x2 x3 ∧ P3 x1 x2 x3 ∧ P4 x1 x2 x3) (k : ∀ x1 x2 x3, P1 x1 x2 x3 → P2 x1 x2 x3 → P3 x1 x2 x3 → P4 x1 x2 x3 → G) : G := Exists.elim h fun x1 e1 => Exists.elim e1 fun x2 e2 => Exists.elim e2 fun x3 q => k x1 x2 x3 q.1 q.2.1 q.2.2.1 q.2.2.2
theorem and10 {A1 A2 A3 A4 A5 A6 A7 A8 A9 A10 G : Prop} (h : A1 ∧ A2 ∧ A3 ∧ A4 ∧ A5 ∧ A6 ∧ A7 ∧ A8 ∧ A9 ∧ A10) (k : A1 → A2 → A3 → A4 → A5 → A6 → A7 → A8 → A9 → A10 → G) : G := k h.1 h.2.1 h.2.2.1 h.2.2.2.1 h.2.2.2.2.1 h.2.2.2.2.2.1 h.2.2.2.2.2.2.1 h.2.2.2.2.2.2.2.1 h.2.2.2.2.2.2.2.2.1 h.2.2.2.2.2.2.2.2.2
theorem any_QE0 {M : Model} {A : Around} {α : Type} {t : Sem α} {Q : α → Shared → Prop} {E : Value → Shared → Prop} {s : Shared}
    (h : ∀ (Q' : α → Shared → Prop) (E' : Value → Shared → Prop), (∀ f s', Q f s' → Q' f s') → wpAny M A t Q' E' s) : wpAny M A t Q E s := h Q E fun _ _ q => q
theorem roomk {d9z k9z c9z N9z : Nat} (h9z : d9z + (k9z + 1 + c9z) < N9z) : d9z + 1 + (k9z + c9z) < N9z := by rw [Nat.add_assoc d9z 1, ← Nat.add_assoc 1, Nat.add_comm 1 k9z]; exact h9z
theorem unitk {u9z k9z N9z : Nat} (h9z : u9z + (20 * (k9z + 1) + 50) < N9z) : u9z + 3 + (20 * k9z + 50) < N9z := by omega
theorem nabs_lt {x9z a9z b9z : Int} {N9z : Nat} (p9z : a9z ≤ x9z) (q9z : x9z < b9z) (e9z : decide (-(N9z : Int) < a9z ∧ b9z ≤ (N9z : Int)) = true) : x9z.natAbs < N9z := by have := of_decide_eq_true e9z; omega
theorem nabs_le {x9z a9z b9z : Int} {N9z : Nat} (p9z : a9z ≤ x9z) (q9z : x9z < b9z) (e9z : decide (-(N9z : Int) ≤ a9z ∧ b9z ≤ (N9z : Int) + 1) = true) : x9z.natAbs ≤ N9z := by have := of_decide_eq_true e9z; omega
theorem nabs_lt2 {x9z a9z b9z : Int} {N9z : Nat} (p9z : a9z ≤ x9z) (q9z : x9z ≤ b9z) (e9z : decide (-(N9z : Int) < a9z ∧ b9z < (N9z : Int)) = true) : x9z.natAbs < N9z := by have := of_decide_eq_true e9z; omega
theorem pm_lt {x9z a9z : Int} (h9z : x9z = 1 ∨ x9z = -1) (e9z : decide (1 < a9z) = true) : x9z < a9z := by have := of_decide_eq_true e9z; omega
theorem pm_gt {x9z a9z : Int} (h9z : x9z = 1 ∨ x9z = -1) (e9z : decide (a9z < -1) = true) : a9z < x9z := by have := of_decide_eq_true e9z; omega
theorem any_SQE {M : Model} {A : Around} {α : Type} {t : Sem α} {Q : α → Shared → Prop} {E : Value → Shared → Prop} {H : Heap} {G D : _} {T : Nat} {O : _}
    (h : ∀ (Q' : α → Shared → Prop) (E' : Value → Shared → Prop) g d o t0, (∀ f h' t', Q f ⟨h', G, D, t', O⟩ → Q' f ⟨h', g, d, t', o⟩) → wpAny M A t Q' E' ⟨H, g, d, t0, o⟩) : wpAny M A t Q E ⟨H, G, D, T, O⟩ := h Q E G D O T fun _ _ _ q => q
noncomputable def nh (A : Around) : Around := { A with handled := none }
theorem any_NQE {M : Model} {A : Around} {α : Type} {t : Sem α} {Q : α → Shared → Prop} {E : Value → Shared → Prop} {H : Heap} {G D : _} {T : Nat} {O : _} (hA : nh A = A)
    (h : ∀ (A' : Around) (Q' : α → Shared → Prop) (E' : Value → Shared → Prop) g d o t0, (∀ f h' t', Q f ⟨h', G, D, t', O⟩ → Q' f ⟨h', g, d, t', o⟩) → wpAny M (nh A') t Q' E' ⟨H, g, d, t0, o⟩) : wpAny M A t Q E ⟨H, G, D, T, O⟩ := hA ▸ h A Q E G D O T fun _ _ _ q => q
end Mine

end
section
open PySem PySem.W PyProof.Rows
set_option maxRecDepth 100000
set_option maxHeartbeats 0
namespace Mine
noncomputable section
noncomputable abbrev pw : Program := PySem.Challenge.pw_wb0084_01
noncomputable def stAt (i : Nat) : Stmt := (PySem.Challenge.pw_wb0084_01.main.body[i]?).getD (.Pass ⟨0, 0, 0, 0⟩)
noncomputable def parOf : Stmt → Arguments
  | .FunctionDef _ a _ _ _ _ _ _ _ _ => a
  | _ => { posonlyargs := [], args := [], vararg := none, kwonlyargs := [], kw_defaults := [], kwarg := none, defaults := [] }
noncomputable def bodyOf : Stmt → List Stmt
  | .FunctionDef _ _ b _ _ _ _ _ _ _ => b
  | _ => []
noncomputable def scoOf : Stmt → Scope
  | .FunctionDef _ _ _ _ _ _ s _ _ _ => s
  | _ => pw.main.scope
@[reducible] noncomputable def consOf {x : List Stmt} {a : Stmt} {l : List Stmt} (_ : x = a :: l) : List Stmt := a :: l
@[reducible] noncomputable def argsOf {x : Arguments} {a b : List Arg} {c : Option Arg} {d : List Arg} {e : List (Option PySem.Expr)} {f : Option Arg} {g : List PySem.Expr} (_ : x = ⟨a, b, c, d, e, f, g⟩) : Arguments := ⟨a, b, c, d, e, f, g⟩
@[reducible] noncomputable def scopeOf {x : Scope} {a : ScopeKind} {b : List (Str × NameKind)} {c d : Bool} {e : List (Str × Const)} (_ : x = ⟨a, b, c, d, e⟩) : Scope := ⟨a, b, c, d, e⟩
noncomputable def lf (P : Params) : Life := (boot_heap P).life
noncomputable def keysOf : Stmt → List (Option PySem.Expr)
  | .Assign _ (.Dict ks _ _) _ => ks
  | _ => []
noncomputable def valsOf : Stmt → List PySem.Expr
  | .Assign _ (.Dict _ vs _) _ => vs
  | _ => []
noncomputable def pairOf : Option PySem.Expr × PySem.Expr → Int × Str
  | (some (.Constant (.int i) _ _), .Constant (.str s) _ _) => (i, s)
  | _ => (0, Str.empty)
noncomputable def b3P : List (Int × Str) := ((keysOf (stAt 24)).zip (valsOf (stAt 24))).map pairOf
noncomputable def entE (p : Int × Str) (t u : Nat) : DictEntry := ⟨p.1, .int p.1 t, .str p.2 u⟩
noncomputable def entsA : Nat → List (Int × Str) → List DictEntry
  | _, [] => []
  | t, p :: r => entE p t (t + 1) :: entsA (t + 3) r
noncomputable def entsB : Nat → List (Int × Str) → List DictEntry
  | _, [] => []
  | t, p :: r => entE p t (t + 1) :: entsB (t + 2) r
noncomputable def dObj (es : List DictEntry) (n : Nat) : Obj := ⟨.type "dict", none, .dict es.toArray n, [].toArray⟩
noncomputable def subs : Nat → List (List (Int × Str)) → List Obj
  | _, [] => []
  | t, c :: cs => dObj (entsA t c) 17 :: subs (t + 51) cs
noncomputable def chunks : Nat → List (Int × Str) → List (List (Int × Str))
  | 0, _ => []
  | n + 1, l => l.take 17 :: chunks n (l.drop 17)
noncomputable def b3c : List (Int × Str) := b3P.take 17
noncomputable def b3cs : List (List (Int × Str)) := chunks 37 (b3P.drop 17)
noncomputable def b3l : List (Int × Str) := b3P.drop 646
noncomputable def b3E : List DictEntry := entsA 434 (b3c ++ b3cs.flatten) ++ entsB (434 + 51 * (37 + 1)) b3l
noncomputable def b3O : List Obj := dObj b3E (17 * (37 + 1) + 4) :: (subs (434 + 51) b3cs ++ [dObj (entsB (434 + 51 * (37 + 1)) b3l) 4])
noncomputable def oB (j : Nat) (P : Params) : Obj := b3O.getD j (dObj [] 0)
noncomputable abbrev bE : List Stmt := behindTheImports PySem.Challenge.pw_wb0084_01
noncomputable def envE : Env := { scope := PySem.Challenge.pw_wb0084_01.main.scope, locals := mainNs, globals := mainNs, cells := [], code := .ref 13, frame := some 14 }
noncomputable abbrev cE : Code := .body bE envE
noncomputable def p0 : Pos := ⟨0, 0, 0, 0⟩
noncomputable def dictPos : Stmt → Pos
  | .Assign _ (.Dict _ _ p) _ => p
  | _ => p0
@[reducible] noncomputable def fPar2 : Arguments := argsOf (rfl : parOf (stAt 2) = ⟨_, _, _, _, _, _, _⟩)
@[reducible] noncomputable def fBody2 : List Stmt := consOf (rfl : bodyOf (stAt 2) = _ :: _)
@[reducible] noncomputable def fSco2 : Scope := scopeOf (rfl : scoOf (stAt 2) = ⟨_, _, _, _, _⟩)
@[reducible] noncomputable def fPar3 : Arguments := argsOf (rfl : parOf (stAt 3) = ⟨_, _, _, _, _, _, _⟩)
@[reducible] noncomputable def fBody3 : List Stmt := consOf (rfl : bodyOf (stAt 3) = _ :: _)
@[reducible] noncomputable def fSco3 : Scope := scopeOf (rfl : scoOf (stAt 3) = ⟨_, _, _, _, _⟩)
@[reducible] noncomputable def fPar4 : Arguments := argsOf (rfl : parOf (stAt 4) = ⟨_, _, _, _, _, _, _⟩)
@[reducible] noncomputable def fBody4 : List Stmt := consOf (rfl : bodyOf (stAt 4) = _ :: _)
@[reducible] noncomputable def fSco4 : Scope := scopeOf (rfl : scoOf (stAt 4) = ⟨_, _, _, _, _⟩)
@[reducible] noncomputable def fPar5 : Arguments := argsOf (rfl : parOf (stAt 5) = ⟨_, _, _, _, _, _, _⟩)
@[reducible] noncomputable def fBody5 : List Stmt := consOf (rfl : bodyOf (stAt 5) = _ :: _)
@[reducible] noncomputable def fSco5 : Scope := scopeOf (rfl : scoOf (stAt 5) = ⟨_, _, _, _, _⟩)
@[reducible] noncomputable def fPar6 : Arguments := argsOf (rfl : parOf (stAt 6) = ⟨_, _, _, _, _, _, _⟩)
@[reducible] noncomputable def fBody6 : List Stmt := consOf (rfl : bodyOf (stAt 6) = _ :: _)
@[reducible] noncomputable def fSco6 : Scope := scopeOf (rfl : scoOf (stAt 6) = ⟨_, _, _, _, _⟩)
@[reducible] noncomputable def fPar7 : Arguments := argsOf (rfl : parOf (stAt 7) = ⟨_, _, _, _, _, _, _⟩)
@[reducible] noncomputable def fBody7 : List Stmt := consOf (rfl : bodyOf (stAt 7) = _ :: _)
@[reducible] noncomputable def fSco7 : Scope := scopeOf (rfl : scoOf (stAt 7) = ⟨_, _, _, _, _⟩)
@[reducible] noncomputable def fPar9 : Arguments := argsOf (rfl : parOf (stAt 9) = ⟨_, _, _, _, _, _, _⟩)
@[reducible] noncomputable def fBody9 : List Stmt := consOf (rfl : bodyOf (stAt 9) = _ :: _)
@[reducible] noncomputable def fSco9 : Scope := scopeOf (rfl : scoOf (stAt 9) = ⟨_, _, _, _, _⟩)
@[reducible] noncomputable def fPar10 : Arguments := argsOf (rfl : parOf (stAt 10) = ⟨_, _, _, _, _, _, _⟩)
@[reducible] noncomputable def fBody10 : List Stmt := consOf (rfl : bodyOf (stAt 10) = _ :: _)
@[reducible] noncomputable def fSco10 : Scope := scopeOf (rfl : scoOf (stAt 10) = ⟨_, _, _, _, _⟩)
@[reducible] noncomputable def fPar11 : Arguments := argsOf (rfl : parOf (stAt 11) = ⟨_, _, _, _, _, _, _⟩)
@[reducible] noncomputable def fBody11 : List Stmt := consOf (rfl : bodyOf (stAt 11) = _ :: _)
@[reducible] noncomputable def fSco11 : Scope := scopeOf (rfl : scoOf (stAt 11) = ⟨_, _, _, _, _⟩)
@[reducible] noncomputable def fPar12 : Arguments := argsOf (rfl : parOf (stAt 12) = ⟨_, _, _, _, _, _, _⟩)
@[reducible] noncomputable def fBody12 : List Stmt := consOf (rfl : bodyOf (stAt 12) = _ :: _)
@[reducible] noncomputable def fSco12 : Scope := scopeOf (rfl : scoOf (stAt 12) = ⟨_, _, _, _, _⟩)
@[reducible] noncomputable def fPar13 : Arguments := argsOf (rfl : parOf (stAt 13) = ⟨_, _, _, _, _, _, _⟩)
@[reducible] noncomputable def fBody13 : List Stmt := consOf (rfl : bodyOf (stAt 13) = _ :: _)
@[reducible] noncomputable def fSco13 : Scope := scopeOf (rfl : scoOf (stAt 13) = ⟨_, _, _, _, _⟩)
@[reducible] noncomputable def fPar14 : Arguments := argsOf (rfl : parOf (stAt 14) = ⟨_, _, _, _, _, _, _⟩)
@[reducible] noncomputable def fBody14 : List Stmt := consOf (rfl : bodyOf (stAt 14) = _ :: _)
@[reducible] noncomputable def fSco14 : Scope := scopeOf (rfl : scoOf (stAt 14) = ⟨_, _, _, _, _⟩)
@[reducible] noncomputable def fPar15 : Arguments := argsOf (rfl : parOf (stAt 15) = ⟨_, _, _, _, _, _, _⟩)
@[reducible] noncomputable def fBody15 : List Stmt := consOf (rfl : bodyOf (stAt 15) = _ :: _)
@[reducible] noncomputable def fSco15 : Scope := scopeOf (rfl : scoOf (stAt 15) = ⟨_, _, _, _, _⟩)
@[reducible] noncomputable def fPar16 : Arguments := argsOf (rfl : parOf (stAt 16) = ⟨_, _, _, _, _, _, _⟩)
@[reducible] noncomputable def fBody16 : List Stmt := consOf (rfl : bodyOf (stAt 16) = _ :: _)
@[reducible] noncomputable def fSco16 : Scope := scopeOf (rfl : scoOf (stAt 16) = ⟨_, _, _, _, _⟩)
@[reducible] noncomputable def fPar17 : Arguments := argsOf (rfl : parOf (stAt 17) = ⟨_, _, _, _, _, _, _⟩)
@[reducible] noncomputable def fBody17 : List Stmt := consOf (rfl : bodyOf (stAt 17) = _ :: _)
@[reducible] noncomputable def fSco17 : Scope := scopeOf (rfl : scoOf (stAt 17) = ⟨_, _, _, _, _⟩)
@[reducible] noncomputable def fPar18 : Arguments := argsOf (rfl : parOf (stAt 18) = ⟨_, _, _, _, _, _, _⟩)
@[reducible] noncomputable def fBody18 : List Stmt := consOf (rfl : bodyOf (stAt 18) = _ :: _)
@[reducible] noncomputable def fSco18 : Scope := scopeOf (rfl : scoOf (stAt 18) = ⟨_, _, _, _, _⟩)
@[reducible] noncomputable def fPar19 : Arguments := argsOf (rfl : parOf (stAt 19) = ⟨_, _, _, _, _, _, _⟩)
@[reducible] noncomputable def fBody19 : List Stmt := consOf (rfl : bodyOf (stAt 19) = _ :: _)
@[reducible] noncomputable def fSco19 : Scope := scopeOf (rfl : scoOf (stAt 19) = ⟨_, _, _, _, _⟩)
@[reducible] noncomputable def fPar20 : Arguments := argsOf (rfl : parOf (stAt 20) = ⟨_, _, _, _, _, _, _⟩)
@[reducible] noncomputable def fBody20 : List Stmt := consOf (rfl : bodyOf (stAt 20) = _ :: _)
@[reducible] noncomputable def fSco20 : Scope := scopeOf (rfl : scoOf (stAt 20) = ⟨_, _, _, _, _⟩)
@[reducible] noncomputable def fPar23 : Arguments := argsOf (rfl : parOf (stAt 23) = ⟨_, _, _, _, _, _, _⟩)
@[reducible] noncomputable def fBody23 : List Stmt := consOf (rfl : bodyOf (stAt 23) = _ :: _)
@[reducible] noncomputable def fSco23 : Scope := scopeOf (rfl : scoOf (stAt 23) = ⟨_, _, _, _, _⟩)
@[reducible] noncomputable def fPar25 : Arguments := argsOf (rfl : parOf (stAt 25) = ⟨_, _, _, _, _, _, _⟩)
@[reducible] noncomputable def fBody25 : List Stmt := consOf (rfl : bodyOf (stAt 25) = _ :: _)
@[reducible] noncomputable def fSco25 : Scope := scopeOf (rfl : scoOf (stAt 25) = ⟨_, _, _, _, _⟩)
@[reducible] noncomputable def fPar27 : Arguments := argsOf (rfl : parOf (stAt 27) = ⟨_, _, _, _, _, _, _⟩)
@[reducible] noncomputable def fBody27 : List Stmt := consOf (rfl : bodyOf (stAt 27) = _ :: _)
@[reducible] noncomputable def fSco27 : Scope := scopeOf (rfl : scoOf (stAt 27) = ⟨_, _, _, _, _⟩)
@[reducible] noncomputable def fPar29 : Arguments := argsOf (rfl : parOf (stAt 29) = ⟨_, _, _, _, _, _, _⟩)
@[reducible] noncomputable def fBody29 : List Stmt := consOf (rfl : bodyOf (stAt 29) = _ :: _)
@[reducible] noncomputable def fSco29 : Scope := scopeOf (rfl : scoOf (stAt 29) = ⟨_, _, _, _, _⟩)
@[reducible] noncomputable def fPar30 : Arguments := argsOf (rfl : parOf (stAt 30) = ⟨_, _, _, _, _, _, _⟩)
@[reducible] noncomputable def fBody30 : List Stmt := consOf (rfl : bodyOf (stAt 30) = _ :: _)
@[reducible] noncomputable def fSco30 : Scope := scopeOf (rfl : scoOf (stAt 30) = ⟨_, _, _, _, _⟩)
@[reducible] noncomputable def fPar31 : Arguments := argsOf (rfl : parOf (stAt 31) = ⟨_, _, _, _, _, _, _⟩)
@[reducible] noncomputable def fBody31 : List Stmt := consOf (rfl : bodyOf (stAt 31) = _ :: _)
@[reducible] noncomputable def fSco31 : Scope := scopeOf (rfl : scoOf (stAt 31) = ⟨_, _, _, _, _⟩)
@[reducible] noncomputable def fPar32 : Arguments := argsOf (rfl : parOf (stAt 32) = ⟨_, _, _, _, _, _, _⟩)
@[reducible] noncomputable def fBody32 : List Stmt := consOf (rfl : bodyOf (stAt 32) = _ :: _)
@[reducible] noncomputable def fSco32 : Scope := scopeOf (rfl : scoOf (stAt 32) = ⟨_, _, _, _, _⟩)
@[reducible] noncomputable def fPar33 : Arguments := argsOf (rfl : parOf (stAt 33) = ⟨_, _, _, _, _, _, _⟩)
@[reducible] noncomputable def fBody33 : List Stmt := consOf (rfl : bodyOf (stAt 33) = _ :: _)
@[reducible] noncomputable def fSco33 : Scope := scopeOf (rfl : scoOf (stAt 33) = ⟨_, _, _, _, _⟩)
@[reducible] noncomputable def fPar34 : Arguments := argsOf (rfl : parOf (stAt 34) = ⟨_, _, _, _, _, _, _⟩)
@[reducible] noncomputable def fBody34 : List Stmt := consOf (rfl : bodyOf (stAt 34) = _ :: _)
@[reducible] noncomputable def fSco34 : Scope := scopeOf (rfl : scoOf (stAt 34) = ⟨_, _, _, _, _⟩)
@[reducible] noncomputable def fPar35 : Arguments := argsOf (rfl : parOf (stAt 35) = ⟨_, _, _, _, _, _, _⟩)
@[reducible] noncomputable def fBody35 : List Stmt := consOf (rfl : bodyOf (stAt 35) = _ :: _)
@[reducible] noncomputable def fSco35 : Scope := scopeOf (rfl : scoOf (stAt 35) = ⟨_, _, _, _, _⟩)
noncomputable def o11 (P : Params) : Obj := ⟨.type "tuple", none, .seq [].toArray 0, [].toArray⟩
noncomputable def o13 (P : Params) : Obj := ⟨.type "code", none, .fields [.str (Str.ofString "<module>") 182, .str (Str.ofString "<module>") 183, .str (Str.ofString "/claim/cut.py") 184, .int 1 0, .int 0 0, .int 0 0, .int 0 0, .int 0 0, .ref 11, .bool false, .int 181 0, .ref 12, .none, .none, .none, .none, .int 185 0, .int 1 0, .str (Str.ofString "/claim/cut.py") 186].toArray, [].toArray⟩
noncomputable def o14 (P : Params) : Obj := ⟨.type "frame", none, .plain, [some (.ref 13), some (.ref 3), some (.ref 3), none, some (.str (Str.ofString "__main__") 164), none, some (.ref 0)].toArray⟩
noncomputable def o15 (P : Params) : Obj := ⟨.type "tuple", none, .seq [].toArray 0, [].toArray⟩
noncomputable def o16 (P : Params) : Obj := ⟨.none, none, .fields [].toArray, [].toArray⟩
noncomputable def o17 (P : Params) : Obj := ⟨.type "tuple", none, .seq [.str (Str.ofString "a") 194, .str (Str.ofString "b") 195, .str (Str.ofString "n") 196, .str (Str.ofString "pad") 197, .str (Str.ofString "half_n") 198, .str (Str.ofString "mask") 199, .str (Str.ofString "b1") 200, .str (Str.ofString "b2") 201, .str (Str.ofString "q1") 202, .str (Str.ofString "r") 203, .str (Str.ofString "q2") 204].toArray 0, [].toArray⟩
noncomputable def o18 (P : Params) : Obj := ⟨.type "tuple", none, .seq [].toArray 0, [].toArray⟩
noncomputable def o19 (P : Params) : Obj := ⟨.none, none, .func { name := (Str.ofString "_div2n1n"), qualname := (Str.ofString "_div2n1n"), params := fPar2, body := .stmts fBody2, scope := fSco2, globals := 0, closure := [], defaults := .none, kwdefaults := .none, doc := .none, pyModule := .none, annotations := none, code := .none, closureTuple := .none, builtins := 0 }, [].toArray⟩
noncomputable def o20 (P : Params) : Obj := ⟨.type "code", none, .fields [.str (Str.ofString "_div2n1n") 191, .str (Str.ofString "_div2n1n") 192, .str (Str.ofString "/claim/cut.py") 193, .int 3 0, .int 3 0, .int 0 0, .int 0 0, .int 3 0, .ref 15, .bool true, .int 181 0, .ref 16, .none, .ref 17, .ref 18, .ref 19, .int 205 0, .int 3 0, .str (Str.ofString "/claim/cut.py") 206].toArray, [].toArray⟩
noncomputable def o21 (P : Params) : Obj := ⟨.type "function", none, .func { name := (Str.ofString "_div2n1n"), qualname := (Str.ofString "_div2n1n"), params := fPar2, body := .stmts fBody2, scope := fSco2, globals := 3, closure := [], defaults := .none, kwdefaults := .none, doc := .none, pyModule := .str (Str.ofString "cpy313._pylong") 187, annotations := none, code := .ref 20, closureTuple := .none, builtins := 0 }, [].toArray⟩
noncomputable def o22 (P : Params) : Obj := ⟨.type "tuple", none, .seq [].toArray 0, [].toArray⟩
noncomputable def o23 (P : Params) : Obj := ⟨.none, none, .fields [].toArray, [].toArray⟩
noncomputable def o24 (P : Params) : Obj := ⟨.type "tuple", none, .seq [.str (Str.ofString "a12") 211, .str (Str.ofString "a3") 212, .str (Str.ofString "b") 213, .str (Str.ofString "b1") 214, .str (Str.ofString "b2") 215, .str (Str.ofString "n") 216, .str (Str.ofString "q") 217, .str (Str.ofString "r") 218].toArray 0, [].toArray⟩
noncomputable def o25 (P : Params) : Obj := ⟨.type "tuple", none, .seq [].toArray 0, [].toArray⟩
noncomputable def o26 (P : Params) : Obj := ⟨.none, none, .func { name := (Str.ofString "_div3n2n"), qualname := (Str.ofString "_div3n2n"), params := fPar3, body := .stmts fBody3, scope := fSco3, globals := 0, closure := [], defaults := .none, kwdefaults := .none, doc := .none, pyModule := .none, annotations := none, code := .none, closureTuple := .none, builtins := 0 }, [].toArray⟩
noncomputable def o27 (P : Params) : Obj := ⟨.type "code", none, .fields [.str (Str.ofString "_div3n2n") 208, .str (Str.ofString "_div3n2n") 209, .str (Str.ofString "/claim/cut.py") 210, .int 19 0, .int 6 0, .int 0 0, .int 0 0, .int 3 0, .ref 22, .bool true, .int 181 0, .ref 23, .none, .ref 24, .ref 25, .ref 26, .int 219 0, .int 19 0, .str (Str.ofString "/claim/cut.py") 220].toArray, [].toArray⟩
noncomputable def o28 (P : Params) : Obj := ⟨.type "function", none, .func { name := (Str.ofString "_div3n2n"), qualname := (Str.ofString "_div3n2n"), params := fPar3, body := .stmts fBody3, scope := fSco3, globals := 3, closure := [], defaults := .none, kwdefaults := .none, doc := .none, pyModule := .str (Str.ofString "cpy313._pylong") 187, annotations := none, code := .ref 27, closureTuple := .none, builtins := 0 }, [].toArray⟩
noncomputable def o29 (P : Params) : Obj := ⟨.type "tuple", none, .seq [].toArray 0, [].toArray⟩
noncomputable def o30 (P : Params) : Obj := ⟨.none, none, .fields [].toArray, [].toArray⟩
noncomputable def o31 (P : Params) : Obj := ⟨.type "tuple", none, .seq [.str (Str.ofString "a") 225, .str (Str.ofString "n") 226].toArray 0, [].toArray⟩
noncomputable def o32 (P : Params) : Obj := ⟨.type "tuple", none, .seq [.str (Str.ofString "n") 227, .str (Str.ofString "a_digits") 228, .str (Str.ofString "inner") 229].toArray 0, [].toArray⟩
noncomputable def o33 (P : Params) : Obj := ⟨.none, none, .func { name := (Str.ofString "_int2digits"), qualname := (Str.ofString "_int2digits"), params := fPar4, body := .stmts fBody4, scope := fSco4, globals := 0, closure := [], defaults := .none, kwdefaults := .none, doc := .none, pyModule := .none, annotations := none, code := .none, closureTuple := .none, builtins := 0 }, [].toArray⟩
noncomputable def o34 (P : Params) : Obj := ⟨.type "code", none, .fields [.str (Str.ofString "_int2digits") 222, .str (Str.ofString "_int2digits") 223, .str (Str.ofString "/claim/cut.py") 224, .int 29 0, .int 2 0, .int 0 0, .int 0 0, .int 3 0, .ref 29, .bool true, .int 181 0, .ref 30, .none, .ref 31, .ref 32, .ref 33, .int 230 0, .int 29 0, .str (Str.ofString "/claim/cut.py") 231].toArray, [].toArray⟩
noncomputable def o35 (P : Params) : Obj := ⟨.type "function", none, .func { name := (Str.ofString "_int2digits"), qualname := (Str.ofString "_int2digits"), params := fPar4, body := .stmts fBody4, scope := fSco4, globals := 3, closure := [], defaults := .none, kwdefaults := .none, doc := .none, pyModule := .str (Str.ofString "cpy313._pylong") 187, annotations := none, code := .ref 34, closureTuple := .none, builtins := 0 }, [].toArray⟩
noncomputable def o36 (P : Params) : Obj := ⟨.type "tuple", none, .seq [].toArray 0, [].toArray⟩
noncomputable def o37 (P : Params) : Obj := ⟨.none, none, .fields [].toArray, [].toArray⟩
noncomputable def o38 (P : Params) : Obj := ⟨.type "tuple", none, .seq [.str (Str.ofString "digits") 236, .str (Str.ofString "n") 237].toArray 0, [].toArray⟩
noncomputable def o39 (P : Params) : Obj := ⟨.type "tuple", none, .seq [.str (Str.ofString "digits") 238, .str (Str.ofString "n") 239, .str (Str.ofString "inner") 240].toArray 0, [].toArray⟩
noncomputable def o40 (P : Params) : Obj := ⟨.none, none, .func { name := (Str.ofString "_digits2int"), qualname := (Str.ofString "_digits2int"), params := fPar5, body := .stmts fBody5, scope := fSco5, globals := 0, closure := [], defaults := .none, kwdefaults := .none, doc := .none, pyModule := .none, annotations := none, code := .none, closureTuple := .none, builtins := 0 }, [].toArray⟩
noncomputable def o41 (P : Params) : Obj := ⟨.type "code", none, .fields [.str (Str.ofString "_digits2int") 233, .str (Str.ofString "_digits2int") 234, .str (Str.ofString "/claim/cut.py") 235, .int 45 0, .int 2 0, .int 0 0, .int 0 0, .int 3 0, .ref 36, .bool true, .int 181 0, .ref 37, .none, .ref 38, .ref 39, .ref 40, .int 241 0, .int 45 0, .str (Str.ofString "/claim/cut.py") 242].toArray, [].toArray⟩
noncomputable def o42 (P : Params) : Obj := ⟨.type "function", none, .func { name := (Str.ofString "_digits2int"), qualname := (Str.ofString "_digits2int"), params := fPar5, body := .stmts fBody5, scope := fSco5, globals := 3, closure := [], defaults := .none, kwdefaults := .none, doc := .none, pyModule := .str (Str.ofString "cpy313._pylong") 187, annotations := none, code := .ref 41, closureTuple := .none, builtins := 0 }, [].toArray⟩
noncomputable def o43 (P : Params) : Obj := ⟨.type "tuple", none, .seq [].toArray 0, [].toArray⟩
noncomputable def o44 (P : Params) : Obj := ⟨.none, none, .fields [].toArray, [].toArray⟩
noncomputable def o45 (P : Params) : Obj := ⟨.type "tuple", none, .seq [.str (Str.ofString "a") 247, .str (Str.ofString "b") 248, .str (Str.ofString "n") 249, .str (Str.ofString "a_digits") 250, .str (Str.ofString "r") 251, .str (Str.ofString "q_digits") 252, .str (Str.ofString "a_digit") 253, .str (Str.ofString "q_digit") 254, .str (Str.ofString "q") 255].toArray 0, [].toArray⟩
noncomputable def o46 (P : Params) : Obj := ⟨.type "tuple", none, .seq [].toArray 0, [].toArray⟩
noncomputable def o47 (P : Params) : Obj := ⟨.none, none, .func { name := (Str.ofString "_divmod_pos"), qualname := (Str.ofString "_divmod_pos"), params := fPar6, body := .stmts fBody6, scope := fSco6, globals := 0, closure := [], defaults := .none, kwdefaults := .none, doc := .none, pyModule := .none, annotations := none, code := .none, closureTuple := .none, builtins := 0 }, [].toArray⟩
noncomputable def o48 (P : Params) : Obj := ⟨.type "code", none, .fields [.str (Str.ofString "_divmod_pos") 244, .str (Str.ofString "_divmod_pos") 245, .str (Str.ofString "/claim/cut.py") 246, .int 54 0, .int 2 0, .int 0 0, .int 0 0, .int 3 0, .ref 43, .bool true, .int 181 0, .ref 44, .none, .ref 45, .ref 46, .ref 47, .int 256 0, .int 54 0, .str (Str.ofString "/claim/cut.py") 257].toArray, [].toArray⟩
noncomputable def o49 (P : Params) : Obj := ⟨.type "function", none, .func { name := (Str.ofString "_divmod_pos"), qualname := (Str.ofString "_divmod_pos"), params := fPar6, body := .stmts fBody6, scope := fSco6, globals := 3, closure := [], defaults := .none, kwdefaults := .none, doc := .none, pyModule := .str (Str.ofString "cpy313._pylong") 187, annotations := none, code := .ref 48, closureTuple := .none, builtins := 0 }, [].toArray⟩
noncomputable def o50 (P : Params) : Obj := ⟨.type "tuple", none, .seq [].toArray 0, [].toArray⟩
noncomputable def o51 (P : Params) : Obj := ⟨.none, none, .fields [].toArray, [].toArray⟩
noncomputable def o52 (P : Params) : Obj := ⟨.type "tuple", none, .seq [.str (Str.ofString "a") 262, .str (Str.ofString "b") 263, .str (Str.ofString "q") 264, .str (Str.ofString "r") 265].toArray 0, [].toArray⟩
noncomputable def o53 (P : Params) : Obj := ⟨.type "tuple", none, .seq [].toArray 0, [].toArray⟩
noncomputable def o54 (P : Params) : Obj := ⟨.none, none, .func { name := (Str.ofString "int_divmod"), qualname := (Str.ofString "int_divmod"), params := fPar7, body := .stmts fBody7, scope := fSco7, globals := 0, closure := [], defaults := .none, kwdefaults := .none, doc := .none, pyModule := .none, annotations := none, code := .none, closureTuple := .none, builtins := 0 }, [].toArray⟩
noncomputable def o55 (P : Params) : Obj := ⟨.type "code", none, .fields [.str (Str.ofString "int_divmod") 259, .str (Str.ofString "int_divmod") 260, .str (Str.ofString "/claim/cut.py") 261, .int 65 0, .int 2 0, .int 0 0, .int 0 0, .int 3 0, .ref 50, .bool true, .int 181 0, .ref 51, .none, .ref 52, .ref 53, .ref 54, .int 266 0, .int 65 0, .str (Str.ofString "/claim/cut.py") 267].toArray, [].toArray⟩
noncomputable def o56 (P : Params) : Obj := ⟨.type "function", none, .func { name := (Str.ofString "int_divmod"), qualname := (Str.ofString "int_divmod"), params := fPar7, body := .stmts fBody7, scope := fSco7, globals := 3, closure := [], defaults := .none, kwdefaults := .none, doc := .none, pyModule := .str (Str.ofString "cpy313._pylong") 187, annotations := none, code := .ref 55, closureTuple := .none, builtins := 0 }, [].toArray⟩
noncomputable def o57 (P : Params) : Obj := ⟨.type "tuple", none, .seq [].toArray 0, [].toArray⟩
noncomputable def o58 (P : Params) : Obj := ⟨.none, none, .fields [].toArray, [].toArray⟩
noncomputable def o59 (P : Params) : Obj := ⟨.type "tuple", none, .seq [.str (Str.ofString "a") 274, .str (Str.ofString "b") 275].toArray 0, [].toArray⟩
noncomputable def o60 (P : Params) : Obj := ⟨.type "tuple", none, .seq [].toArray 0, [].toArray⟩
noncomputable def o61 (P : Params) : Obj := ⟨.none, none, .func { name := (Str.ofString "add"), qualname := (Str.ofString "add"), params := fPar9, body := .stmts fBody9, scope := fSco9, globals := 0, closure := [], defaults := .none, kwdefaults := .none, doc := .none, pyModule := .none, annotations := none, code := .none, closureTuple := .none, builtins := 0 }, [].toArray⟩
noncomputable def o62 (P : Params) : Obj := ⟨.type "code", none, .fields [.str (Str.ofString "add") 271, .str (Str.ofString "add") 272, .str (Str.ofString "/claim/cut.py") 273, .int 77 0, .int 2 0, .int 0 0, .int 0 0, .int 3 0, .ref 57, .bool true, .int 181 0, .ref 58, .none, .ref 59, .ref 60, .ref 61, .int 276 0, .int 77 0, .str (Str.ofString "/claim/cut.py") 277].toArray, [].toArray⟩
noncomputable def o63 (P : Params) : Obj := ⟨.type "function", none, .func { name := (Str.ofString "add"), qualname := (Str.ofString "add"), params := fPar9, body := .stmts fBody9, scope := fSco9, globals := 3, closure := [], defaults := .none, kwdefaults := .none, doc := .none, pyModule := .str (Str.ofString "cpy313.operator") 269, annotations := none, code := .ref 62, closureTuple := .none, builtins := 0 }, [].toArray⟩
noncomputable def o64 (P : Params) : Obj := ⟨.type "tuple", none, .seq [].toArray 0, [].toArray⟩
noncomputable def o65 (P : Params) : Obj := ⟨.none, none, .fields [].toArray, [].toArray⟩
noncomputable def o66 (P : Params) : Obj := ⟨.type "tuple", none, .seq [.str (Str.ofString "a") 282, .str (Str.ofString "b") 283].toArray 0, [].toArray⟩
noncomputable def o67 (P : Params) : Obj := ⟨.type "tuple", none, .seq [].toArray 0, [].toArray⟩
noncomputable def o68 (P : Params) : Obj := ⟨.none, none, .func { name := (Str.ofString "and_"), qualname := (Str.ofString "and_"), params := fPar10, body := .stmts fBody10, scope := fSco10, globals := 0, closure := [], defaults := .none, kwdefaults := .none, doc := .none, pyModule := .none, annotations := none, code := .none, closureTuple := .none, builtins := 0 }, [].toArray⟩
noncomputable def o69 (P : Params) : Obj := ⟨.type "code", none, .fields [.str (Str.ofString "and_") 279, .str (Str.ofString "and_") 280, .str (Str.ofString "/claim/cut.py") 281, .int 79 0, .int 2 0, .int 0 0, .int 0 0, .int 3 0, .ref 64, .bool true, .int 181 0, .ref 65, .none, .ref 66, .ref 67, .ref 68, .int 284 0, .int 79 0, .str (Str.ofString "/claim/cut.py") 285].toArray, [].toArray⟩
noncomputable def o70 (P : Params) : Obj := ⟨.type "function", none, .func { name := (Str.ofString "and_"), qualname := (Str.ofString "and_"), params := fPar10, body := .stmts fBody10, scope := fSco10, globals := 3, closure := [], defaults := .none, kwdefaults := .none, doc := .none, pyModule := .str (Str.ofString "cpy313.operator") 269, annotations := none, code := .ref 69, closureTuple := .none, builtins := 0 }, [].toArray⟩
noncomputable def o71 (P : Params) : Obj := ⟨.type "tuple", none, .seq [].toArray 0, [].toArray⟩
noncomputable def o72 (P : Params) : Obj := ⟨.none, none, .fields [].toArray, [].toArray⟩
noncomputable def o73 (P : Params) : Obj := ⟨.type "tuple", none, .seq [.str (Str.ofString "a") 290].toArray 0, [].toArray⟩
noncomputable def o74 (P : Params) : Obj := ⟨.type "tuple", none, .seq [].toArray 0, [].toArray⟩
noncomputable def o75 (P : Params) : Obj := ⟨.none, none, .func { name := (Str.ofString "inv"), qualname := (Str.ofString "inv"), params := fPar11, body := .stmts fBody11, scope := fSco11, globals := 0, closure := [], defaults := .none, kwdefaults := .none, doc := .none, pyModule := .none, annotations := none, code := .none, closureTuple := .none, builtins := 0 }, [].toArray⟩
noncomputable def o76 (P : Params) : Obj := ⟨.type "code", none, .fields [.str (Str.ofString "inv") 287, .str (Str.ofString "inv") 288, .str (Str.ofString "/claim/cut.py") 289, .int 81 0, .int 1 0, .int 0 0, .int 0 0, .int 3 0, .ref 71, .bool true, .int 181 0, .ref 72, .none, .ref 73, .ref 74, .ref 75, .int 291 0, .int 81 0, .str (Str.ofString "/claim/cut.py") 292].toArray, [].toArray⟩
noncomputable def o77 (P : Params) : Obj := ⟨.type "function", none, .func { name := (Str.ofString "inv"), qualname := (Str.ofString "inv"), params := fPar11, body := .stmts fBody11, scope := fSco11, globals := 3, closure := [], defaults := .none, kwdefaults := .none, doc := .none, pyModule := .str (Str.ofString "cpy313.operator") 269, annotations := none, code := .ref 76, closureTuple := .none, builtins := 0 }, [].toArray⟩
noncomputable def o78 (P : Params) : Obj := ⟨.type "tuple", none, .seq [].toArray 0, [].toArray⟩
noncomputable def o79 (P : Params) : Obj := ⟨.none, none, .fields [].toArray, [].toArray⟩
noncomputable def o80 (P : Params) : Obj := ⟨.type "tuple", none, .seq [.str (Str.ofString "a") 297, .str (Str.ofString "b") 298].toArray 0, [].toArray⟩
noncomputable def o81 (P : Params) : Obj := ⟨.type "tuple", none, .seq [].toArray 0, [].toArray⟩
noncomputable def o82 (P : Params) : Obj := ⟨.none, none, .func { name := (Str.ofString "lshift"), qualname := (Str.ofString "lshift"), params := fPar12, body := .stmts fBody12, scope := fSco12, globals := 0, closure := [], defaults := .none, kwdefaults := .none, doc := .none, pyModule := .none, annotations := none, code := .none, closureTuple := .none, builtins := 0 }, [].toArray⟩
noncomputable def o83 (P : Params) : Obj := ⟨.type "code", none, .fields [.str (Str.ofString "lshift") 294, .str (Str.ofString "lshift") 295, .str (Str.ofString "/claim/cut.py") 296, .int 83 0, .int 2 0, .int 0 0, .int 0 0, .int 3 0, .ref 78, .bool true, .int 181 0, .ref 79, .none, .ref 80, .ref 81, .ref 82, .int 299 0, .int 83 0, .str (Str.ofString "/claim/cut.py") 300].toArray, [].toArray⟩
noncomputable def o84 (P : Params) : Obj := ⟨.type "function", none, .func { name := (Str.ofString "lshift"), qualname := (Str.ofString "lshift"), params := fPar12, body := .stmts fBody12, scope := fSco12, globals := 3, closure := [], defaults := .none, kwdefaults := .none, doc := .none, pyModule := .str (Str.ofString "cpy313.operator") 269, annotations := none, code := .ref 83, closureTuple := .none, builtins := 0 }, [].toArray⟩
noncomputable def o85 (P : Params) : Obj := ⟨.type "tuple", none, .seq [].toArray 0, [].toArray⟩
noncomputable def o86 (P : Params) : Obj := ⟨.none, none, .fields [].toArray, [].toArray⟩
noncomputable def o87 (P : Params) : Obj := ⟨.type "tuple", none, .seq [.str (Str.ofString "a") 305, .str (Str.ofString "b") 306].toArray 0, [].toArray⟩
noncomputable def o88 (P : Params) : Obj := ⟨.type "tuple", none, .seq [].toArray 0, [].toArray⟩
noncomputable def o89 (P : Params) : Obj := ⟨.none, none, .func { name := (Str.ofString "mul"), qualname := (Str.ofString "mul"), params := fPar13, body := .stmts fBody13, scope := fSco13, globals := 0, closure := [], defaults := .none, kwdefaults := .none, doc := .none, pyModule := .none, annotations := none, code := .none, closureTuple := .none, builtins := 0 }, [].toArray⟩
noncomputable def o90 (P : Params) : Obj := ⟨.type "code", none, .fields [.str (Str.ofString "mul") 302, .str (Str.ofString "mul") 303, .str (Str.ofString "/claim/cut.py") 304, .int 85 0, .int 2 0, .int 0 0, .int 0 0, .int 3 0, .ref 85, .bool true, .int 181 0, .ref 86, .none, .ref 87, .ref 88, .ref 89, .int 307 0, .int 85 0, .str (Str.ofString "/claim/cut.py") 308].toArray, [].toArray⟩
noncomputable def o91 (P : Params) : Obj := ⟨.type "function", none, .func { name := (Str.ofString "mul"), qualname := (Str.ofString "mul"), params := fPar13, body := .stmts fBody13, scope := fSco13, globals := 3, closure := [], defaults := .none, kwdefaults := .none, doc := .none, pyModule := .str (Str.ofString "cpy313.operator") 269, annotations := none, code := .ref 90, closureTuple := .none, builtins := 0 }, [].toArray⟩
noncomputable def o92 (P : Params) : Obj := ⟨.type "tuple", none, .seq [].toArray 0, [].toArray⟩
noncomputable def o93 (P : Params) : Obj := ⟨.none, none, .fields [].toArray, [].toArray⟩
noncomputable def o94 (P : Params) : Obj := ⟨.type "tuple", none, .seq [.str (Str.ofString "a") 313].toArray 0, [].toArray⟩
noncomputable def o95 (P : Params) : Obj := ⟨.type "tuple", none, .seq [].toArray 0, [].toArray⟩
noncomputable def o96 (P : Params) : Obj := ⟨.none, none, .func { name := (Str.ofString "neg"), qualname := (Str.ofString "neg"), params := fPar14, body := .stmts fBody14, scope := fSco14, globals := 0, closure := [], defaults := .none, kwdefaults := .none, doc := .none, pyModule := .none, annotations := none, code := .none, closureTuple := .none, builtins := 0 }, [].toArray⟩
noncomputable def o97 (P : Params) : Obj := ⟨.type "code", none, .fields [.str (Str.ofString "neg") 310, .str (Str.ofString "neg") 311, .str (Str.ofString "/claim/cut.py") 312, .int 87 0, .int 1 0, .int 0 0, .int 0 0, .int 3 0, .ref 92, .bool true, .int 181 0, .ref 93, .none, .ref 94, .ref 95, .ref 96, .int 314 0, .int 87 0, .str (Str.ofString "/claim/cut.py") 315].toArray, [].toArray⟩
noncomputable def o98 (P : Params) : Obj := ⟨.type "function", none, .func { name := (Str.ofString "neg"), qualname := (Str.ofString "neg"), params := fPar14, body := .stmts fBody14, scope := fSco14, globals := 3, closure := [], defaults := .none, kwdefaults := .none, doc := .none, pyModule := .str (Str.ofString "cpy313.operator") 269, annotations := none, code := .ref 97, closureTuple := .none, builtins := 0 }, [].toArray⟩
noncomputable def o99 (P : Params) : Obj := ⟨.type "tuple", none, .seq [].toArray 0, [].toArray⟩
noncomputable def o100 (P : Params) : Obj := ⟨.none, none, .fields [].toArray, [].toArray⟩
noncomputable def o101 (P : Params) : Obj := ⟨.type "tuple", none, .seq [.str (Str.ofString "a") 320, .str (Str.ofString "b") 321].toArray 0, [].toArray⟩
noncomputable def o102 (P : Params) : Obj := ⟨.type "tuple", none, .seq [].toArray 0, [].toArray⟩
noncomputable def o103 (P : Params) : Obj := ⟨.none, none, .func { name := (Str.ofString "or_"), qualname := (Str.ofString "or_"), params := fPar15, body := .stmts fBody15, scope := fSco15, globals := 0, closure := [], defaults := .none, kwdefaults := .none, doc := .none, pyModule := .none, annotations := none, code := .none, closureTuple := .none, builtins := 0 }, [].toArray⟩
noncomputable def o104 (P : Params) : Obj := ⟨.type "code", none, .fields [.str (Str.ofString "or_") 317, .str (Str.ofString "or_") 318, .str (Str.ofString "/claim/cut.py") 319, .int 89 0, .int 2 0, .int 0 0, .int 0 0, .int 3 0, .ref 99, .bool true, .int 181 0, .ref 100, .none, .ref 101, .ref 102, .ref 103, .int 322 0, .int 89 0, .str (Str.ofString "/claim/cut.py") 323].toArray, [].toArray⟩
noncomputable def o105 (P : Params) : Obj := ⟨.type "function", none, .func { name := (Str.ofString "or_"), qualname := (Str.ofString "or_"), params := fPar15, body := .stmts fBody15, scope := fSco15, globals := 3, closure := [], defaults := .none, kwdefaults := .none, doc := .none, pyModule := .str (Str.ofString "cpy313.operator") 269, annotations := none, code := .ref 104, closureTuple := .none, builtins := 0 }, [].toArray⟩
noncomputable def o106 (P : Params) : Obj := ⟨.type "tuple", none, .seq [].toArray 0, [].toArray⟩
noncomputable def o107 (P : Params) : Obj := ⟨.none, none, .fields [].toArray, [].toArray⟩
noncomputable def o108 (P : Params) : Obj := ⟨.type "tuple", none, .seq [.str (Str.ofString "a") 328, .str (Str.ofString "b") 329].toArray 0, [].toArray⟩
noncomputable def o109 (P : Params) : Obj := ⟨.type "tuple", none, .seq [].toArray 0, [].toArray⟩
noncomputable def o110 (P : Params) : Obj := ⟨.none, none, .func { name := (Str.ofString "sub"), qualname := (Str.ofString "sub"), params := fPar16, body := .stmts fBody16, scope := fSco16, globals := 0, closure := [], defaults := .none, kwdefaults := .none, doc := .none, pyModule := .none, annotations := none, code := .none, closureTuple := .none, builtins := 0 }, [].toArray⟩
noncomputable def o111 (P : Params) : Obj := ⟨.type "code", none, .fields [.str (Str.ofString "sub") 325, .str (Str.ofString "sub") 326, .str (Str.ofString "/claim/cut.py") 327, .int 91 0, .int 2 0, .int 0 0, .int 0 0, .int 3 0, .ref 106, .bool true, .int 181 0, .ref 107, .none, .ref 108, .ref 109, .ref 110, .int 330 0, .int 91 0, .str (Str.ofString "/claim/cut.py") 331].toArray, [].toArray⟩
noncomputable def o112 (P : Params) : Obj := ⟨.type "function", none, .func { name := (Str.ofString "sub"), qualname := (Str.ofString "sub"), params := fPar16, body := .stmts fBody16, scope := fSco16, globals := 3, closure := [], defaults := .none, kwdefaults := .none, doc := .none, pyModule := .str (Str.ofString "cpy313.operator") 269, annotations := none, code := .ref 111, closureTuple := .none, builtins := 0 }, [].toArray⟩
noncomputable def o113 (P : Params) : Obj := ⟨.type "tuple", none, .seq [].toArray 0, [].toArray⟩
noncomputable def o114 (P : Params) : Obj := ⟨.none, none, .fields [].toArray, [].toArray⟩
noncomputable def o115 (P : Params) : Obj := ⟨.type "tuple", none, .seq [.str (Str.ofString "a") 336, .str (Str.ofString "b") 337].toArray 0, [].toArray⟩
noncomputable def o116 (P : Params) : Obj := ⟨.type "tuple", none, .seq [].toArray 0, [].toArray⟩
noncomputable def o117 (P : Params) : Obj := ⟨.none, none, .func { name := (Str.ofString "xor"), qualname := (Str.ofString "xor"), params := fPar17, body := .stmts fBody17, scope := fSco17, globals := 0, closure := [], defaults := .none, kwdefaults := .none, doc := .none, pyModule := .none, annotations := none, code := .none, closureTuple := .none, builtins := 0 }, [].toArray⟩
noncomputable def o118 (P : Params) : Obj := ⟨.type "code", none, .fields [.str (Str.ofString "xor") 333, .str (Str.ofString "xor") 334, .str (Str.ofString "/claim/cut.py") 335, .int 93 0, .int 2 0, .int 0 0, .int 0 0, .int 3 0, .ref 113, .bool true, .int 181 0, .ref 114, .none, .ref 115, .ref 116, .ref 117, .int 338 0, .int 93 0, .str (Str.ofString "/claim/cut.py") 339].toArray, [].toArray⟩
noncomputable def o119 (P : Params) : Obj := ⟨.type "function", none, .func { name := (Str.ofString "xor"), qualname := (Str.ofString "xor"), params := fPar17, body := .stmts fBody17, scope := fSco17, globals := 3, closure := [], defaults := .none, kwdefaults := .none, doc := .none, pyModule := .str (Str.ofString "cpy313.operator") 269, annotations := none, code := .ref 118, closureTuple := .none, builtins := 0 }, [].toArray⟩
noncomputable def o120 (P : Params) : Obj := ⟨.type "tuple", none, .seq [].toArray 0, [].toArray⟩
noncomputable def o121 (P : Params) : Obj := ⟨.none, none, .fields [].toArray, [].toArray⟩
noncomputable def o122 (P : Params) : Obj := ⟨.type "tuple", none, .seq [.str (Str.ofString "a") 344, .str (Str.ofString "b") 345].toArray 0, [].toArray⟩
noncomputable def o123 (P : Params) : Obj := ⟨.type "tuple", none, .seq [].toArray 0, [].toArray⟩
noncomputable def o124 (P : Params) : Obj := ⟨.none, none, .func { name := (Str.ofString "iadd"), qualname := (Str.ofString "iadd"), params := fPar18, body := .stmts fBody18, scope := fSco18, globals := 0, closure := [], defaults := .none, kwdefaults := .none, doc := .none, pyModule := .none, annotations := none, code := .none, closureTuple := .none, builtins := 0 }, [].toArray⟩
noncomputable def o125 (P : Params) : Obj := ⟨.type "code", none, .fields [.str (Str.ofString "iadd") 341, .str (Str.ofString "iadd") 342, .str (Str.ofString "/claim/cut.py") 343, .int 95 0, .int 2 0, .int 0 0, .int 0 0, .int 3 0, .ref 120, .bool true, .int 181 0, .ref 121, .none, .ref 122, .ref 123, .ref 124, .int 346 0, .int 95 0, .str (Str.ofString "/claim/cut.py") 347].toArray, [].toArray⟩
noncomputable def o126 (P : Params) : Obj := ⟨.type "function", none, .func { name := (Str.ofString "iadd"), qualname := (Str.ofString "iadd"), params := fPar18, body := .stmts fBody18, scope := fSco18, globals := 3, closure := [], defaults := .none, kwdefaults := .none, doc := .none, pyModule := .str (Str.ofString "cpy313.operator") 269, annotations := none, code := .ref 125, closureTuple := .none, builtins := 0 }, [].toArray⟩
noncomputable def o127 (P : Params) : Obj := ⟨.type "tuple", none, .seq [].toArray 0, [].toArray⟩
noncomputable def o128 (P : Params) : Obj := ⟨.none, none, .fields [].toArray, [].toArray⟩
noncomputable def o129 (P : Params) : Obj := ⟨.type "tuple", none, .seq [.str (Str.ofString "a") 352, .str (Str.ofString "b") 353].toArray 0, [].toArray⟩
noncomputable def o130 (P : Params) : Obj := ⟨.type "tuple", none, .seq [].toArray 0, [].toArray⟩
noncomputable def o131 (P : Params) : Obj := ⟨.none, none, .func { name := (Str.ofString "imul"), qualname := (Str.ofString "imul"), params := fPar19, body := .stmts fBody19, scope := fSco19, globals := 0, closure := [], defaults := .none, kwdefaults := .none, doc := .none, pyModule := .none, annotations := none, code := .none, closureTuple := .none, builtins := 0 }, [].toArray⟩
noncomputable def o132 (P : Params) : Obj := ⟨.type "code", none, .fields [.str (Str.ofString "imul") 349, .str (Str.ofString "imul") 350, .str (Str.ofString "/claim/cut.py") 351, .int 98 0, .int 2 0, .int 0 0, .int 0 0, .int 3 0, .ref 127, .bool true, .int 181 0, .ref 128, .none, .ref 129, .ref 130, .ref 131, .int 354 0, .int 98 0, .str (Str.ofString "/claim/cut.py") 355].toArray, [].toArray⟩
noncomputable def o133 (P : Params) : Obj := ⟨.type "function", none, .func { name := (Str.ofString "imul"), qualname := (Str.ofString "imul"), params := fPar19, body := .stmts fBody19, scope := fSco19, globals := 3, closure := [], defaults := .none, kwdefaults := .none, doc := .none, pyModule := .str (Str.ofString "cpy313.operator") 269, annotations := none, code := .ref 132, closureTuple := .none, builtins := 0 }, [].toArray⟩
noncomputable def o134 (P : Params) : Obj := ⟨.type "tuple", none, .seq [].toArray 0, [].toArray⟩
noncomputable def o135 (P : Params) : Obj := ⟨.none, none, .fields [].toArray, [].toArray⟩
noncomputable def o136 (P : Params) : Obj := ⟨.type "tuple", none, .seq [.str (Str.ofString "a") 360, .str (Str.ofString "b") 361].toArray 0, [].toArray⟩
noncomputable def o137 (P : Params) : Obj := ⟨.type "tuple", none, .seq [].toArray 0, [].toArray⟩
noncomputable def o138 (P : Params) : Obj := ⟨.none, none, .func { name := (Str.ofString "ixor"), qualname := (Str.ofString "ixor"), params := fPar20, body := .stmts fBody20, scope := fSco20, globals := 0, closure := [], defaults := .none, kwdefaults := .none, doc := .none, pyModule := .none, annotations := none, code := .none, closureTuple := .none, builtins := 0 }, [].toArray⟩
noncomputable def o139 (P : Params) : Obj := ⟨.type "code", none, .fields [.str (Str.ofString "ixor") 357, .str (Str.ofString "ixor") 358, .str (Str.ofString "/claim/cut.py") 359, .int 101 0, .int 2 0, .int 0 0, .int 0 0, .int 3 0, .ref 134, .bool true, .int 181 0, .ref 135, .none, .ref 136, .ref 137, .ref 138, .int 362 0, .int 101 0, .str (Str.ofString "/claim/cut.py") 363].toArray, [].toArray⟩
noncomputable def o140 (P : Params) : Obj := ⟨.type "function", none, .func { name := (Str.ofString "ixor"), qualname := (Str.ofString "ixor"), params := fPar20, body := .stmts fBody20, scope := fSco20, globals := 3, closure := [], defaults := .none, kwdefaults := .none, doc := .none, pyModule := .str (Str.ofString "cpy313.operator") 269, annotations := none, code := .ref 139, closureTuple := .none, builtins := 0 }, [].toArray⟩
noncomputable def o141 (P : Params) : Obj := ⟨.type "list", none, .seq [.int 173 367, .int 847 368, .int 6150 369, .int 6155 370, .int 6156 371, .int 6157 372, .int 8203 373, .int 8204 374, .int 8205 375, .int 8288 376, .int 65279 377].toArray 0, [].toArray⟩
noncomputable def o142 (P : Params) : Obj := ⟨.type "range", none, .fields [.int 65024 378, .int 65040 379, .int 1 380].toArray, [].toArray⟩
noncomputable def o143 (P : Params) : Obj := ⟨.type "list", none, .seq [.int 65024 383, .int 65025 384, .int 65026 385, .int 65027 386, .int 65028 387, .int 65029 388, .int 65030 389, .int 65031 390, .int 65032 391, .int 65033 392, .int 65034 393, .int 65035 394, .int 65036 395, .int 65037 396, .int 65038 397, .int 65039 398].toArray 18, [].toArray⟩
noncomputable def o144 (P : Params) : Obj := ⟨.type "range_iterator", none, .fields [.int 65040 0, .int 0 0, .int 1 0].toArray, [].toArray⟩
noncomputable def o145 (P : Params) : Obj := ⟨.type "tuple", none, .seq [].toArray 0, [].toArray⟩
noncomputable def o146 (P : Params) : Obj := ⟨.type "StopIteration", none, .fields [.ref 145, .none, .none, .none, .bool false, .none].toArray, [].toArray⟩
noncomputable def o147 (P : Params) : Obj := ⟨.type "list", none, .seq [.int 173 367, .int 847 368, .int 6150 369, .int 6155 370, .int 6156 371, .int 6157 372, .int 8203 373, .int 8204 374, .int 8205 375, .int 8288 376, .int 65279 377, .int 65024 383, .int 65025 384, .int 65026 385, .int 65027 386, .int 65028 387, .int 65029 388, .int 65030 389, .int 65031 390, .int 65032 391, .int 65033 392, .int 65034 393, .int 65035 394, .int 65036 395, .int 65037 396, .int 65038 397, .int 65039 398].toArray 0, [].toArray⟩
noncomputable def o148 (P : Params) : Obj := ⟨.type "set", none, .set [(65024, .int 65024 383), (65025, .int 65025 384), (65026, .int 65026 385), (65027, .int 65027 386), (65028, .int 65028 387), (65029, .int 65029 388), (6150, .int 6150 369), (65030, .int 65030 389), (65031, .int 65031 390), (65032, .int 65032 391), (65033, .int 65033 392), (6155, .int 6155 370), (6156, .int 6156 371), (6157, .int 6157 372), (8203, .int 8203 373), (8204, .int 8204 374), (8205, .int 8205 375), (65034, .int 65034 393), (65035, .int 65035 394), (65036, .int 65036 395), (65037, .int 65037 396), (65038, .int 65038 397), (65039, .int 65039 398), (173, .int 173 367), (847, .int 847 368), (8288, .int 8288 376), (65279, .int 65279 377)].toArray 29 ⟨127, [0, 1, 2, 3, 4, 5, 6, 7, 8, 9, 10, 11, 12, 13, 14, 15, 16, 17, 18, 19, 20, 21, 22, 45, 79, 96, 127].toArray, [].toArray, 0, !P.followText "set-order", 2, true⟩, [].toArray⟩
noncomputable def o149 (P : Params) : Obj := ⟨.type "list_iterator", none, .fields [.none, .int 27 0].toArray, [].toArray⟩
noncomputable def o150 (P : Params) : Obj := ⟨.type "tuple", none, .seq [].toArray 0, [].toArray⟩
noncomputable def o151 (P : Params) : Obj := ⟨.type "StopIteration", none, .fields [.ref 150, .none, .none, .none, .bool false, .none].toArray, [].toArray⟩
noncomputable def o152 (P : Params) : Obj := ⟨.type "tuple", none, .seq [].toArray 0, [].toArray⟩
noncomputable def o153 (P : Params) : Obj := ⟨.none, none, .fields [].toArray, [].toArray⟩
noncomputable def o154 (P : Params) : Obj := ⟨.type "tuple", none, .seq [.str (Str.ofString "code") 430].toArray 0, [].toArray⟩
noncomputable def o155 (P : Params) : Obj := ⟨.type "tuple", none, .seq [].toArray 0, [].toArray⟩
noncomputable def o156 (P : Params) : Obj := ⟨.none, none, .func { name := (Str.ofString "in_table_b1"), qualname := (Str.ofString "in_table_b1"), params := fPar23, body := .stmts fBody23, scope := fSco23, globals := 0, closure := [], defaults := .none, kwdefaults := .none, doc := .none, pyModule := .none, annotations := none, code := .none, closureTuple := .none, builtins := 0 }, [].toArray⟩
noncomputable def o157 (P : Params) : Obj := ⟨.type "code", none, .fields [.str (Str.ofString "in_table_b1") 427, .str (Str.ofString "in_table_b1") 428, .str (Str.ofString "/claim/cut.py") 429, .int 106 0, .int 1 0, .int 0 0, .int 0 0, .int 3 0, .ref 152, .bool true, .int 181 0, .ref 153, .none, .ref 154, .ref 155, .ref 156, .int 431 0, .int 106 0, .str (Str.ofString "/claim/cut.py") 432].toArray, [].toArray⟩
noncomputable def o158 (P : Params) : Obj := ⟨.type "function", none, .func { name := (Str.ofString "in_table_b1"), qualname := (Str.ofString "in_table_b1"), params := fPar23, body := .stmts fBody23, scope := fSco23, globals := 3, closure := [], defaults := .none, kwdefaults := .none, doc := .none, pyModule := .str (Str.ofString "cpy313.stringprep") 365, annotations := none, code := .ref 157, closureTuple := .none, builtins := 0 }, [].toArray⟩
noncomputable def o198 (P : Params) : Obj := ⟨.type "tuple", none, .seq [].toArray 0, [].toArray⟩
noncomputable def o199 (P : Params) : Obj := ⟨.none, none, .fields [].toArray, [].toArray⟩
noncomputable def o200 (P : Params) : Obj := ⟨.type "tuple", none, .seq [.str (Str.ofString "code") 2388, .str (Str.ofString "r") 2389].toArray 0, [].toArray⟩
noncomputable def o201 (P : Params) : Obj := ⟨.type "tuple", none, .seq [].toArray 0, [].toArray⟩
noncomputable def o202 (P : Params) : Obj := ⟨.none, none, .func { name := (Str.ofString "map_table_b3"), qualname := (Str.ofString "map_table_b3"), params := fPar25, body := .stmts fBody25, scope := fSco25, globals := 0, closure := [], defaults := .none, kwdefaults := .none, doc := .none, pyModule := .none, annotations := none, code := .none, closureTuple := .none, builtins := 0 }, [].toArray⟩
noncomputable def o203 (P : Params) : Obj := ⟨.type "code", none, .fields [.str (Str.ofString "map_table_b3") 2385, .str (Str.ofString "map_table_b3") 2386, .str (Str.ofString "/claim/cut.py") 2387, .int 109 0, .int 1 0, .int 0 0, .int 0 0, .int 3 0, .ref 198, .bool true, .int 181 0, .ref 199, .none, .ref 200, .ref 201, .ref 202, .int 2390 0, .int 109 0, .str (Str.ofString "/claim/cut.py") 2391].toArray, [].toArray⟩
noncomputable def o204 (P : Params) : Obj := ⟨.type "function", none, .func { name := (Str.ofString "map_table_b3"), qualname := (Str.ofString "map_table_b3"), params := fPar25, body := .stmts fBody25, scope := fSco25, globals := 3, closure := [], defaults := .none, kwdefaults := .none, doc := .none, pyModule := .str (Str.ofString "cpy313.stringprep") 365, annotations := none, code := .ref 203, closureTuple := .none, builtins := 0 }, [].toArray⟩
noncomputable def o205 (P : Params) : Obj := ⟨.type "range", none, .fields [.int 12272 2393, .int 12284 2394, .int 1 2395].toArray, [].toArray⟩
noncomputable def o206 (P : Params) : Obj := ⟨.type "set", none, .set [(12272, .int 12272 2396), (12273, .int 12273 2398), (12274, .int 12274 2400), (12275, .int 12275 2402), (12276, .int 12276 2404), (12277, .int 12277 2406), (12278, .int 12278 2408), (12279, .int 12279 2410), (12280, .int 12280 2412), (12281, .int 12281 2414), (12282, .int 12282 2416), (12283, .int 12283 2418)].toArray 13 ⟨31, [16, 17, 18, 19, 20, 21, 22, 23, 24, 25, 26, 27].toArray, [].toArray, 0, !P.followText "set-order", 1, true⟩, [].toArray⟩
noncomputable def o207 (P : Params) : Obj := ⟨.type "range_iterator", none, .fields [.int 12284 0, .int 0 0, .int 1 0].toArray, [].toArray⟩
noncomputable def o208 (P : Params) : Obj := ⟨.type "tuple", none, .seq [].toArray 0, [].toArray⟩
noncomputable def o209 (P : Params) : Obj := ⟨.type "StopIteration", none, .fields [.ref 208, .none, .none, .none, .bool false, .none].toArray, [].toArray⟩
noncomputable def o210 (P : Params) : Obj := ⟨.type "tuple", none, .seq [].toArray 0, [].toArray⟩
noncomputable def o211 (P : Params) : Obj := ⟨.none, none, .fields [].toArray, [].toArray⟩
noncomputable def o212 (P : Params) : Obj := ⟨.type "tuple", none, .seq [.str (Str.ofString "code") 2424].toArray 0, [].toArray⟩
noncomputable def o213 (P : Params) : Obj := ⟨.type "tuple", none, .seq [].toArray 0, [].toArray⟩
noncomputable def o214 (P : Params) : Obj := ⟨.none, none, .func { name := (Str.ofString "in_table_c7"), qualname := (Str.ofString "in_table_c7"), params := fPar27, body := .stmts fBody27, scope := fSco27, globals := 0, closure := [], defaults := .none, kwdefaults := .none, doc := .none, pyModule := .none, annotations := none, code := .none, closureTuple := .none, builtins := 0 }, [].toArray⟩
noncomputable def o215 (P : Params) : Obj := ⟨.type "code", none, .fields [.str (Str.ofString "in_table_c7") 2421, .str (Str.ofString "in_table_c7") 2422, .str (Str.ofString "/claim/cut.py") 2423, .int 115 0, .int 1 0, .int 0 0, .int 0 0, .int 3 0, .ref 210, .bool true, .int 181 0, .ref 211, .none, .ref 212, .ref 213, .ref 214, .int 2425 0, .int 115 0, .str (Str.ofString "/claim/cut.py") 2426].toArray, [].toArray⟩
noncomputable def o216 (P : Params) : Obj := ⟨.type "function", none, .func { name := (Str.ofString "in_table_c7"), qualname := (Str.ofString "in_table_c7"), params := fPar27, body := .stmts fBody27, scope := fSco27, globals := 3, closure := [], defaults := .none, kwdefaults := .none, doc := .none, pyModule := .str (Str.ofString "cpy313.stringprep") 365, annotations := none, code := .ref 215, closureTuple := .none, builtins := 0 }, [].toArray⟩
noncomputable def o217 (P : Params) : Obj := ⟨.type "tuple", none, .seq [].toArray 0, [].toArray⟩
noncomputable def o218 (P : Params) : Obj := ⟨.none, none, .fields [].toArray, [].toArray⟩
noncomputable def o219 (P : Params) : Obj := ⟨.type "tuple", none, .seq [.str (Str.ofString "script") 2433, .str (Str.ofString "cells") 2434, .str (Str.ofString "k") 2435, .str (Str.ofString "x") 2436, .str (Str.ofString "unseen") 2437, .str (Str.ofString "heads") 2438, .str (Str.ofString "text") 2439, .str (Str.ofString "drawn") 2440, .str (Str.ofString "need") 2441, .str (Str.ofString "p") 2442, .str (Str.ofString "v") 2443, .str (Str.ofString "which") 2444, .str (Str.ofString "ahead") 2445, .str (Str.ofString "more") 2446, .str (Str.ofString "sign") 2447, .str (Str.ofString "letter") 2448].toArray 0, [].toArray⟩
noncomputable def o220 (P : Params) : Obj := ⟨.type "tuple", none, .seq [].toArray 0, [].toArray⟩
noncomputable def o221 (P : Params) : Obj := ⟨.none, none, .func { name := (Str.ofString "_law_drawn"), qualname := (Str.ofString "_law_drawn"), params := fPar29, body := .stmts fBody29, scope := fSco29, globals := 0, closure := [], defaults := .none, kwdefaults := .none, doc := .none, pyModule := .none, annotations := none, code := .none, closureTuple := .none, builtins := 0 }, [].toArray⟩
noncomputable def o222 (P : Params) : Obj := ⟨.type "code", none, .fields [.str (Str.ofString "_law_drawn") 2430, .str (Str.ofString "_law_drawn") 2431, .str (Str.ofString "/claim/cut.py") 2432, .int 118 0, .int 1 0, .int 0 0, .int 0 0, .int 3 0, .ref 217, .bool true, .int 181 0, .ref 218, .none, .ref 219, .ref 220, .ref 221, .int 2449 0, .int 118 0, .str (Str.ofString "/claim/cut.py") 2450].toArray, [].toArray⟩
noncomputable def o223 (P : Params) : Obj := ⟨.type "function", none, .func { name := (Str.ofString "_law_drawn"), qualname := (Str.ofString "_law_drawn"), params := fPar29, body := .stmts fBody29, scope := fSco29, globals := 3, closure := [], defaults := .none, kwdefaults := .none, doc := .none, pyModule := .str (Str.ofString "law_wb0084_01") 2428, annotations := none, code := .ref 222, closureTuple := .none, builtins := 0 }, [].toArray⟩
noncomputable def o224 (P : Params) : Obj := ⟨.type "tuple", none, .seq [].toArray 0, [].toArray⟩
noncomputable def o225 (P : Params) : Obj := ⟨.none, none, .fields [].toArray, [].toArray⟩
noncomputable def o226 (P : Params) : Obj := ⟨.type "tuple", none, .seq [.str (Str.ofString "text") 2455, .str (Str.ofString "tokens") 2456, .str (Str.ofString "sign") 2457, .str (Str.ofString "unseen") 2458, .str (Str.ofString "joint") 2459].toArray 0, [].toArray⟩
noncomputable def o227 (P : Params) : Obj := ⟨.type "tuple", none, .seq [].toArray 0, [].toArray⟩
noncomputable def o228 (P : Params) : Obj := ⟨.none, none, .func { name := (Str.ofString "_law_read"), qualname := (Str.ofString "_law_read"), params := fPar30, body := .stmts fBody30, scope := fSco30, globals := 0, closure := [], defaults := .none, kwdefaults := .none, doc := .none, pyModule := .none, annotations := none, code := .none, closureTuple := .none, builtins := 0 }, [].toArray⟩
noncomputable def o229 (P : Params) : Obj := ⟨.type "code", none, .fields [.str (Str.ofString "_law_read") 2452, .str (Str.ofString "_law_read") 2453, .str (Str.ofString "/claim/cut.py") 2454, .int 145 0, .int 1 0, .int 0 0, .int 0 0, .int 3 0, .ref 224, .bool true, .int 181 0, .ref 225, .none, .ref 226, .ref 227, .ref 228, .int 2460 0, .int 145 0, .str (Str.ofString "/claim/cut.py") 2461].toArray, [].toArray⟩
noncomputable def o230 (P : Params) : Obj := ⟨.type "function", none, .func { name := (Str.ofString "_law_read"), qualname := (Str.ofString "_law_read"), params := fPar30, body := .stmts fBody30, scope := fSco30, globals := 3, closure := [], defaults := .none, kwdefaults := .none, doc := .none, pyModule := .str (Str.ofString "law_wb0084_01") 2428, annotations := none, code := .ref 229, closureTuple := .none, builtins := 0 }, [].toArray⟩
noncomputable def o231 (P : Params) : Obj := ⟨.type "tuple", none, .seq [].toArray 0, [].toArray⟩
noncomputable def o232 (P : Params) : Obj := ⟨.none, none, .fields [].toArray, [].toArray⟩
noncomputable def o233 (P : Params) : Obj := ⟨.type "tuple", none, .seq [.str (Str.ofString "tokens") 2466, .str (Str.ofString "x") 2467, .str (Str.ofString "deeds") 2468, .str (Str.ofString "pile") 2469, .str (Str.ofString "token") 2470, .str (Str.ofString "first") 2471, .str (Str.ofString "second") 2472].toArray 0, [].toArray⟩
noncomputable def o234 (P : Params) : Obj := ⟨.type "tuple", none, .seq [].toArray 0, [].toArray⟩
noncomputable def o235 (P : Params) : Obj := ⟨.none, none, .func { name := (Str.ofString "_law_told"), qualname := (Str.ofString "_law_told"), params := fPar31, body := .stmts fBody31, scope := fSco31, globals := 0, closure := [], defaults := .none, kwdefaults := .none, doc := .none, pyModule := .none, annotations := none, code := .none, closureTuple := .none, builtins := 0 }, [].toArray⟩
noncomputable def o236 (P : Params) : Obj := ⟨.type "code", none, .fields [.str (Str.ofString "_law_told") 2463, .str (Str.ofString "_law_told") 2464, .str (Str.ofString "/claim/cut.py") 2465, .int 156 0, .int 2 0, .int 0 0, .int 0 0, .int 3 0, .ref 231, .bool true, .int 181 0, .ref 232, .none, .ref 233, .ref 234, .ref 235, .int 2473 0, .int 156 0, .str (Str.ofString "/claim/cut.py") 2474].toArray, [].toArray⟩
noncomputable def o237 (P : Params) : Obj := ⟨.type "function", none, .func { name := (Str.ofString "_law_told"), qualname := (Str.ofString "_law_told"), params := fPar31, body := .stmts fBody31, scope := fSco31, globals := 3, closure := [], defaults := .none, kwdefaults := .none, doc := .none, pyModule := .str (Str.ofString "law_wb0084_01") 2428, annotations := none, code := .ref 236, closureTuple := .none, builtins := 0 }, [].toArray⟩
noncomputable def o238 (P : Params) : Obj := ⟨.type "tuple", none, .seq [].toArray 0, [].toArray⟩
noncomputable def o239 (P : Params) : Obj := ⟨.none, none, .fields [].toArray, [].toArray⟩
noncomputable def o240 (P : Params) : Obj := ⟨.type "tuple", none, .seq [.str (Str.ofString "drawn") 2479, .str (Str.ofString "x") 2480, .str (Str.ofString "k") 2481, .str (Str.ofString "pile") 2482, .str (Str.ofString "token") 2483, .str (Str.ofString "a") 2484, .str (Str.ofString "p") 2485, .str (Str.ofString "b") 2486, .str (Str.ofString "q") 2487, .str (Str.ofString "c") 2488, .str (Str.ofString "r") 2489, .str (Str.ofString "i") 2490, .str (Str.ofString "j") 2491, .str (Str.ofString "m") 2492, .str (Str.ofString "due") 2493].toArray 0, [].toArray⟩
noncomputable def o241 (P : Params) : Obj := ⟨.type "tuple", none, .seq [].toArray 0, [].toArray⟩
noncomputable def o242 (P : Params) : Obj := ⟨.none, none, .func { name := (Str.ofString "_law_plain"), qualname := (Str.ofString "_law_plain"), params := fPar32, body := .stmts fBody32, scope := fSco32, globals := 0, closure := [], defaults := .none, kwdefaults := .none, doc := .none, pyModule := .none, annotations := none, code := .none, closureTuple := .none, builtins := 0 }, [].toArray⟩
noncomputable def o243 (P : Params) : Obj := ⟨.type "code", none, .fields [.str (Str.ofString "_law_plain") 2476, .str (Str.ofString "_law_plain") 2477, .str (Str.ofString "/claim/cut.py") 2478, .int 173 0, .int 3 0, .int 0 0, .int 0 0, .int 3 0, .ref 238, .bool true, .int 181 0, .ref 239, .none, .ref 240, .ref 241, .ref 242, .int 2494 0, .int 173 0, .str (Str.ofString "/claim/cut.py") 2495].toArray, [].toArray⟩
noncomputable def o244 (P : Params) : Obj := ⟨.type "function", none, .func { name := (Str.ofString "_law_plain"), qualname := (Str.ofString "_law_plain"), params := fPar32, body := .stmts fBody32, scope := fSco32, globals := 3, closure := [], defaults := .none, kwdefaults := .none, doc := .none, pyModule := .str (Str.ofString "law_wb0084_01") 2428, annotations := none, code := .ref 243, closureTuple := .none, builtins := 0 }, [].toArray⟩
noncomputable def o245 (P : Params) : Obj := ⟨.type "tuple", none, .seq [].toArray 0, [].toArray⟩
noncomputable def o246 (P : Params) : Obj := ⟨.none, none, .fields [].toArray, [].toArray⟩
noncomputable def o247 (P : Params) : Obj := ⟨.type "tuple", none, .seq [.str (Str.ofString "value") 2500, .str (Str.ofString "places") 2501, .str (Str.ofString "turn") 2502, .str (Str.ofString "quotient") 2503, .str (Str.ofString "rest") 2504, .str (Str.ofString "due") 2505].toArray 0, [].toArray⟩
noncomputable def o248 (P : Params) : Obj := ⟨.type "tuple", none, .seq [].toArray 0, [].toArray⟩
noncomputable def o249 (P : Params) : Obj := ⟨.none, none, .func { name := (Str.ofString "_law_rest"), qualname := (Str.ofString "_law_rest"), params := fPar33, body := .stmts fBody33, scope := fSco33, globals := 0, closure := [], defaults := .none, kwdefaults := .none, doc := .none, pyModule := .none, annotations := none, code := .none, closureTuple := .none, builtins := 0 }, [].toArray⟩
noncomputable def o250 (P : Params) : Obj := ⟨.type "code", none, .fields [.str (Str.ofString "_law_rest") 2497, .str (Str.ofString "_law_rest") 2498, .str (Str.ofString "/claim/cut.py") 2499, .int 196 0, .int 3 0, .int 0 0, .int 0 0, .int 3 0, .ref 245, .bool true, .int 181 0, .ref 246, .none, .ref 247, .ref 248, .ref 249, .int 2506 0, .int 196 0, .str (Str.ofString "/claim/cut.py") 2507].toArray, [].toArray⟩
noncomputable def o251 (P : Params) : Obj := ⟨.type "function", none, .func { name := (Str.ofString "_law_rest"), qualname := (Str.ofString "_law_rest"), params := fPar33, body := .stmts fBody33, scope := fSco33, globals := 3, closure := [], defaults := .none, kwdefaults := .none, doc := .none, pyModule := .str (Str.ofString "law_wb0084_01") 2428, annotations := none, code := .ref 250, closureTuple := .none, builtins := 0 }, [].toArray⟩
noncomputable def o252 (P : Params) : Obj := ⟨.type "tuple", none, .seq [].toArray 0, [].toArray⟩
noncomputable def o253 (P : Params) : Obj := ⟨.none, none, .fields [].toArray, [].toArray⟩
noncomputable def o254 (P : Params) : Obj := ⟨.type "tuple", none, .seq [.str (Str.ofString "value") 2512, .str (Str.ofString "other") 2513, .str (Str.ofString "quotient") 2514, .str (Str.ofString "rest") 2515].toArray 0, [].toArray⟩
noncomputable def o255 (P : Params) : Obj := ⟨.type "tuple", none, .seq [].toArray 0, [].toArray⟩
noncomputable def o256 (P : Params) : Obj := ⟨.none, none, .func { name := (Str.ofString "_law_parted"), qualname := (Str.ofString "_law_parted"), params := fPar34, body := .stmts fBody34, scope := fSco34, globals := 0, closure := [], defaults := .none, kwdefaults := .none, doc := .none, pyModule := .none, annotations := none, code := .none, closureTuple := .none, builtins := 0 }, [].toArray⟩
noncomputable def o257 (P : Params) : Obj := ⟨.type "code", none, .fields [.str (Str.ofString "_law_parted") 2509, .str (Str.ofString "_law_parted") 2510, .str (Str.ofString "/claim/cut.py") 2511, .int 200 0, .int 2 0, .int 0 0, .int 0 0, .int 3 0, .ref 252, .bool true, .int 181 0, .ref 253, .none, .ref 254, .ref 255, .ref 256, .int 2516 0, .int 200 0, .str (Str.ofString "/claim/cut.py") 2517].toArray, [].toArray⟩
noncomputable def o258 (P : Params) : Obj := ⟨.type "function", none, .func { name := (Str.ofString "_law_parted"), qualname := (Str.ofString "_law_parted"), params := fPar34, body := .stmts fBody34, scope := fSco34, globals := 3, closure := [], defaults := .none, kwdefaults := .none, doc := .none, pyModule := .str (Str.ofString "law_wb0084_01") 2428, annotations := none, code := .ref 257, closureTuple := .none, builtins := 0 }, [].toArray⟩
noncomputable def o259 (P : Params) : Obj := ⟨.type "tuple", none, .seq [].toArray 0, [].toArray⟩
noncomputable def o260 (P : Params) : Obj := ⟨.none, none, .fields [].toArray, [].toArray⟩
noncomputable def o261 (P : Params) : Obj := ⟨.none, none, .func { name := (Str.ofString "law"), qualname := (Str.ofString "law"), params := fPar35, body := .stmts fBody35, scope := fSco35, globals := 0, closure := [], defaults := .none, kwdefaults := .none, doc := .none, pyModule := .none, annotations := none, code := .none, closureTuple := .none, builtins := 0 }, [].toArray⟩
noncomputable def o262 (P : Params) : Obj := ⟨.type "code", none, .fields [.str (Str.ofString "law") 2519, .str (Str.ofString "law") 2520, .str (Str.ofString "/claim/cut.py") 2521, .int 206 0, .int 1 0, .int 0 0, .int 0 0, .int 3 0, .ref 259, .bool true, .int 181 0, .ref 260, .none, .none, .none, .ref 261, .int 2522 0, .int 206 0, .str (Str.ofString "/claim/cut.py") 2523].toArray, [].toArray⟩
noncomputable def o263 (P : Params) : Obj := ⟨.type "function", none, .func { name := (Str.ofString "law"), qualname := (Str.ofString "law"), params := fPar35, body := .stmts fBody35, scope := fSco35, globals := 3, closure := [], defaults := .none, kwdefaults := .none, doc := .none, pyModule := .str (Str.ofString "law_wb0084_01") 2428, annotations := none, code := .ref 262, closureTuple := .none, builtins := 0 }, [].toArray⟩
noncomputable def o3v0 (P : Params) : Obj := ⟨.type "dict", none, .dict [⟨PyData.keyHash P (Str.ofString "__name__"), .str (Str.ofString "__name__") 165, .str (Str.ofString "__main__") 164⟩,
  ⟨PyData.keyHash P (Str.ofString "__doc__"), .str (Str.ofString "__doc__") 166, .none⟩,
  ⟨PyData.keyHash P (Str.ofString "__package__"), .str (Str.ofString "__package__") 167, .none⟩,
  ⟨PyData.keyHash P (Str.ofString "__loader__"), .str (Str.ofString "__loader__") 168, .builtin "__main__.__loader__#opaque"⟩,
  ⟨PyData.keyHash P (Str.ofString "__spec__"), .str (Str.ofString "__spec__") 169, .none⟩,
  ⟨PyData.keyHash P (Str.ofString "__annotations__"), .str (Str.ofString "__annotations__") 170, .ref 6⟩,
  ⟨PyData.keyHash P (Str.ofString "__builtins__"), .str (Str.ofString "__builtins__") 171, .ref 4⟩,
  ⟨PyData.keyHash P (Str.ofString "__file__"), .str (Str.ofString "__file__") 173, .str (Str.ofString "/claim/cut.py") 172⟩,
  ⟨PyData.keyHash P (Str.ofString "__cached__"), .str (Str.ofString "__cached__") 174, .none⟩].toArray 9, [].toArray⟩
noncomputable def o12v0 (P : Params) : Obj := ⟨.none, none, .fields [].toArray, [].toArray⟩
noncomputable def T0 (P : Params) : BT := (.node (boot_o_0 P) (.node (boot_o_1 P) (.node (o3v0 P) (.node (boot_o_7 P) .nil .nil) (.node (o11 P) .nil .nil)) (.node (boot_o_5 P) (.node (boot_o_9 P) .nil .nil) (.node (o13 P) .nil .nil))) (.node (boot_o_2 P) (.node (boot_o_4 P) (.node (boot_o_8 P) .nil .nil) (.node (o12v0 P) .nil .nil)) (.node (boot_o_6 P) (.node (boot_o_10 P) .nil .nil) (.node (o14 P) .nil .nil))))
noncomputable def S0 (w : World) (os : OsState) : SharedT := ⟨T0 w.params, 15, lf w.params, Array.mk [], boot_drawn, 187, os⟩
noncomputable def pos0 : Pos := ⟨0, 0, 0, 0⟩
noncomputable def o3v9 (P : Params) : Obj := ⟨.type "dict", none, .dict [⟨PyData.keyHash P (Str.ofString "__name__"), .str (Str.ofString "__name__") 165, .str (Str.ofString "cpy313.operator") 269⟩,
  ⟨PyData.keyHash P (Str.ofString "__doc__"), .str (Str.ofString "__doc__") 166, .none⟩,
  ⟨PyData.keyHash P (Str.ofString "__package__"), .str (Str.ofString "__package__") 167, .none⟩,
  ⟨PyData.keyHash P (Str.ofString "__loader__"), .str (Str.ofString "__loader__") 168, .builtin "__main__.__loader__#opaque"⟩,
  ⟨PyData.keyHash P (Str.ofString "__spec__"), .str (Str.ofString "__spec__") 169, .none⟩,
  ⟨PyData.keyHash P (Str.ofString "__annotations__"), .str (Str.ofString "__annotations__") 170, .ref 6⟩,
  ⟨PyData.keyHash P (Str.ofString "__builtins__"), .str (Str.ofString "__builtins__") 171, .ref 4⟩,
  ⟨PyData.keyHash P (Str.ofString "__file__"), .str (Str.ofString "__file__") 173, .str (Str.ofString "/claim/cut.py") 172⟩,
  ⟨PyData.keyHash P (Str.ofString "__cached__"), .str (Str.ofString "__cached__") 174, .none⟩,
  ⟨PyData.keyHash P (Str.ofString "_DIV_LIMIT"), .str (Str.ofString "_DIV_LIMIT") 190, .int 4000 189⟩,
  ⟨PyData.keyHash P (Str.ofString "_div2n1n"), .str (Str.ofString "_div2n1n") 207, .ref 21⟩,
  ⟨PyData.keyHash P (Str.ofString "_div3n2n"), .str (Str.ofString "_div3n2n") 221, .ref 28⟩,
  ⟨PyData.keyHash P (Str.ofString "_int2digits"), .str (Str.ofString "_int2digits") 232, .ref 35⟩,
  ⟨PyData.keyHash P (Str.ofString "_digits2int"), .str (Str.ofString "_digits2int") 243, .ref 42⟩,
  ⟨PyData.keyHash P (Str.ofString "_divmod_pos"), .str (Str.ofString "_divmod_pos") 258, .ref 49⟩,
  ⟨PyData.keyHash P (Str.ofString "int_divmod"), .str (Str.ofString "int_divmod") 268, .ref 56⟩].toArray 16, [].toArray⟩
noncomputable def o12v9 (P : Params) : Obj := ⟨.none, none, .fields [.int 3 0, .int 0 0, .ref 20, .int 19 0, .int 0 0, .ref 27, .int 29 0, .int 0 0, .ref 34, .int 45 0, .int 0 0, .ref 41, .int 54 0, .int 0 0, .ref 48, .int 65 0, .int 0 0, .ref 55].toArray, [].toArray⟩
noncomputable def T9 (P : Params) : BT := (.node (boot_o_0 P) (.node (boot_o_1 P) (.node (o3v9 P) (.node (boot_o_7 P) (.node (o15 P) (.node (o31 P) .nil .nil) (.node (o47 P) .nil .nil)) (.node (o23 P) (.node (o39 P) .nil .nil) (.node (o55 P) .nil .nil))) (.node (o11 P) (.node (o19 P) (.node (o35 P) .nil .nil) (.node (o51 P) .nil .nil)) (.node (o27 P) (.node (o43 P) .nil .nil) .nil))) (.node (boot_o_5 P) (.node (boot_o_9 P) (.node (o17 P) (.node (o33 P) .nil .nil) (.node (o49 P) .nil .nil)) (.node (o25 P) (.node (o41 P) .nil .nil) .nil)) (.node (o13 P) (.node (o21 P) (.node (o37 P) .nil .nil) (.node (o53 P) .nil .nil)) (.node (o29 P) (.node (o45 P) .nil .nil) .nil)))) (.node (boot_o_2 P) (.node (boot_o_4 P) (.node (boot_o_8 P) (.node (o16 P) (.node (o32 P) .nil .nil) (.node (o48 P) .nil .nil)) (.node (o24 P) (.node (o40 P) .nil .nil) (.node (o56 P) .nil .nil))) (.node (o12v9 P) (.node (o20 P) (.node (o36 P) .nil .nil) (.node (o52 P) .nil .nil)) (.node (o28 P) (.node (o44 P) .nil .nil) .nil))) (.node (boot_o_6 P) (.node (boot_o_10 P) (.node (o18 P) (.node (o34 P) .nil .nil) (.node (o50 P) .nil .nil)) (.node (o26 P) (.node (o42 P) .nil .nil) .nil)) (.node (o14 P) (.node (o22 P) (.node (o38 P) .nil .nil) (.node (o54 P) .nil .nil)) (.node (o30 P) (.node (o46 P) .nil .nil) .nil)))))
noncomputable def S9 (w : World) (os : OsState) : SharedT := ⟨T9 w.params, 57, lf w.params, Array.mk [], boot_drawn, 271, os⟩
noncomputable def pos9 : Pos := ⟨76, 0, 76, 8⟩
noncomputable def o3v22 (P : Params) : Obj := ⟨.type "dict", none, .dict [⟨PyData.keyHash P (Str.ofString "__name__"), .str (Str.ofString "__name__") 165, .str (Str.ofString "cpy313.stringprep") 365⟩,
  ⟨PyData.keyHash P (Str.ofString "__doc__"), .str (Str.ofString "__doc__") 166, .none⟩,
  ⟨PyData.keyHash P (Str.ofString "__package__"), .str (Str.ofString "__package__") 167, .none⟩,
  ⟨PyData.keyHash P (Str.ofString "__loader__"), .str (Str.ofString "__loader__") 168, .builtin "__main__.__loader__#opaque"⟩,
  ⟨PyData.keyHash P (Str.ofString "__spec__"), .str (Str.ofString "__spec__") 169, .none⟩,
  ⟨PyData.keyHash P (Str.ofString "__annotations__"), .str (Str.ofString "__annotations__") 170, .ref 6⟩,
  ⟨PyData.keyHash P (Str.ofString "__builtins__"), .str (Str.ofString "__builtins__") 171, .ref 4⟩,
  ⟨PyData.keyHash P (Str.ofString "__file__"), .str (Str.ofString "__file__") 173, .str (Str.ofString "/claim/cut.py") 172⟩,
  ⟨PyData.keyHash P (Str.ofString "__cached__"), .str (Str.ofString "__cached__") 174, .none⟩,
  ⟨PyData.keyHash P (Str.ofString "_DIV_LIMIT"), .str (Str.ofString "_DIV_LIMIT") 190, .int 4000 189⟩,
  ⟨PyData.keyHash P (Str.ofString "_div2n1n"), .str (Str.ofString "_div2n1n") 207, .ref 21⟩,
  ⟨PyData.keyHash P (Str.ofString "_div3n2n"), .str (Str.ofString "_div3n2n") 221, .ref 28⟩,
  ⟨PyData.keyHash P (Str.ofString "_int2digits"), .str (Str.ofString "_int2digits") 232, .ref 35⟩,
  ⟨PyData.keyHash P (Str.ofString "_digits2int"), .str (Str.ofString "_digits2int") 243, .ref 42⟩,
  ⟨PyData.keyHash P (Str.ofString "_divmod_pos"), .str (Str.ofString "_divmod_pos") 258, .ref 49⟩,
  ⟨PyData.keyHash P (Str.ofString "int_divmod"), .str (Str.ofString "int_divmod") 268, .ref 56⟩,
  ⟨PyData.keyHash P (Str.ofString "add"), .str (Str.ofString "add") 278, .ref 63⟩,
  ⟨PyData.keyHash P (Str.ofString "and_"), .str (Str.ofString "and_") 286, .ref 70⟩,
  ⟨PyData.keyHash P (Str.ofString "inv"), .str (Str.ofString "inv") 293, .ref 77⟩,
  ⟨PyData.keyHash P (Str.ofString "lshift"), .str (Str.ofString "lshift") 301, .ref 84⟩,
  ⟨PyData.keyHash P (Str.ofString "mul"), .str (Str.ofString "mul") 309, .ref 91⟩,
  ⟨PyData.keyHash P (Str.ofString "neg"), .str (Str.ofString "neg") 316, .ref 98⟩,
  ⟨PyData.keyHash P (Str.ofString "or_"), .str (Str.ofString "or_") 324, .ref 105⟩,
  ⟨PyData.keyHash P (Str.ofString "sub"), .str (Str.ofString "sub") 332, .ref 112⟩,
  ⟨PyData.keyHash P (Str.ofString "xor"), .str (Str.ofString "xor") 340, .ref 119⟩,
  ⟨PyData.keyHash P (Str.ofString "iadd"), .str (Str.ofString "iadd") 348, .ref 126⟩,
  ⟨PyData.keyHash P (Str.ofString "imul"), .str (Str.ofString "imul") 356, .ref 133⟩,
  ⟨PyData.keyHash P (Str.ofString "ixor"), .str (Str.ofString "ixor") 364, .ref 140⟩].toArray 28, [].toArray⟩
noncomputable def o12v22 (P : Params) : Obj := ⟨.none, none, .fields [.int 3 0, .int 0 0, .ref 20, .int 19 0, .int 0 0, .ref 27, .int 29 0, .int 0 0, .ref 34, .int 45 0, .int 0 0, .ref 41, .int 54 0, .int 0 0, .ref 48, .int 65 0, .int 0 0, .ref 55, .int 77 0, .int 0 0, .ref 62, .int 79 0, .int 0 0, .ref 69, .int 81 0, .int 0 0, .ref 76, .int 83 0, .int 0 0, .ref 83, .int 85 0, .int 0 0, .ref 90, .int 87 0, .int 0 0, .ref 97, .int 89 0, .int 0 0, .ref 104, .int 91 0, .int 0 0, .ref 111, .int 93 0, .int 0 0, .ref 118, .int 95 0, .int 0 0, .ref 125, .int 98 0, .int 0 0, .ref 132, .int 101 0, .int 0 0, .ref 139].toArray, [].toArray⟩
noncomputable def T22 (P : Params) : BT := (.node (boot_o_0 P) (.node (boot_o_1 P) (.node (o3v22 P) (.node (boot_o_7 P) (.node (o15 P) (.node (o31 P) (.node (o63 P) (.node (o127 P) .nil .nil) .nil) (.node (o95 P) .nil .nil)) (.node (o47 P) (.node (o79 P) .nil .nil) (.node (o111 P) .nil .nil))) (.node (o23 P) (.node (o39 P) (.node (o71 P) (.node (o135 P) .nil .nil) .nil) (.node (o103 P) .nil .nil)) (.node (o55 P) (.node (o87 P) .nil .nil) (.node (o119 P) .nil .nil)))) (.node (o11 P) (.node (o19 P) (.node (o35 P) (.node (o67 P) (.node (o131 P) .nil .nil) .nil) (.node (o99 P) .nil .nil)) (.node (o51 P) (.node (o83 P) .nil .nil) (.node (o115 P) .nil .nil))) (.node (o27 P) (.node (o43 P) (.node (o75 P) (.node (o139 P) .nil .nil) .nil) (.node (o107 P) .nil .nil)) (.node (o59 P) (.node (o91 P) .nil .nil) (.node (o123 P) .nil .nil))))) (.node (boot_o_5 P) (.node (boot_o_9 P) (.node (o17 P) (.node (o33 P) (.node (o65 P) (.node (o129 P) .nil .nil) .nil) (.node (o97 P) .nil .nil)) (.node (o49 P) (.node (o81 P) .nil .nil) (.node (o113 P) .nil .nil))) (.node (o25 P) (.node (o41 P) (.node (o73 P) (.node (o137 P) .nil .nil) .nil) (.node (o105 P) .nil .nil)) (.node (o57 P) (.node (o89 P) .nil .nil) (.node (o121 P) .nil .nil)))) (.node (o13 P) (.node (o21 P) (.node (o37 P) (.node (o69 P) (.node (o133 P) .nil .nil) .nil) (.node (o101 P) .nil .nil)) (.node (o53 P) (.node (o85 P) .nil .nil) (.node (o117 P) .nil .nil))) (.node (o29 P) (.node (o45 P) (.node (o77 P) .nil .nil) (.node (o109 P) .nil .nil)) (.node (o61 P) (.node (o93 P) .nil .nil) (.node (o125 P) .nil .nil)))))) (.node (boot_o_2 P) (.node (boot_o_4 P) (.node (boot_o_8 P) (.node (o16 P) (.node (o32 P) (.node (o64 P) (.node (o128 P) .nil .nil) .nil) (.node (o96 P) .nil .nil)) (.node (o48 P) (.node (o80 P) .nil .nil) (.node (o112 P) .nil .nil))) (.node (o24 P) (.node (o40 P) (.node (o72 P) (.node (o136 P) .nil .nil) .nil) (.node (o104 P) .nil .nil)) (.node (o56 P) (.node (o88 P) .nil .nil) (.node (o120 P) .nil .nil)))) (.node (o12v22 P) (.node (o20 P) (.node (o36 P) (.node (o68 P) (.node (o132 P) .nil .nil) .nil) (.node (o100 P) .nil .nil)) (.node (o52 P) (.node (o84 P) .nil .nil) (.node (o116 P) .nil .nil))) (.node (o28 P) (.node (o44 P) (.node (o76 P) (.node (o140 P) .nil .nil) .nil) (.node (o108 P) .nil .nil)) (.node (o60 P) (.node (o92 P) .nil .nil) (.node (o124 P) .nil .nil))))) (.node (boot_o_6 P) (.node (boot_o_10 P) (.node (o18 P) (.node (o34 P) (.node (o66 P) (.node (o130 P) .nil .nil) .nil) (.node (o98 P) .nil .nil)) (.node (o50 P) (.node (o82 P) .nil .nil) (.node (o114 P) .nil .nil))) (.node (o26 P) (.node (o42 P) (.node (o74 P) (.node (o138 P) .nil .nil) .nil) (.node (o106 P) .nil .nil)) (.node (o58 P) (.node (o90 P) .nil .nil) (.node (o122 P) .nil .nil)))) (.node (o14 P) (.node (o22 P) (.node (o38 P) (.node (o70 P) (.node (o134 P) .nil .nil) .nil) (.node (o102 P) .nil .nil)) (.node (o54 P) (.node (o86 P) .nil .nil) (.node (o118 P) .nil .nil))) (.node (o30 P) (.node (o46 P) (.node (o78 P) .nil .nil) (.node (o110 P) .nil .nil)) (.node (o62 P) (.node (o94 P) .nil .nil) (.node (o126 P) .nil .nil)))))))
noncomputable def S22 (w : World) (os : OsState) : SharedT := ⟨T22 w.params, 141, lf w.params, Array.mk [], boot_drawn, 367, os⟩
noncomputable def pos22 : Pos := ⟨104, 0, 104, 8⟩
noncomputable def o3v23 (P : Params) : Obj := ⟨.type "dict", none, .dict [⟨PyData.keyHash P (Str.ofString "__name__"), .str (Str.ofString "__name__") 165, .str (Str.ofString "cpy313.stringprep") 365⟩,
  ⟨PyData.keyHash P (Str.ofString "__doc__"), .str (Str.ofString "__doc__") 166, .none⟩,
  ⟨PyData.keyHash P (Str.ofString "__package__"), .str (Str.ofString "__package__") 167, .none⟩,
  ⟨PyData.keyHash P (Str.ofString "__loader__"), .str (Str.ofString "__loader__") 168, .builtin "__main__.__loader__#opaque"⟩,
  ⟨PyData.keyHash P (Str.ofString "__spec__"), .str (Str.ofString "__spec__") 169, .none⟩,
  ⟨PyData.keyHash P (Str.ofString "__annotations__"), .str (Str.ofString "__annotations__") 170, .ref 6⟩,
  ⟨PyData.keyHash P (Str.ofString "__builtins__"), .str (Str.ofString "__builtins__") 171, .ref 4⟩,
  ⟨PyData.keyHash P (Str.ofString "__file__"), .str (Str.ofString "__file__") 173, .str (Str.ofString "/claim/cut.py") 172⟩,
  ⟨PyData.keyHash P (Str.ofString "__cached__"), .str (Str.ofString "__cached__") 174, .none⟩,
  ⟨PyData.keyHash P (Str.ofString "_DIV_LIMIT"), .str (Str.ofString "_DIV_LIMIT") 190, .int 4000 189⟩,
  ⟨PyData.keyHash P (Str.ofString "_div2n1n"), .str (Str.ofString "_div2n1n") 207, .ref 21⟩,
  ⟨PyData.keyHash P (Str.ofString "_div3n2n"), .str (Str.ofString "_div3n2n") 221, .ref 28⟩,
  ⟨PyData.keyHash P (Str.ofString "_int2digits"), .str (Str.ofString "_int2digits") 232, .ref 35⟩,
  ⟨PyData.keyHash P (Str.ofString "_digits2int"), .str (Str.ofString "_digits2int") 243, .ref 42⟩,
  ⟨PyData.keyHash P (Str.ofString "_divmod_pos"), .str (Str.ofString "_divmod_pos") 258, .ref 49⟩,
  ⟨PyData.keyHash P (Str.ofString "int_divmod"), .str (Str.ofString "int_divmod") 268, .ref 56⟩,
  ⟨PyData.keyHash P (Str.ofString "add"), .str (Str.ofString "add") 278, .ref 63⟩,
  ⟨PyData.keyHash P (Str.ofString "and_"), .str (Str.ofString "and_") 286, .ref 70⟩,
  ⟨PyData.keyHash P (Str.ofString "inv"), .str (Str.ofString "inv") 293, .ref 77⟩,
  ⟨PyData.keyHash P (Str.ofString "lshift"), .str (Str.ofString "lshift") 301, .ref 84⟩,
  ⟨PyData.keyHash P (Str.ofString "mul"), .str (Str.ofString "mul") 309, .ref 91⟩,
  ⟨PyData.keyHash P (Str.ofString "neg"), .str (Str.ofString "neg") 316, .ref 98⟩,
  ⟨PyData.keyHash P (Str.ofString "or_"), .str (Str.ofString "or_") 324, .ref 105⟩,
  ⟨PyData.keyHash P (Str.ofString "sub"), .str (Str.ofString "sub") 332, .ref 112⟩,
  ⟨PyData.keyHash P (Str.ofString "xor"), .str (Str.ofString "xor") 340, .ref 119⟩,
  ⟨PyData.keyHash P (Str.ofString "iadd"), .str (Str.ofString "iadd") 348, .ref 126⟩,
  ⟨PyData.keyHash P (Str.ofString "imul"), .str (Str.ofString "imul") 356, .ref 133⟩,
  ⟨PyData.keyHash P (Str.ofString "ixor"), .str (Str.ofString "ixor") 364, .ref 140⟩,
  ⟨PyData.keyHash P (Str.ofString "b1_set"), .str (Str.ofString "b1_set") 426, .ref 148⟩].toArray 29, [].toArray⟩
noncomputable def o12v23 (P : Params) : Obj := ⟨.none, none, .fields [.int 3 0, .int 0 0, .ref 20, .int 19 0, .int 0 0, .ref 27, .int 29 0, .int 0 0, .ref 34, .int 45 0, .int 0 0, .ref 41, .int 54 0, .int 0 0, .ref 48, .int 65 0, .int 0 0, .ref 55, .int 77 0, .int 0 0, .ref 62, .int 79 0, .int 0 0, .ref 69, .int 81 0, .int 0 0, .ref 76, .int 83 0, .int 0 0, .ref 83, .int 85 0, .int 0 0, .ref 90, .int 87 0, .int 0 0, .ref 97, .int 89 0, .int 0 0, .ref 104, .int 91 0, .int 0 0, .ref 111, .int 93 0, .int 0 0, .ref 118, .int 95 0, .int 0 0, .ref 125, .int 98 0, .int 0 0, .ref 132, .int 101 0, .int 0 0, .ref 139].toArray, [].toArray⟩
noncomputable def T23 (P : Params) : BT := (.node (boot_o_0 P) (.node (boot_o_1 P) (.node (o3v23 P) (.node (boot_o_7 P) (.node (o15 P) (.node (o31 P) (.node (o63 P) (.node (o127 P) .nil .nil) .nil) (.node (o95 P) .nil .nil)) (.node (o47 P) (.node (o79 P) (.node (o143 P) .nil .nil) .nil) (.node (o111 P) .nil .nil))) (.node (o23 P) (.node (o39 P) (.node (o71 P) (.node (o135 P) .nil .nil) .nil) (.node (o103 P) .nil .nil)) (.node (o55 P) (.node (o87 P) (.node (o151 P) .nil .nil) .nil) (.node (o119 P) .nil .nil)))) (.node (o11 P) (.node (o19 P) (.node (o35 P) (.node (o67 P) (.node (o131 P) .nil .nil) .nil) (.node (o99 P) .nil .nil)) (.node (o51 P) (.node (o83 P) (.node (o147 P) .nil .nil) .nil) (.node (o115 P) .nil .nil))) (.node (o27 P) (.node (o43 P) (.node (o75 P) (.node (o139 P) .nil .nil) .nil) (.node (o107 P) .nil .nil)) (.node (o59 P) (.node (o91 P) .nil .nil) (.node (o123 P) .nil .nil))))) (.node (boot_o_5 P) (.node (boot_o_9 P) (.node (o17 P) (.node (o33 P) (.node (o65 P) (.node (o129 P) .nil .nil) .nil) (.node (o97 P) .nil .nil)) (.node (o49 P) (.node (o81 P) (.node (o145 P) .nil .nil) .nil) (.node (o113 P) .nil .nil))) (.node (o25 P) (.node (o41 P) (.node (o73 P) (.node (o137 P) .nil .nil) .nil) (.node (o105 P) .nil .nil)) (.node (o57 P) (.node (o89 P) .nil .nil) (.node (o121 P) .nil .nil)))) (.node (o13 P) (.node (o21 P) (.node (o37 P) (.node (o69 P) (.node (o133 P) .nil .nil) .nil) (.node (o101 P) .nil .nil)) (.node (o53 P) (.node (o85 P) (.node (o149 P) .nil .nil) .nil) (.node (o117 P) .nil .nil))) (.node (o29 P) (.node (o45 P) (.node (o77 P) (.node (o141 P) .nil .nil) .nil) (.node (o109 P) .nil .nil)) (.node (o61 P) (.node (o93 P) .nil .nil) (.node (o125 P) .nil .nil)))))) (.node (boot_o_2 P) (.node (boot_o_4 P) (.node (boot_o_8 P) (.node (o16 P) (.node (o32 P) (.node (o64 P) (.node (o128 P) .nil .nil) .nil) (.node (o96 P) .nil .nil)) (.node (o48 P) (.node (o80 P) (.node (o144 P) .nil .nil) .nil) (.node (o112 P) .nil .nil))) (.node (o24 P) (.node (o40 P) (.node (o72 P) (.node (o136 P) .nil .nil) .nil) (.node (o104 P) .nil .nil)) (.node (o56 P) (.node (o88 P) .nil .nil) (.node (o120 P) .nil .nil)))) (.node (o12v23 P) (.node (o20 P) (.node (o36 P) (.node (o68 P) (.node (o132 P) .nil .nil) .nil) (.node (o100 P) .nil .nil)) (.node (o52 P) (.node (o84 P) (.node (o148 P) .nil .nil) .nil) (.node (o116 P) .nil .nil))) (.node (o28 P) (.node (o44 P) (.node (o76 P) (.node (o140 P) .nil .nil) .nil) (.node (o108 P) .nil .nil)) (.node (o60 P) (.node (o92 P) .nil .nil) (.node (o124 P) .nil .nil))))) (.node (boot_o_6 P) (.node (boot_o_10 P) (.node (o18 P) (.node (o34 P) (.node (o66 P) (.node (o130 P) .nil .nil) .nil) (.node (o98 P) .nil .nil)) (.node (o50 P) (.node (o82 P) (.node (o146 P) .nil .nil) .nil) (.node (o114 P) .nil .nil))) (.node (o26 P) (.node (o42 P) (.node (o74 P) (.node (o138 P) .nil .nil) .nil) (.node (o106 P) .nil .nil)) (.node (o58 P) (.node (o90 P) .nil .nil) (.node (o122 P) .nil .nil)))) (.node (o14 P) (.node (o22 P) (.node (o38 P) (.node (o70 P) (.node (o134 P) .nil .nil) .nil) (.node (o102 P) .nil .nil)) (.node (o54 P) (.node (o86 P) (.node (o150 P) .nil .nil) .nil) (.node (o118 P) .nil .nil))) (.node (o30 P) (.node (o46 P) (.node (o78 P) (.node (o142 P) .nil .nil) .nil) (.node (o110 P) .nil .nil)) (.node (o62 P) (.node (o94 P) .nil .nil) (.node (o126 P) .nil .nil)))))))
noncomputable def S23 (w : World) (os : OsState) : SharedT := ⟨T23 w.params, 152, lf w.params, Array.mk [], boot_drawn, 427, os⟩
noncomputable def pos23 : Pos := ⟨105, 0, 105, 6⟩
noncomputable def o3v24 (P : Params) : Obj := ⟨.type "dict", none, .dict [⟨PyData.keyHash P (Str.ofString "__name__"), .str (Str.ofString "__name__") 165, .str (Str.ofString "cpy313.stringprep") 365⟩,
  ⟨PyData.keyHash P (Str.ofString "__doc__"), .str (Str.ofString "__doc__") 166, .none⟩,
  ⟨PyData.keyHash P (Str.ofString "__package__"), .str (Str.ofString "__package__") 167, .none⟩,
  ⟨PyData.keyHash P (Str.ofString "__loader__"), .str (Str.ofString "__loader__") 168, .builtin "__main__.__loader__#opaque"⟩,
  ⟨PyData.keyHash P (Str.ofString "__spec__"), .str (Str.ofString "__spec__") 169, .none⟩,
  ⟨PyData.keyHash P (Str.ofString "__annotations__"), .str (Str.ofString "__annotations__") 170, .ref 6⟩,
  ⟨PyData.keyHash P (Str.ofString "__builtins__"), .str (Str.ofString "__builtins__") 171, .ref 4⟩,
  ⟨PyData.keyHash P (Str.ofString "__file__"), .str (Str.ofString "__file__") 173, .str (Str.ofString "/claim/cut.py") 172⟩,
  ⟨PyData.keyHash P (Str.ofString "__cached__"), .str (Str.ofString "__cached__") 174, .none⟩,
  ⟨PyData.keyHash P (Str.ofString "_DIV_LIMIT"), .str (Str.ofString "_DIV_LIMIT") 190, .int 4000 189⟩,
  ⟨PyData.keyHash P (Str.ofString "_div2n1n"), .str (Str.ofString "_div2n1n") 207, .ref 21⟩,
  ⟨PyData.keyHash P (Str.ofString "_div3n2n"), .str (Str.ofString "_div3n2n") 221, .ref 28⟩,
  ⟨PyData.keyHash P (Str.ofString "_int2digits"), .str (Str.ofString "_int2digits") 232, .ref 35⟩,
  ⟨PyData.keyHash P (Str.ofString "_digits2int"), .str (Str.ofString "_digits2int") 243, .ref 42⟩,
  ⟨PyData.keyHash P (Str.ofString "_divmod_pos"), .str (Str.ofString "_divmod_pos") 258, .ref 49⟩,
  ⟨PyData.keyHash P (Str.ofString "int_divmod"), .str (Str.ofString "int_divmod") 268, .ref 56⟩,
  ⟨PyData.keyHash P (Str.ofString "add"), .str (Str.ofString "add") 278, .ref 63⟩,
  ⟨PyData.keyHash P (Str.ofString "and_"), .str (Str.ofString "and_") 286, .ref 70⟩,
  ⟨PyData.keyHash P (Str.ofString "inv"), .str (Str.ofString "inv") 293, .ref 77⟩,
  ⟨PyData.keyHash P (Str.ofString "lshift"), .str (Str.ofString "lshift") 301, .ref 84⟩,
  ⟨PyData.keyHash P (Str.ofString "mul"), .str (Str.ofString "mul") 309, .ref 91⟩,
  ⟨PyData.keyHash P (Str.ofString "neg"), .str (Str.ofString "neg") 316, .ref 98⟩,
  ⟨PyData.keyHash P (Str.ofString "or_"), .str (Str.ofString "or_") 324, .ref 105⟩,
  ⟨PyData.keyHash P (Str.ofString "sub"), .str (Str.ofString "sub") 332, .ref 112⟩,
  ⟨PyData.keyHash P (Str.ofString "xor"), .str (Str.ofString "xor") 340, .ref 119⟩,
  ⟨PyData.keyHash P (Str.ofString "iadd"), .str (Str.ofString "iadd") 348, .ref 126⟩,
  ⟨PyData.keyHash P (Str.ofString "imul"), .str (Str.ofString "imul") 356, .ref 133⟩,
  ⟨PyData.keyHash P (Str.ofString "ixor"), .str (Str.ofString "ixor") 364, .ref 140⟩,
  ⟨PyData.keyHash P (Str.ofString "b1_set"), .str (Str.ofString "b1_set") 426, .ref 148⟩,
  ⟨PyData.keyHash P (Str.ofString "in_table_b1"), .str (Str.ofString "in_table_b1") 433, .ref 158⟩].toArray 30, [].toArray⟩
noncomputable def o12v24 (P : Params) : Obj := ⟨.none, none, .fields [.int 3 0, .int 0 0, .ref 20, .int 19 0, .int 0 0, .ref 27, .int 29 0, .int 0 0, .ref 34, .int 45 0, .int 0 0, .ref 41, .int 54 0, .int 0 0, .ref 48, .int 65 0, .int 0 0, .ref 55, .int 77 0, .int 0 0, .ref 62, .int 79 0, .int 0 0, .ref 69, .int 81 0, .int 0 0, .ref 76, .int 83 0, .int 0 0, .ref 83, .int 85 0, .int 0 0, .ref 90, .int 87 0, .int 0 0, .ref 97, .int 89 0, .int 0 0, .ref 104, .int 91 0, .int 0 0, .ref 111, .int 93 0, .int 0 0, .ref 118, .int 95 0, .int 0 0, .ref 125, .int 98 0, .int 0 0, .ref 132, .int 101 0, .int 0 0, .ref 139, .int 106 0, .int 0 0, .ref 157].toArray, [].toArray⟩
noncomputable def T24 (P : Params) : BT := (.node (boot_o_0 P) (.node (boot_o_1 P) (.node (o3v24 P) (.node (boot_o_7 P) (.node (o15 P) (.node (o31 P) (.node (o63 P) (.node (o127 P) .nil .nil) .nil) (.node (o95 P) .nil .nil)) (.node (o47 P) (.node (o79 P) (.node (o143 P) .nil .nil) .nil) (.node (o111 P) .nil .nil))) (.node (o23 P) (.node (o39 P) (.node (o71 P) (.node (o135 P) .nil .nil) .nil) (.node (o103 P) .nil .nil)) (.node (o55 P) (.node (o87 P) (.node (o151 P) .nil .nil) .nil) (.node (o119 P) .nil .nil)))) (.node (o11 P) (.node (o19 P) (.node (o35 P) (.node (o67 P) (.node (o131 P) .nil .nil) .nil) (.node (o99 P) .nil .nil)) (.node (o51 P) (.node (o83 P) (.node (o147 P) .nil .nil) .nil) (.node (o115 P) .nil .nil))) (.node (o27 P) (.node (o43 P) (.node (o75 P) (.node (o139 P) .nil .nil) .nil) (.node (o107 P) .nil .nil)) (.node (o59 P) (.node (o91 P) (.node (o155 P) .nil .nil) .nil) (.node (o123 P) .nil .nil))))) (.node (boot_o_5 P) (.node (boot_o_9 P) (.node (o17 P) (.node (o33 P) (.node (o65 P) (.node (o129 P) .nil .nil) .nil) (.node (o97 P) .nil .nil)) (.node (o49 P) (.node (o81 P) (.node (o145 P) .nil .nil) .nil) (.node (o113 P) .nil .nil))) (.node (o25 P) (.node (o41 P) (.node (o73 P) (.node (o137 P) .nil .nil) .nil) (.node (o105 P) .nil .nil)) (.node (o57 P) (.node (o89 P) (.node (o153 P) .nil .nil) .nil) (.node (o121 P) .nil .nil)))) (.node (o13 P) (.node (o21 P) (.node (o37 P) (.node (o69 P) (.node (o133 P) .nil .nil) .nil) (.node (o101 P) .nil .nil)) (.node (o53 P) (.node (o85 P) (.node (o149 P) .nil .nil) .nil) (.node (o117 P) .nil .nil))) (.node (o29 P) (.node (o45 P) (.node (o77 P) (.node (o141 P) .nil .nil) .nil) (.node (o109 P) .nil .nil)) (.node (o61 P) (.node (o93 P) (.node (o157 P) .nil .nil) .nil) (.node (o125 P) .nil .nil)))))) (.node (boot_o_2 P) (.node (boot_o_4 P) (.node (boot_o_8 P) (.node (o16 P) (.node (o32 P) (.node (o64 P) (.node (o128 P) .nil .nil) .nil) (.node (o96 P) .nil .nil)) (.node (o48 P) (.node (o80 P) (.node (o144 P) .nil .nil) .nil) (.node (o112 P) .nil .nil))) (.node (o24 P) (.node (o40 P) (.node (o72 P) (.node (o136 P) .nil .nil) .nil) (.node (o104 P) .nil .nil)) (.node (o56 P) (.node (o88 P) (.node (o152 P) .nil .nil) .nil) (.node (o120 P) .nil .nil)))) (.node (o12v24 P) (.node (o20 P) (.node (o36 P) (.node (o68 P) (.node (o132 P) .nil .nil) .nil) (.node (o100 P) .nil .nil)) (.node (o52 P) (.node (o84 P) (.node (o148 P) .nil .nil) .nil) (.node (o116 P) .nil .nil))) (.node (o28 P) (.node (o44 P) (.node (o76 P) (.node (o140 P) .nil .nil) .nil) (.node (o108 P) .nil .nil)) (.node (o60 P) (.node (o92 P) (.node (o156 P) .nil .nil) .nil) (.node (o124 P) .nil .nil))))) (.node (boot_o_6 P) (.node (boot_o_10 P) (.node (o18 P) (.node (o34 P) (.node (o66 P) (.node (o130 P) .nil .nil) .nil) (.node (o98 P) .nil .nil)) (.node (o50 P) (.node (o82 P) (.node (o146 P) .nil .nil) .nil) (.node (o114 P) .nil .nil))) (.node (o26 P) (.node (o42 P) (.node (o74 P) (.node (o138 P) .nil .nil) .nil) (.node (o106 P) .nil .nil)) (.node (o58 P) (.node (o90 P) (.node (o154 P) .nil .nil) .nil) (.node (o122 P) .nil .nil)))) (.node (o14 P) (.node (o22 P) (.node (o38 P) (.node (o70 P) (.node (o134 P) .nil .nil) .nil) (.node (o102 P) .nil .nil)) (.node (o54 P) (.node (o86 P) (.node (o150 P) .nil .nil) .nil) (.node (o118 P) .nil .nil))) (.node (o30 P) (.node (o46 P) (.node (o78 P) (.node (o142 P) .nil .nil) .nil) (.node (o110 P) .nil .nil)) (.node (o62 P) (.node (o94 P) (.node (o158 P) .nil .nil) .nil) (.node (o126 P) .nil .nil)))))))
noncomputable def S24 (w : World) (os : OsState) : SharedT := ⟨T24 w.params, 159, lf w.params, Array.mk [], boot_drawn, 434, os⟩
noncomputable def pos24 : Pos := ⟨106, 0, 107, 30⟩
noncomputable def o3v25 (P : Params) : Obj := ⟨.type "dict", none, .dict [⟨PyData.keyHash P (Str.ofString "__name__"), .str (Str.ofString "__name__") 165, .str (Str.ofString "cpy313.stringprep") 365⟩,
  ⟨PyData.keyHash P (Str.ofString "__doc__"), .str (Str.ofString "__doc__") 166, .none⟩,
  ⟨PyData.keyHash P (Str.ofString "__package__"), .str (Str.ofString "__package__") 167, .none⟩,
  ⟨PyData.keyHash P (Str.ofString "__loader__"), .str (Str.ofString "__loader__") 168, .builtin "__main__.__loader__#opaque"⟩,
  ⟨PyData.keyHash P (Str.ofString "__spec__"), .str (Str.ofString "__spec__") 169, .none⟩,
  ⟨PyData.keyHash P (Str.ofString "__annotations__"), .str (Str.ofString "__annotations__") 170, .ref 6⟩,
  ⟨PyData.keyHash P (Str.ofString "__builtins__"), .str (Str.ofString "__builtins__") 171, .ref 4⟩,
  ⟨PyData.keyHash P (Str.ofString "__file__"), .str (Str.ofString "__file__") 173, .str (Str.ofString "/claim/cut.py") 172⟩,
  ⟨PyData.keyHash P (Str.ofString "__cached__"), .str (Str.ofString "__cached__") 174, .none⟩,
  ⟨PyData.keyHash P (Str.ofString "_DIV_LIMIT"), .str (Str.ofString "_DIV_LIMIT") 190, .int 4000 189⟩,
  ⟨PyData.keyHash P (Str.ofString "_div2n1n"), .str (Str.ofString "_div2n1n") 207, .ref 21⟩,
  ⟨PyData.keyHash P (Str.ofString "_div3n2n"), .str (Str.ofString "_div3n2n") 221, .ref 28⟩,
  ⟨PyData.keyHash P (Str.ofString "_int2digits"), .str (Str.ofString "_int2digits") 232, .ref 35⟩,
  ⟨PyData.keyHash P (Str.ofString "_digits2int"), .str (Str.ofString "_digits2int") 243, .ref 42⟩,
  ⟨PyData.keyHash P (Str.ofString "_divmod_pos"), .str (Str.ofString "_divmod_pos") 258, .ref 49⟩,
  ⟨PyData.keyHash P (Str.ofString "int_divmod"), .str (Str.ofString "int_divmod") 268, .ref 56⟩,
  ⟨PyData.keyHash P (Str.ofString "add"), .str (Str.ofString "add") 278, .ref 63⟩,
  ⟨PyData.keyHash P (Str.ofString "and_"), .str (Str.ofString "and_") 286, .ref 70⟩,
  ⟨PyData.keyHash P (Str.ofString "inv"), .str (Str.ofString "inv") 293, .ref 77⟩,
  ⟨PyData.keyHash P (Str.ofString "lshift"), .str (Str.ofString "lshift") 301, .ref 84⟩,
  ⟨PyData.keyHash P (Str.ofString "mul"), .str (Str.ofString "mul") 309, .ref 91⟩,
  ⟨PyData.keyHash P (Str.ofString "neg"), .str (Str.ofString "neg") 316, .ref 98⟩,
  ⟨PyData.keyHash P (Str.ofString "or_"), .str (Str.ofString "or_") 324, .ref 105⟩,
  ⟨PyData.keyHash P (Str.ofString "sub"), .str (Str.ofString "sub") 332, .ref 112⟩,
  ⟨PyData.keyHash P (Str.ofString "xor"), .str (Str.ofString "xor") 340, .ref 119⟩,
  ⟨PyData.keyHash P (Str.ofString "iadd"), .str (Str.ofString "iadd") 348, .ref 126⟩,
  ⟨PyData.keyHash P (Str.ofString "imul"), .str (Str.ofString "imul") 356, .ref 133⟩,
  ⟨PyData.keyHash P (Str.ofString "ixor"), .str (Str.ofString "ixor") 364, .ref 140⟩,
  ⟨PyData.keyHash P (Str.ofString "b1_set"), .str (Str.ofString "b1_set") 426, .ref 148⟩,
  ⟨PyData.keyHash P (Str.ofString "in_table_b1"), .str (Str.ofString "in_table_b1") 433, .ref 158⟩,
  ⟨PyData.keyHash P (Str.ofString "b3_exceptions"), .str (Str.ofString "b3_exceptions") 2384, .ref 159⟩].toArray 31, [].toArray⟩
noncomputable def o12v25 (P : Params) : Obj := ⟨.none, none, .fields [.int 3 0, .int 0 0, .ref 20, .int 19 0, .int 0 0, .ref 27, .int 29 0, .int 0 0, .ref 34, .int 45 0, .int 0 0, .ref 41, .int 54 0, .int 0 0, .ref 48, .int 65 0, .int 0 0, .ref 55, .int 77 0, .int 0 0, .ref 62, .int 79 0, .int 0 0, .ref 69, .int 81 0, .int 0 0, .ref 76, .int 83 0, .int 0 0, .ref 83, .int 85 0, .int 0 0, .ref 90, .int 87 0, .int 0 0, .ref 97, .int 89 0, .int 0 0, .ref 104, .int 91 0, .int 0 0, .ref 111, .int 93 0, .int 0 0, .ref 118, .int 95 0, .int 0 0, .ref 125, .int 98 0, .int 0 0, .ref 132, .int 101 0, .int 0 0, .ref 139, .int 106 0, .int 0 0, .ref 157].toArray, [].toArray⟩
noncomputable def T25 (P : Params) : BT := (.node (boot_o_0 P) (.node (boot_o_1 P) (.node (o3v25 P) (.node (boot_o_7 P) (.node (o15 P) (.node (o31 P) (.node (o63 P) (.node (o127 P) .nil .nil) (.node (oB 32 P) .nil .nil)) (.node (o95 P) (.node (oB 0 P) .nil .nil) .nil)) (.node (o47 P) (.node (o79 P) (.node (o143 P) .nil .nil) .nil) (.node (o111 P) (.node (oB 16 P) .nil .nil) .nil))) (.node (o23 P) (.node (o39 P) (.node (o71 P) (.node (o135 P) .nil .nil) .nil) (.node (o103 P) (.node (oB 8 P) .nil .nil) .nil)) (.node (o55 P) (.node (o87 P) (.node (o151 P) .nil .nil) .nil) (.node (o119 P) (.node (oB 24 P) .nil .nil) .nil)))) (.node (o11 P) (.node (o19 P) (.node (o35 P) (.node (o67 P) (.node (o131 P) .nil .nil) (.node (oB 36 P) .nil .nil)) (.node (o99 P) (.node (oB 4 P) .nil .nil) .nil)) (.node (o51 P) (.node (o83 P) (.node (o147 P) .nil .nil) .nil) (.node (o115 P) (.node (oB 20 P) .nil .nil) .nil))) (.node (o27 P) (.node (o43 P) (.node (o75 P) (.node (o139 P) .nil .nil) .nil) (.node (o107 P) (.node (oB 12 P) .nil .nil) .nil)) (.node (o59 P) (.node (o91 P) (.node (o155 P) .nil .nil) .nil) (.node (o123 P) (.node (oB 28 P) .nil .nil) .nil))))) (.node (boot_o_5 P) (.node (boot_o_9 P) (.node (o17 P) (.node (o33 P) (.node (o65 P) (.node (o129 P) .nil .nil) (.node (oB 34 P) .nil .nil)) (.node (o97 P) (.node (oB 2 P) .nil .nil) .nil)) (.node (o49 P) (.node (o81 P) (.node (o145 P) .nil .nil) .nil) (.node (o113 P) (.node (oB 18 P) .nil .nil) .nil))) (.node (o25 P) (.node (o41 P) (.node (o73 P) (.node (o137 P) .nil .nil) .nil) (.node (o105 P) (.node (oB 10 P) .nil .nil) .nil)) (.node (o57 P) (.node (o89 P) (.node (o153 P) .nil .nil) .nil) (.node (o121 P) (.node (oB 26 P) .nil .nil) .nil)))) (.node (o13 P) (.node (o21 P) (.node (o37 P) (.node (o69 P) (.node (o133 P) .nil .nil) (.node (oB 38 P) .nil .nil)) (.node (o101 P) (.node (oB 6 P) .nil .nil) .nil)) (.node (o53 P) (.node (o85 P) (.node (o149 P) .nil .nil) .nil) (.node (o117 P) (.node (oB 22 P) .nil .nil) .nil))) (.node (o29 P) (.node (o45 P) (.node (o77 P) (.node (o141 P) .nil .nil) .nil) (.node (o109 P) (.node (oB 14 P) .nil .nil) .nil)) (.node (o61 P) (.node (o93 P) (.node (o157 P) .nil .nil) .nil) (.node (o125 P) (.node (oB 30 P) .nil .nil) .nil)))))) (.node (boot_o_2 P) (.node (boot_o_4 P) (.node (boot_o_8 P) (.node (o16 P) (.node (o32 P) (.node (o64 P) (.node (o128 P) .nil .nil) (.node (oB 33 P) .nil .nil)) (.node (o96 P) (.node (oB 1 P) .nil .nil) .nil)) (.node (o48 P) (.node (o80 P) (.node (o144 P) .nil .nil) .nil) (.node (o112 P) (.node (oB 17 P) .nil .nil) .nil))) (.node (o24 P) (.node (o40 P) (.node (o72 P) (.node (o136 P) .nil .nil) .nil) (.node (o104 P) (.node (oB 9 P) .nil .nil) .nil)) (.node (o56 P) (.node (o88 P) (.node (o152 P) .nil .nil) .nil) (.node (o120 P) (.node (oB 25 P) .nil .nil) .nil)))) (.node (o12v25 P) (.node (o20 P) (.node (o36 P) (.node (o68 P) (.node (o132 P) .nil .nil) (.node (oB 37 P) .nil .nil)) (.node (o100 P) (.node (oB 5 P) .nil .nil) .nil)) (.node (o52 P) (.node (o84 P) (.node (o148 P) .nil .nil) .nil) (.node (o116 P) (.node (oB 21 P) .nil .nil) .nil))) (.node (o28 P) (.node (o44 P) (.node (o76 P) (.node (o140 P) .nil .nil) .nil) (.node (o108 P) (.node (oB 13 P) .nil .nil) .nil)) (.node (o60 P) (.node (o92 P) (.node (o156 P) .nil .nil) .nil) (.node (o124 P) (.node (oB 29 P) .nil .nil) .nil))))) (.node (boot_o_6 P) (.node (boot_o_10 P) (.node (o18 P) (.node (o34 P) (.node (o66 P) (.node (o130 P) .nil .nil) (.node (oB 35 P) .nil .nil)) (.node (o98 P) (.node (oB 3 P) .nil .nil) .nil)) (.node (o50 P) (.node (o82 P) (.node (o146 P) .nil .nil) .nil) (.node (o114 P) (.node (oB 19 P) .nil .nil) .nil))) (.node (o26 P) (.node (o42 P) (.node (o74 P) (.node (o138 P) .nil .nil) .nil) (.node (o106 P) (.node (oB 11 P) .nil .nil) .nil)) (.node (o58 P) (.node (o90 P) (.node (o154 P) .nil .nil) .nil) (.node (o122 P) (.node (oB 27 P) .nil .nil) .nil)))) (.node (o14 P) (.node (o22 P) (.node (o38 P) (.node (o70 P) (.node (o134 P) .nil .nil) .nil) (.node (o102 P) (.node (oB 7 P) .nil .nil) .nil)) (.node (o54 P) (.node (o86 P) (.node (o150 P) .nil .nil) .nil) (.node (o118 P) (.node (oB 23 P) .nil .nil) .nil))) (.node (o30 P) (.node (o46 P) (.node (o78 P) (.node (o142 P) .nil .nil) .nil) (.node (o110 P) (.node (oB 15 P) .nil .nil) .nil)) (.node (o62 P) (.node (o94 P) (.node (o158 P) .nil .nil) .nil) (.node (o126 P) (.node (oB 31 P) .nil .nil) .nil)))))))
noncomputable def S25 (w : World) (os : OsState) : SharedT := ⟨T25 w.params, 198, lf w.params, Array.mk [], boot_drawn, 2385, os⟩
noncomputable def pos25 : Pos := ⟨108, 0, 108, 13⟩
noncomputable def o3v26 (P : Params) : Obj := ⟨.type "dict", none, .dict [⟨PyData.keyHash P (Str.ofString "__name__"), .str (Str.ofString "__name__") 165, .str (Str.ofString "cpy313.stringprep") 365⟩,
  ⟨PyData.keyHash P (Str.ofString "__doc__"), .str (Str.ofString "__doc__") 166, .none⟩,
  ⟨PyData.keyHash P (Str.ofString "__package__"), .str (Str.ofString "__package__") 167, .none⟩,
  ⟨PyData.keyHash P (Str.ofString "__loader__"), .str (Str.ofString "__loader__") 168, .builtin "__main__.__loader__#opaque"⟩,
  ⟨PyData.keyHash P (Str.ofString "__spec__"), .str (Str.ofString "__spec__") 169, .none⟩,
  ⟨PyData.keyHash P (Str.ofString "__annotations__"), .str (Str.ofString "__annotations__") 170, .ref 6⟩,
  ⟨PyData.keyHash P (Str.ofString "__builtins__"), .str (Str.ofString "__builtins__") 171, .ref 4⟩,
  ⟨PyData.keyHash P (Str.ofString "__file__"), .str (Str.ofString "__file__") 173, .str (Str.ofString "/claim/cut.py") 172⟩,
  ⟨PyData.keyHash P (Str.ofString "__cached__"), .str (Str.ofString "__cached__") 174, .none⟩,
  ⟨PyData.keyHash P (Str.ofString "_DIV_LIMIT"), .str (Str.ofString "_DIV_LIMIT") 190, .int 4000 189⟩,
  ⟨PyData.keyHash P (Str.ofString "_div2n1n"), .str (Str.ofString "_div2n1n") 207, .ref 21⟩,
  ⟨PyData.keyHash P (Str.ofString "_div3n2n"), .str (Str.ofString "_div3n2n") 221, .ref 28⟩,
  ⟨PyData.keyHash P (Str.ofString "_int2digits"), .str (Str.ofString "_int2digits") 232, .ref 35⟩,
  ⟨PyData.keyHash P (Str.ofString "_digits2int"), .str (Str.ofString "_digits2int") 243, .ref 42⟩,
  ⟨PyData.keyHash P (Str.ofString "_divmod_pos"), .str (Str.ofString "_divmod_pos") 258, .ref 49⟩,
  ⟨PyData.keyHash P (Str.ofString "int_divmod"), .str (Str.ofString "int_divmod") 268, .ref 56⟩,
  ⟨PyData.keyHash P (Str.ofString "add"), .str (Str.ofString "add") 278, .ref 63⟩,
  ⟨PyData.keyHash P (Str.ofString "and_"), .str (Str.ofString "and_") 286, .ref 70⟩,
  ⟨PyData.keyHash P (Str.ofString "inv"), .str (Str.ofString "inv") 293, .ref 77⟩,
  ⟨PyData.keyHash P (Str.ofString "lshift"), .str (Str.ofString "lshift") 301, .ref 84⟩,
  ⟨PyData.keyHash P (Str.ofString "mul"), .str (Str.ofString "mul") 309, .ref 91⟩,
  ⟨PyData.keyHash P (Str.ofString "neg"), .str (Str.ofString "neg") 316, .ref 98⟩,
  ⟨PyData.keyHash P (Str.ofString "or_"), .str (Str.ofString "or_") 324, .ref 105⟩,
  ⟨PyData.keyHash P (Str.ofString "sub"), .str (Str.ofString "sub") 332, .ref 112⟩,
  ⟨PyData.keyHash P (Str.ofString "xor"), .str (Str.ofString "xor") 340, .ref 119⟩,
  ⟨PyData.keyHash P (Str.ofString "iadd"), .str (Str.ofString "iadd") 348, .ref 126⟩,
  ⟨PyData.keyHash P (Str.ofString "imul"), .str (Str.ofString "imul") 356, .ref 133⟩,
  ⟨PyData.keyHash P (Str.ofString "ixor"), .str (Str.ofString "ixor") 364, .ref 140⟩,
  ⟨PyData.keyHash P (Str.ofString "b1_set"), .str (Str.ofString "b1_set") 426, .ref 148⟩,
  ⟨PyData.keyHash P (Str.ofString "in_table_b1"), .str (Str.ofString "in_table_b1") 433, .ref 158⟩,
  ⟨PyData.keyHash P (Str.ofString "b3_exceptions"), .str (Str.ofString "b3_exceptions") 2384, .ref 159⟩,
  ⟨PyData.keyHash P (Str.ofString "map_table_b3"), .str (Str.ofString "map_table_b3") 2392, .ref 204⟩].toArray 32, [].toArray⟩
noncomputable def o12v26 (P : Params) : Obj := ⟨.none, none, .fields [.int 3 0, .int 0 0, .ref 20, .int 19 0, .int 0 0, .ref 27, .int 29 0, .int 0 0, .ref 34, .int 45 0, .int 0 0, .ref 41, .int 54 0, .int 0 0, .ref 48, .int 65 0, .int 0 0, .ref 55, .int 77 0, .int 0 0, .ref 62, .int 79 0, .int 0 0, .ref 69, .int 81 0, .int 0 0, .ref 76, .int 83 0, .int 0 0, .ref 83, .int 85 0, .int 0 0, .ref 90, .int 87 0, .int 0 0, .ref 97, .int 89 0, .int 0 0, .ref 104, .int 91 0, .int 0 0, .ref 111, .int 93 0, .int 0 0, .ref 118, .int 95 0, .int 0 0, .ref 125, .int 98 0, .int 0 0, .ref 132, .int 101 0, .int 0 0, .ref 139, .int 106 0, .int 0 0, .ref 157, .int 109 0, .int 0 0, .ref 203].toArray, [].toArray⟩
noncomputable def T26 (P : Params) : BT := (.node (boot_o_0 P) (.node (boot_o_1 P) (.node (o3v26 P) (.node (boot_o_7 P) (.node (o15 P) (.node (o31 P) (.node (o63 P) (.node (o127 P) .nil .nil) (.node (oB 32 P) .nil .nil)) (.node (o95 P) (.node (oB 0 P) .nil .nil) .nil)) (.node (o47 P) (.node (o79 P) (.node (o143 P) .nil .nil) .nil) (.node (o111 P) (.node (oB 16 P) .nil .nil) .nil))) (.node (o23 P) (.node (o39 P) (.node (o71 P) (.node (o135 P) .nil .nil) (.node (o199 P) .nil .nil)) (.node (o103 P) (.node (oB 8 P) .nil .nil) .nil)) (.node (o55 P) (.node (o87 P) (.node (o151 P) .nil .nil) .nil) (.node (o119 P) (.node (oB 24 P) .nil .nil) .nil)))) (.node (o11 P) (.node (o19 P) (.node (o35 P) (.node (o67 P) (.node (o131 P) .nil .nil) (.node (oB 36 P) .nil .nil)) (.node (o99 P) (.node (oB 4 P) .nil .nil) .nil)) (.node (o51 P) (.node (o83 P) (.node (o147 P) .nil .nil) .nil) (.node (o115 P) (.node (oB 20 P) .nil .nil) .nil))) (.node (o27 P) (.node (o43 P) (.node (o75 P) (.node (o139 P) .nil .nil) (.node (o203 P) .nil .nil)) (.node (o107 P) (.node (oB 12 P) .nil .nil) .nil)) (.node (o59 P) (.node (o91 P) (.node (o155 P) .nil .nil) .nil) (.node (o123 P) (.node (oB 28 P) .nil .nil) .nil))))) (.node (boot_o_5 P) (.node (boot_o_9 P) (.node (o17 P) (.node (o33 P) (.node (o65 P) (.node (o129 P) .nil .nil) (.node (oB 34 P) .nil .nil)) (.node (o97 P) (.node (oB 2 P) .nil .nil) .nil)) (.node (o49 P) (.node (o81 P) (.node (o145 P) .nil .nil) .nil) (.node (o113 P) (.node (oB 18 P) .nil .nil) .nil))) (.node (o25 P) (.node (o41 P) (.node (o73 P) (.node (o137 P) .nil .nil) (.node (o201 P) .nil .nil)) (.node (o105 P) (.node (oB 10 P) .nil .nil) .nil)) (.node (o57 P) (.node (o89 P) (.node (o153 P) .nil .nil) .nil) (.node (o121 P) (.node (oB 26 P) .nil .nil) .nil)))) (.node (o13 P) (.node (o21 P) (.node (o37 P) (.node (o69 P) (.node (o133 P) .nil .nil) (.node (oB 38 P) .nil .nil)) (.node (o101 P) (.node (oB 6 P) .nil .nil) .nil)) (.node (o53 P) (.node (o85 P) (.node (o149 P) .nil .nil) .nil) (.node (o117 P) (.node (oB 22 P) .nil .nil) .nil))) (.node (o29 P) (.node (o45 P) (.node (o77 P) (.node (o141 P) .nil .nil) .nil) (.node (o109 P) (.node (oB 14 P) .nil .nil) .nil)) (.node (o61 P) (.node (o93 P) (.node (o157 P) .nil .nil) .nil) (.node (o125 P) (.node (oB 30 P) .nil .nil) .nil)))))) (.node (boot_o_2 P) (.node (boot_o_4 P) (.node (boot_o_8 P) (.node (o16 P) (.node (o32 P) (.node (o64 P) (.node (o128 P) .nil .nil) (.node (oB 33 P) .nil .nil)) (.node (o96 P) (.node (oB 1 P) .nil .nil) .nil)) (.node (o48 P) (.node (o80 P) (.node (o144 P) .nil .nil) .nil) (.node (o112 P) (.node (oB 17 P) .nil .nil) .nil))) (.node (o24 P) (.node (o40 P) (.node (o72 P) (.node (o136 P) .nil .nil) (.node (o200 P) .nil .nil)) (.node (o104 P) (.node (oB 9 P) .nil .nil) .nil)) (.node (o56 P) (.node (o88 P) (.node (o152 P) .nil .nil) .nil) (.node (o120 P) (.node (oB 25 P) .nil .nil) .nil)))) (.node (o12v26 P) (.node (o20 P) (.node (o36 P) (.node (o68 P) (.node (o132 P) .nil .nil) (.node (oB 37 P) .nil .nil)) (.node (o100 P) (.node (oB 5 P) .nil .nil) .nil)) (.node (o52 P) (.node (o84 P) (.node (o148 P) .nil .nil) .nil) (.node (o116 P) (.node (oB 21 P) .nil .nil) .nil))) (.node (o28 P) (.node (o44 P) (.node (o76 P) (.node (o140 P) .nil .nil) (.node (o204 P) .nil .nil)) (.node (o108 P) (.node (oB 13 P) .nil .nil) .nil)) (.node (o60 P) (.node (o92 P) (.node (o156 P) .nil .nil) .nil) (.node (o124 P) (.node (oB 29 P) .nil .nil) .nil))))) (.node (boot_o_6 P) (.node (boot_o_10 P) (.node (o18 P) (.node (o34 P) (.node (o66 P) (.node (o130 P) .nil .nil) (.node (oB 35 P) .nil .nil)) (.node (o98 P) (.node (oB 3 P) .nil .nil) .nil)) (.node (o50 P) (.node (o82 P) (.node (o146 P) .nil .nil) .nil) (.node (o114 P) (.node (oB 19 P) .nil .nil) .nil))) (.node (o26 P) (.node (o42 P) (.node (o74 P) (.node (o138 P) .nil .nil) (.node (o202 P) .nil .nil)) (.node (o106 P) (.node (oB 11 P) .nil .nil) .nil)) (.node (o58 P) (.node (o90 P) (.node (o154 P) .nil .nil) .nil) (.node (o122 P) (.node (oB 27 P) .nil .nil) .nil)))) (.node (o14 P) (.node (o22 P) (.node (o38 P) (.node (o70 P) (.node (o134 P) .nil .nil) (.node (o198 P) .nil .nil)) (.node (o102 P) (.node (oB 7 P) .nil .nil) .nil)) (.node (o54 P) (.node (o86 P) (.node (o150 P) .nil .nil) .nil) (.node (o118 P) (.node (oB 23 P) .nil .nil) .nil))) (.node (o30 P) (.node (o46 P) (.node (o78 P) (.node (o142 P) .nil .nil) .nil) (.node (o110 P) (.node (oB 15 P) .nil .nil) .nil)) (.node (o62 P) (.node (o94 P) (.node (o158 P) .nil .nil) .nil) (.node (o126 P) (.node (oB 31 P) .nil .nil) .nil)))))))
noncomputable def S26 (w : World) (os : OsState) : SharedT := ⟨T26 w.params, 205, lf w.params, Array.mk [], boot_drawn, 2393, os⟩
noncomputable def pos26 : Pos := ⟨109, 0, 113, 23⟩
noncomputable def o3v27 (P : Params) : Obj := ⟨.type "dict", none, .dict [⟨PyData.keyHash P (Str.ofString "__name__"), .str (Str.ofString "__name__") 165, .str (Str.ofString "cpy313.stringprep") 365⟩,
  ⟨PyData.keyHash P (Str.ofString "__doc__"), .str (Str.ofString "__doc__") 166, .none⟩,
  ⟨PyData.keyHash P (Str.ofString "__package__"), .str (Str.ofString "__package__") 167, .none⟩,
  ⟨PyData.keyHash P (Str.ofString "__loader__"), .str (Str.ofString "__loader__") 168, .builtin "__main__.__loader__#opaque"⟩,
  ⟨PyData.keyHash P (Str.ofString "__spec__"), .str (Str.ofString "__spec__") 169, .none⟩,
  ⟨PyData.keyHash P (Str.ofString "__annotations__"), .str (Str.ofString "__annotations__") 170, .ref 6⟩,
  ⟨PyData.keyHash P (Str.ofString "__builtins__"), .str (Str.ofString "__builtins__") 171, .ref 4⟩,
  ⟨PyData.keyHash P (Str.ofString "__file__"), .str (Str.ofString "__file__") 173, .str (Str.ofString "/claim/cut.py") 172⟩,
  ⟨PyData.keyHash P (Str.ofString "__cached__"), .str (Str.ofString "__cached__") 174, .none⟩,
  ⟨PyData.keyHash P (Str.ofString "_DIV_LIMIT"), .str (Str.ofString "_DIV_LIMIT") 190, .int 4000 189⟩,
  ⟨PyData.keyHash P (Str.ofString "_div2n1n"), .str (Str.ofString "_div2n1n") 207, .ref 21⟩,
  ⟨PyData.keyHash P (Str.ofString "_div3n2n"), .str (Str.ofString "_div3n2n") 221, .ref 28⟩,
  ⟨PyData.keyHash P (Str.ofString "_int2digits"), .str (Str.ofString "_int2digits") 232, .ref 35⟩,
  ⟨PyData.keyHash P (Str.ofString "_digits2int"), .str (Str.ofString "_digits2int") 243, .ref 42⟩,
  ⟨PyData.keyHash P (Str.ofString "_divmod_pos"), .str (Str.ofString "_divmod_pos") 258, .ref 49⟩,
  ⟨PyData.keyHash P (Str.ofString "int_divmod"), .str (Str.ofString "int_divmod") 268, .ref 56⟩,
  ⟨PyData.keyHash P (Str.ofString "add"), .str (Str.ofString "add") 278, .ref 63⟩,
  ⟨PyData.keyHash P (Str.ofString "and_"), .str (Str.ofString "and_") 286, .ref 70⟩,
  ⟨PyData.keyHash P (Str.ofString "inv"), .str (Str.ofString "inv") 293, .ref 77⟩,
  ⟨PyData.keyHash P (Str.ofString "lshift"), .str (Str.ofString "lshift") 301, .ref 84⟩,
  ⟨PyData.keyHash P (Str.ofString "mul"), .str (Str.ofString "mul") 309, .ref 91⟩,
  ⟨PyData.keyHash P (Str.ofString "neg"), .str (Str.ofString "neg") 316, .ref 98⟩,
  ⟨PyData.keyHash P (Str.ofString "or_"), .str (Str.ofString "or_") 324, .ref 105⟩,
  ⟨PyData.keyHash P (Str.ofString "sub"), .str (Str.ofString "sub") 332, .ref 112⟩,
  ⟨PyData.keyHash P (Str.ofString "xor"), .str (Str.ofString "xor") 340, .ref 119⟩,
  ⟨PyData.keyHash P (Str.ofString "iadd"), .str (Str.ofString "iadd") 348, .ref 126⟩,
  ⟨PyData.keyHash P (Str.ofString "imul"), .str (Str.ofString "imul") 356, .ref 133⟩,
  ⟨PyData.keyHash P (Str.ofString "ixor"), .str (Str.ofString "ixor") 364, .ref 140⟩,
  ⟨PyData.keyHash P (Str.ofString "b1_set"), .str (Str.ofString "b1_set") 426, .ref 148⟩,
  ⟨PyData.keyHash P (Str.ofString "in_table_b1"), .str (Str.ofString "in_table_b1") 433, .ref 158⟩,
  ⟨PyData.keyHash P (Str.ofString "b3_exceptions"), .str (Str.ofString "b3_exceptions") 2384, .ref 159⟩,
  ⟨PyData.keyHash P (Str.ofString "map_table_b3"), .str (Str.ofString "map_table_b3") 2392, .ref 204⟩,
  ⟨PyData.keyHash P (Str.ofString "c7_set"), .str (Str.ofString "c7_set") 2420, .ref 206⟩].toArray 33, [].toArray⟩
noncomputable def o12v27 (P : Params) : Obj := ⟨.none, none, .fields [.int 3 0, .int 0 0, .ref 20, .int 19 0, .int 0 0, .ref 27, .int 29 0, .int 0 0, .ref 34, .int 45 0, .int 0 0, .ref 41, .int 54 0, .int 0 0, .ref 48, .int 65 0, .int 0 0, .ref 55, .int 77 0, .int 0 0, .ref 62, .int 79 0, .int 0 0, .ref 69, .int 81 0, .int 0 0, .ref 76, .int 83 0, .int 0 0, .ref 83, .int 85 0, .int 0 0, .ref 90, .int 87 0, .int 0 0, .ref 97, .int 89 0, .int 0 0, .ref 104, .int 91 0, .int 0 0, .ref 111, .int 93 0, .int 0 0, .ref 118, .int 95 0, .int 0 0, .ref 125, .int 98 0, .int 0 0, .ref 132, .int 101 0, .int 0 0, .ref 139, .int 106 0, .int 0 0, .ref 157, .int 109 0, .int 0 0, .ref 203].toArray, [].toArray⟩
noncomputable def T27 (P : Params) : BT := (.node (boot_o_0 P) (.node (boot_o_1 P) (.node (o3v27 P) (.node (boot_o_7 P) (.node (o15 P) (.node (o31 P) (.node (o63 P) (.node (o127 P) .nil .nil) (.node (oB 32 P) .nil .nil)) (.node (o95 P) (.node (oB 0 P) .nil .nil) .nil)) (.node (o47 P) (.node (o79 P) (.node (o143 P) .nil .nil) (.node (o207 P) .nil .nil)) (.node (o111 P) (.node (oB 16 P) .nil .nil) .nil))) (.node (o23 P) (.node (o39 P) (.node (o71 P) (.node (o135 P) .nil .nil) (.node (o199 P) .nil .nil)) (.node (o103 P) (.node (oB 8 P) .nil .nil) .nil)) (.node (o55 P) (.node (o87 P) (.node (o151 P) .nil .nil) .nil) (.node (o119 P) (.node (oB 24 P) .nil .nil) .nil)))) (.node (o11 P) (.node (o19 P) (.node (o35 P) (.node (o67 P) (.node (o131 P) .nil .nil) (.node (oB 36 P) .nil .nil)) (.node (o99 P) (.node (oB 4 P) .nil .nil) .nil)) (.node (o51 P) (.node (o83 P) (.node (o147 P) .nil .nil) .nil) (.node (o115 P) (.node (oB 20 P) .nil .nil) .nil))) (.node (o27 P) (.node (o43 P) (.node (o75 P) (.node (o139 P) .nil .nil) (.node (o203 P) .nil .nil)) (.node (o107 P) (.node (oB 12 P) .nil .nil) .nil)) (.node (o59 P) (.node (o91 P) (.node (o155 P) .nil .nil) .nil) (.node (o123 P) (.node (oB 28 P) .nil .nil) .nil))))) (.node (boot_o_5 P) (.node (boot_o_9 P) (.node (o17 P) (.node (o33 P) (.node (o65 P) (.node (o129 P) .nil .nil) (.node (oB 34 P) .nil .nil)) (.node (o97 P) (.node (oB 2 P) .nil .nil) .nil)) (.node (o49 P) (.node (o81 P) (.node (o145 P) .nil .nil) (.node (o209 P) .nil .nil)) (.node (o113 P) (.node (oB 18 P) .nil .nil) .nil))) (.node (o25 P) (.node (o41 P) (.node (o73 P) (.node (o137 P) .nil .nil) (.node (o201 P) .nil .nil)) (.node (o105 P) (.node (oB 10 P) .nil .nil) .nil)) (.node (o57 P) (.node (o89 P) (.node (o153 P) .nil .nil) .nil) (.node (o121 P) (.node (oB 26 P) .nil .nil) .nil)))) (.node (o13 P) (.node (o21 P) (.node (o37 P) (.node (o69 P) (.node (o133 P) .nil .nil) (.node (oB 38 P) .nil .nil)) (.node (o101 P) (.node (oB 6 P) .nil .nil) .nil)) (.node (o53 P) (.node (o85 P) (.node (o149 P) .nil .nil) .nil) (.node (o117 P) (.node (oB 22 P) .nil .nil) .nil))) (.node (o29 P) (.node (o45 P) (.node (o77 P) (.node (o141 P) .nil .nil) (.node (o205 P) .nil .nil)) (.node (o109 P) (.node (oB 14 P) .nil .nil) .nil)) (.node (o61 P) (.node (o93 P) (.node (o157 P) .nil .nil) .nil) (.node (o125 P) (.node (oB 30 P) .nil .nil) .nil)))))) (.node (boot_o_2 P) (.node (boot_o_4 P) (.node (boot_o_8 P) (.node (o16 P) (.node (o32 P) (.node (o64 P) (.node (o128 P) .nil .nil) (.node (oB 33 P) .nil .nil)) (.node (o96 P) (.node (oB 1 P) .nil .nil) .nil)) (.node (o48 P) (.node (o80 P) (.node (o144 P) .nil .nil) (.node (o208 P) .nil .nil)) (.node (o112 P) (.node (oB 17 P) .nil .nil) .nil))) (.node (o24 P) (.node (o40 P) (.node (o72 P) (.node (o136 P) .nil .nil) (.node (o200 P) .nil .nil)) (.node (o104 P) (.node (oB 9 P) .nil .nil) .nil)) (.node (o56 P) (.node (o88 P) (.node (o152 P) .nil .nil) .nil) (.node (o120 P) (.node (oB 25 P) .nil .nil) .nil)))) (.node (o12v27 P) (.node (o20 P) (.node (o36 P) (.node (o68 P) (.node (o132 P) .nil .nil) (.node (oB 37 P) .nil .nil)) (.node (o100 P) (.node (oB 5 P) .nil .nil) .nil)) (.node (o52 P) (.node (o84 P) (.node (o148 P) .nil .nil) .nil) (.node (o116 P) (.node (oB 21 P) .nil .nil) .nil))) (.node (o28 P) (.node (o44 P) (.node (o76 P) (.node (o140 P) .nil .nil) (.node (o204 P) .nil .nil)) (.node (o108 P) (.node (oB 13 P) .nil .nil) .nil)) (.node (o60 P) (.node (o92 P) (.node (o156 P) .nil .nil) .nil) (.node (o124 P) (.node (oB 29 P) .nil .nil) .nil))))) (.node (boot_o_6 P) (.node (boot_o_10 P) (.node (o18 P) (.node (o34 P) (.node (o66 P) (.node (o130 P) .nil .nil) (.node (oB 35 P) .nil .nil)) (.node (o98 P) (.node (oB 3 P) .nil .nil) .nil)) (.node (o50 P) (.node (o82 P) (.node (o146 P) .nil .nil) .nil) (.node (o114 P) (.node (oB 19 P) .nil .nil) .nil))) (.node (o26 P) (.node (o42 P) (.node (o74 P) (.node (o138 P) .nil .nil) (.node (o202 P) .nil .nil)) (.node (o106 P) (.node (oB 11 P) .nil .nil) .nil)) (.node (o58 P) (.node (o90 P) (.node (o154 P) .nil .nil) .nil) (.node (o122 P) (.node (oB 27 P) .nil .nil) .nil)))) (.node (o14 P) (.node (o22 P) (.node (o38 P) (.node (o70 P) (.node (o134 P) .nil .nil) (.node (o198 P) .nil .nil)) (.node (o102 P) (.node (oB 7 P) .nil .nil) .nil)) (.node (o54 P) (.node (o86 P) (.node (o150 P) .nil .nil) .nil) (.node (o118 P) (.node (oB 23 P) .nil .nil) .nil))) (.node (o30 P) (.node (o46 P) (.node (o78 P) (.node (o142 P) .nil .nil) (.node (o206 P) .nil .nil)) (.node (o110 P) (.node (oB 15 P) .nil .nil) .nil)) (.node (o62 P) (.node (o94 P) (.node (o158 P) .nil .nil) .nil) (.node (o126 P) (.node (oB 31 P) .nil .nil) .nil)))))))
noncomputable def S27 (w : World) (os : OsState) : SharedT := ⟨T27 w.params, 210, lf w.params, Array.mk [], boot_drawn, 2421, os⟩
noncomputable def pos27 : Pos := ⟨114, 0, 114, 6⟩
noncomputable def o3v36 (P : Params) : Obj := ⟨.type "dict", none, .dict [⟨PyData.keyHash P (Str.ofString "__name__"), .str (Str.ofString "__name__") 165, .str (Str.ofString "law_wb0084_01") 2428⟩,
  ⟨PyData.keyHash P (Str.ofString "__doc__"), .str (Str.ofString "__doc__") 166, .none⟩,
  ⟨PyData.keyHash P (Str.ofString "__package__"), .str (Str.ofString "__package__") 167, .none⟩,
  ⟨PyData.keyHash P (Str.ofString "__loader__"), .str (Str.ofString "__loader__") 168, .builtin "__main__.__loader__#opaque"⟩,
  ⟨PyData.keyHash P (Str.ofString "__spec__"), .str (Str.ofString "__spec__") 169, .none⟩,
  ⟨PyData.keyHash P (Str.ofString "__annotations__"), .str (Str.ofString "__annotations__") 170, .ref 6⟩,
  ⟨PyData.keyHash P (Str.ofString "__builtins__"), .str (Str.ofString "__builtins__") 171, .ref 4⟩,
  ⟨PyData.keyHash P (Str.ofString "__file__"), .str (Str.ofString "__file__") 173, .str (Str.ofString "/claim/cut.py") 172⟩,
  ⟨PyData.keyHash P (Str.ofString "__cached__"), .str (Str.ofString "__cached__") 174, .none⟩,
  ⟨PyData.keyHash P (Str.ofString "_DIV_LIMIT"), .str (Str.ofString "_DIV_LIMIT") 190, .int 4000 189⟩,
  ⟨PyData.keyHash P (Str.ofString "_div2n1n"), .str (Str.ofString "_div2n1n") 207, .ref 21⟩,
  ⟨PyData.keyHash P (Str.ofString "_div3n2n"), .str (Str.ofString "_div3n2n") 221, .ref 28⟩,
  ⟨PyData.keyHash P (Str.ofString "_int2digits"), .str (Str.ofString "_int2digits") 232, .ref 35⟩,
  ⟨PyData.keyHash P (Str.ofString "_digits2int"), .str (Str.ofString "_digits2int") 243, .ref 42⟩,
  ⟨PyData.keyHash P (Str.ofString "_divmod_pos"), .str (Str.ofString "_divmod_pos") 258, .ref 49⟩,
  ⟨PyData.keyHash P (Str.ofString "int_divmod"), .str (Str.ofString "int_divmod") 268, .ref 56⟩,
  ⟨PyData.keyHash P (Str.ofString "add"), .str (Str.ofString "add") 278, .ref 63⟩,
  ⟨PyData.keyHash P (Str.ofString "and_"), .str (Str.ofString "and_") 286, .ref 70⟩,
  ⟨PyData.keyHash P (Str.ofString "inv"), .str (Str.ofString "inv") 293, .ref 77⟩,
  ⟨PyData.keyHash P (Str.ofString "lshift"), .str (Str.ofString "lshift") 301, .ref 84⟩,
  ⟨PyData.keyHash P (Str.ofString "mul"), .str (Str.ofString "mul") 309, .ref 91⟩,
  ⟨PyData.keyHash P (Str.ofString "neg"), .str (Str.ofString "neg") 316, .ref 98⟩,
  ⟨PyData.keyHash P (Str.ofString "or_"), .str (Str.ofString "or_") 324, .ref 105⟩,
  ⟨PyData.keyHash P (Str.ofString "sub"), .str (Str.ofString "sub") 332, .ref 112⟩,
  ⟨PyData.keyHash P (Str.ofString "xor"), .str (Str.ofString "xor") 340, .ref 119⟩,
  ⟨PyData.keyHash P (Str.ofString "iadd"), .str (Str.ofString "iadd") 348, .ref 126⟩,
  ⟨PyData.keyHash P (Str.ofString "imul"), .str (Str.ofString "imul") 356, .ref 133⟩,
  ⟨PyData.keyHash P (Str.ofString "ixor"), .str (Str.ofString "ixor") 364, .ref 140⟩,
  ⟨PyData.keyHash P (Str.ofString "b1_set"), .str (Str.ofString "b1_set") 426, .ref 148⟩,
  ⟨PyData.keyHash P (Str.ofString "in_table_b1"), .str (Str.ofString "in_table_b1") 433, .ref 158⟩,
  ⟨PyData.keyHash P (Str.ofString "b3_exceptions"), .str (Str.ofString "b3_exceptions") 2384, .ref 159⟩,
  ⟨PyData.keyHash P (Str.ofString "map_table_b3"), .str (Str.ofString "map_table_b3") 2392, .ref 204⟩,
  ⟨PyData.keyHash P (Str.ofString "c7_set"), .str (Str.ofString "c7_set") 2420, .ref 206⟩,
  ⟨PyData.keyHash P (Str.ofString "in_table_c7"), .str (Str.ofString "in_table_c7") 2427, .ref 216⟩,
  ⟨PyData.keyHash P (Str.ofString "_law_drawn"), .str (Str.ofString "_law_drawn") 2451, .ref 223⟩,
  ⟨PyData.keyHash P (Str.ofString "_law_read"), .str (Str.ofString "_law_read") 2462, .ref 230⟩,
  ⟨PyData.keyHash P (Str.ofString "_law_told"), .str (Str.ofString "_law_told") 2475, .ref 237⟩,
  ⟨PyData.keyHash P (Str.ofString "_law_plain"), .str (Str.ofString "_law_plain") 2496, .ref 244⟩,
  ⟨PyData.keyHash P (Str.ofString "_law_rest"), .str (Str.ofString "_law_rest") 2508, .ref 251⟩,
  ⟨PyData.keyHash P (Str.ofString "_law_parted"), .str (Str.ofString "_law_parted") 2518, .ref 258⟩,
  ⟨PyData.keyHash P (Str.ofString "law"), .str (Str.ofString "law") 2524, .ref 263⟩].toArray 41, [].toArray⟩
noncomputable def o12v36 (P : Params) : Obj := ⟨.none, none, .fields [.int 3 0, .int 0 0, .ref 20, .int 19 0, .int 0 0, .ref 27, .int 29 0, .int 0 0, .ref 34, .int 45 0, .int 0 0, .ref 41, .int 54 0, .int 0 0, .ref 48, .int 65 0, .int 0 0, .ref 55, .int 77 0, .int 0 0, .ref 62, .int 79 0, .int 0 0, .ref 69, .int 81 0, .int 0 0, .ref 76, .int 83 0, .int 0 0, .ref 83, .int 85 0, .int 0 0, .ref 90, .int 87 0, .int 0 0, .ref 97, .int 89 0, .int 0 0, .ref 104, .int 91 0, .int 0 0, .ref 111, .int 93 0, .int 0 0, .ref 118, .int 95 0, .int 0 0, .ref 125, .int 98 0, .int 0 0, .ref 132, .int 101 0, .int 0 0, .ref 139, .int 106 0, .int 0 0, .ref 157, .int 109 0, .int 0 0, .ref 203, .int 115 0, .int 0 0, .ref 215, .int 118 0, .int 0 0, .ref 222, .int 145 0, .int 0 0, .ref 229, .int 156 0, .int 0 0, .ref 236, .int 173 0, .int 0 0, .ref 243, .int 196 0, .int 0 0, .ref 250, .int 200 0, .int 0 0, .ref 257, .int 206 0, .int 0 0, .ref 262].toArray, [].toArray⟩
noncomputable def T36 (P : Params) : BT := (.node (boot_o_0 P) (.node (boot_o_1 P) (.node (o3v36 P) (.node (boot_o_7 P) (.node (o15 P) (.node (o31 P) (.node (o63 P) (.node (o127 P) (.node (o255 P) .nil .nil) .nil) (.node (oB 32 P) .nil .nil)) (.node (o95 P) (.node (oB 0 P) .nil .nil) (.node (o223 P) .nil .nil))) (.node (o47 P) (.node (o79 P) (.node (o143 P) .nil .nil) (.node (o207 P) .nil .nil)) (.node (o111 P) (.node (oB 16 P) .nil .nil) (.node (o239 P) .nil .nil)))) (.node (o23 P) (.node (o39 P) (.node (o71 P) (.node (o135 P) (.node (o263 P) .nil .nil) .nil) (.node (o199 P) .nil .nil)) (.node (o103 P) (.node (oB 8 P) .nil .nil) (.node (o231 P) .nil .nil))) (.node (o55 P) (.node (o87 P) (.node (o151 P) .nil .nil) (.node (o215 P) .nil .nil)) (.node (o119 P) (.node (oB 24 P) .nil .nil) (.node (o247 P) .nil .nil))))) (.node (o11 P) (.node (o19 P) (.node (o35 P) (.node (o67 P) (.node (o131 P) (.node (o259 P) .nil .nil) .nil) (.node (oB 36 P) .nil .nil)) (.node (o99 P) (.node (oB 4 P) .nil .nil) (.node (o227 P) .nil .nil))) (.node (o51 P) (.node (o83 P) (.node (o147 P) .nil .nil) (.node (o211 P) .nil .nil)) (.node (o115 P) (.node (oB 20 P) .nil .nil) (.node (o243 P) .nil .nil)))) (.node (o27 P) (.node (o43 P) (.node (o75 P) (.node (o139 P) .nil .nil) (.node (o203 P) .nil .nil)) (.node (o107 P) (.node (oB 12 P) .nil .nil) (.node (o235 P) .nil .nil))) (.node (o59 P) (.node (o91 P) (.node (o155 P) .nil .nil) (.node (o219 P) .nil .nil)) (.node (o123 P) (.node (oB 28 P) .nil .nil) (.node (o251 P) .nil .nil)))))) (.node (boot_o_5 P) (.node (boot_o_9 P) (.node (o17 P) (.node (o33 P) (.node (o65 P) (.node (o129 P) (.node (o257 P) .nil .nil) .nil) (.node (oB 34 P) .nil .nil)) (.node (o97 P) (.node (oB 2 P) .nil .nil) (.node (o225 P) .nil .nil))) (.node (o49 P) (.node (o81 P) (.node (o145 P) .nil .nil) (.node (o209 P) .nil .nil)) (.node (o113 P) (.node (oB 18 P) .nil .nil) (.node (o241 P) .nil .nil)))) (.node (o25 P) (.node (o41 P) (.node (o73 P) (.node (o137 P) .nil .nil) (.node (o201 P) .nil .nil)) (.node (o105 P) (.node (oB 10 P) .nil .nil) (.node (o233 P) .nil .nil))) (.node (o57 P) (.node (o89 P) (.node (o153 P) .nil .nil) (.node (o217 P) .nil .nil)) (.node (o121 P) (.node (oB 26 P) .nil .nil) (.node (o249 P) .nil .nil))))) (.node (o13 P) (.node (o21 P) (.node (o37 P) (.node (o69 P) (.node (o133 P) (.node (o261 P) .nil .nil) .nil) (.node (oB 38 P) .nil .nil)) (.node (o101 P) (.node (oB 6 P) .nil .nil) (.node (o229 P) .nil .nil))) (.node (o53 P) (.node (o85 P) (.node (o149 P) .nil .nil) (.node (o213 P) .nil .nil)) (.node (o117 P) (.node (oB 22 P) .nil .nil) (.node (o245 P) .nil .nil)))) (.node (o29 P) (.node (o45 P) (.node (o77 P) (.node (o141 P) .nil .nil) (.node (o205 P) .nil .nil)) (.node (o109 P) (.node (oB 14 P) .nil .nil) (.node (o237 P) .nil .nil))) (.node (o61 P) (.node (o93 P) (.node (o157 P) .nil .nil) (.node (o221 P) .nil .nil)) (.node (o125 P) (.node (oB 30 P) .nil .nil) (.node (o253 P) .nil .nil))))))) (.node (boot_o_2 P) (.node (boot_o_4 P) (.node (boot_o_8 P) (.node (o16 P) (.node (o32 P) (.node (o64 P) (.node (o128 P) (.node (o256 P) .nil .nil) .nil) (.node (oB 33 P) .nil .nil)) (.node (o96 P) (.node (oB 1 P) .nil .nil) (.node (o224 P) .nil .nil))) (.node (o48 P) (.node (o80 P) (.node (o144 P) .nil .nil) (.node (o208 P) .nil .nil)) (.node (o112 P) (.node (oB 17 P) .nil .nil) (.node (o240 P) .nil .nil)))) (.node (o24 P) (.node (o40 P) (.node (o72 P) (.node (o136 P) .nil .nil) (.node (o200 P) .nil .nil)) (.node (o104 P) (.node (oB 9 P) .nil .nil) (.node (o232 P) .nil .nil))) (.node (o56 P) (.node (o88 P) (.node (o152 P) .nil .nil) (.node (o216 P) .nil .nil)) (.node (o120 P) (.node (oB 25 P) .nil .nil) (.node (o248 P) .nil .nil))))) (.node (o12v36 P) (.node (o20 P) (.node (o36 P) (.node (o68 P) (.node (o132 P) (.node (o260 P) .nil .nil) .nil) (.node (oB 37 P) .nil .nil)) (.node (o100 P) (.node (oB 5 P) .nil .nil) (.node (o228 P) .nil .nil))) (.node (o52 P) (.node (o84 P) (.node (o148 P) .nil .nil) (.node (o212 P) .nil .nil)) (.node (o116 P) (.node (oB 21 P) .nil .nil) (.node (o244 P) .nil .nil)))) (.node (o28 P) (.node (o44 P) (.node (o76 P) (.node (o140 P) .nil .nil) (.node (o204 P) .nil .nil)) (.node (o108 P) (.node (oB 13 P) .nil .nil) (.node (o236 P) .nil .nil))) (.node (o60 P) (.node (o92 P) (.node (o156 P) .nil .nil) (.node (o220 P) .nil .nil)) (.node (o124 P) (.node (oB 29 P) .nil .nil) (.node (o252 P) .nil .nil)))))) (.node (boot_o_6 P) (.node (boot_o_10 P) (.node (o18 P) (.node (o34 P) (.node (o66 P) (.node (o130 P) (.node (o258 P) .nil .nil) .nil) (.node (oB 35 P) .nil .nil)) (.node (o98 P) (.node (oB 3 P) .nil .nil) (.node (o226 P) .nil .nil))) (.node (o50 P) (.node (o82 P) (.node (o146 P) .nil .nil) (.node (o210 P) .nil .nil)) (.node (o114 P) (.node (oB 19 P) .nil .nil) (.node (o242 P) .nil .nil)))) (.node (o26 P) (.node (o42 P) (.node (o74 P) (.node (o138 P) .nil .nil) (.node (o202 P) .nil .nil)) (.node (o106 P) (.node (oB 11 P) .nil .nil) (.node (o234 P) .nil .nil))) (.node (o58 P) (.node (o90 P) (.node (o154 P) .nil .nil) (.node (o218 P) .nil .nil)) (.node (o122 P) (.node (oB 27 P) .nil .nil) (.node (o250 P) .nil .nil))))) (.node (o14 P) (.node (o22 P) (.node (o38 P) (.node (o70 P) (.node (o134 P) (.node (o262 P) .nil .nil) .nil) (.node (o198 P) .nil .nil)) (.node (o102 P) (.node (oB 7 P) .nil .nil) (.node (o230 P) .nil .nil))) (.node (o54 P) (.node (o86 P) (.node (o150 P) .nil .nil) (.node (o214 P) .nil .nil)) (.node (o118 P) (.node (oB 23 P) .nil .nil) (.node (o246 P) .nil .nil)))) (.node (o30 P) (.node (o46 P) (.node (o78 P) (.node (o142 P) .nil .nil) (.node (o206 P) .nil .nil)) (.node (o110 P) (.node (oB 15 P) .nil .nil) (.node (o238 P) .nil .nil))) (.node (o62 P) (.node (o94 P) (.node (o158 P) .nil .nil) (.node (o222 P) .nil .nil)) (.node (o126 P) (.node (oB 31 P) .nil .nil) (.node (o254 P) .nil .nil))))))))
noncomputable def S36 (w : World) (os : OsState) : SharedT := ⟨T36 w.params, 264, lf w.params, Array.mk [], boot_drawn, 2525, os⟩
noncomputable def pos36 : Pos := ⟨206, 0, 226, 85⟩
noncomputable def sts9 : List Stmt := (bE.drop 0).take 9
-- steps9 238
noncomputable def sts22 : List Stmt := (bE.drop 9).take 13
-- steps22 368
noncomputable def sts23 : List Stmt := (bE.drop 22).take 1
-- steps23 999
noncomputable def sts24 : List Stmt := (bE.drop 23).take 1
-- steps24 30
noncomputable def sts25 : List Stmt := (bE.drop 24).take 1
-- steps25 12525
noncomputable def sts26 : List Stmt := (bE.drop 25).take 1
-- steps26 31
noncomputable def sts27 : List Stmt := (bE.drop 26).take 1
-- steps27 361
noncomputable def sts36 : List Stmt := (bE.drop 27).take 9
-- steps36 286
-- pre 12 fin 1 frame 14 code .ref 13 framePos ⟨0, 0, 0, 0⟩ prepos ⟨0, 0, 0, 0⟩ finpos ⟨206, 0, 226, 85⟩

theorem pre0 (w : World) (os : OsState) : topGo treeTable pw w 11 (some (.ref 6)) 12 ⟨boot_heap w.params, Array.mk [], boot_drawn, boot_toks, os⟩ (topStub pw) = some ((S0 w os).abs, ⟨denote treeTable cE, cE, p0, [topFrame p0]⟩) := by kernel_rfl
theorem blk0 (w : World) (os : OsState) : segRun treeTable pw w 11 (some (.ref 6)) 1 1 (S0 w os).abs (blockOf bE envE cE p0 [topFrame p0]) = some (.next, (S0 w os).abs, cE, pos0) := by kernel_rfl
theorem seg9 (w : World) (os : OsState) : segRunT treeTable pw w 11 (some (.ref 6)) 1 238 (S0 w os) (piecesOf sts9 envE cE pos0 [topFrame p0]) = some (.next, S9 w os, cE, pos9) := by kernel_rfl
theorem seg22 (w : World) (os : OsState) : segRunT treeTable pw w 11 (some (.ref 6)) 1 368 (S9 w os) (piecesOf sts22 envE cE pos9 [topFrame p0]) = some (.next, S22 w os, cE, pos22) := by kernel_rfl
-- piece 23
theorem seg24 (w : World) (os : OsState) : segRunT treeTable pw w 11 (some (.ref 6)) 1 30 (S23 w os) (piecesOf sts24 envE cE pos23 [topFrame p0]) = some (.next, S24 w os, cE, pos24) := by kernel_rfl
-- piece 25
theorem seg26 (w : World) (os : OsState) : segRunT treeTable pw w 11 (some (.ref 6)) 1 31 (S25 w os) (piecesOf sts26 envE cE pos25 [topFrame p0]) = some (.next, S26 w os, cE, pos26) := by kernel_rfl
-- piece 27
theorem seg36 (w : World) (os : OsState) : segRunT treeTable pw w 11 (some (.ref 6)) 1 286 (S27 w os) (piecesOf sts36 envE cE pos27 [topFrame p0]) = some (.next, S36 w os, cE, pos36) := by kernel_rfl
end
end Mine

end
section
open PySem PySem.W PyProof.Rows
set_option maxRecDepth 100000
set_option maxHeartbeats 0
namespace Mine
noncomputable abbrev G23 (w : World) : Prop := ∀ os : OsState, segRunT treeTable pw w 11 (some (.ref 6)) 1 999 (S22 w os) (piecesOf sts23 envE cE pos22 [topFrame p0]) = some (.next, S23 w os, cE, pos23)
theorem seg23f (w : World) : G23 (w.withFollow "special-get-raises" false) := fun os => by
  rw [PySem.W.Fast.te10110043849684766642, PySem.W.Fast.te14364793385576792824]; kernel_rfl
theorem seg23t (w : World) : G23 (w.withFollow "special-get-raises" true) := fun os => by
  rw [PySem.W.Fast.te10110043849684766642, PySem.W.Fast.te14364793385576792824]; kernel_rfl
theorem seg23 (w : World) : G23 w := byRow2 "special-get-raises" seg23f seg23t w
noncomputable abbrev G27 (w : World) : Prop := ∀ os : OsState, segRunT treeTable pw w 11 (some (.ref 6)) 1 361 (S26 w os) (piecesOf sts27 envE cE pos26 [topFrame p0]) = some (.next, S27 w os, cE, pos27)
theorem seg27f (w : World) : G27 (w.withFollow "special-get-raises" false) := fun os => by
  rw [PySem.W.Fast.te10110043849684766642, PySem.W.Fast.te14364793385576792824]; kernel_rfl
theorem seg27t (w : World) : G27 (w.withFollow "special-get-raises" true) := fun os => by
  rw [PySem.W.Fast.te10110043849684766642, PySem.W.Fast.te14364793385576792824]; kernel_rfl
theorem seg27 (w : World) : G27 w := byRow2 "special-get-raises" seg27f seg27t w
end Mine

end
section
open PySem PySem.W PyProof.Rows
set_option maxRecDepth 100000
namespace Mine
noncomputable def Run (w : World) {α : Type} (m : Sem α) (h : Heap) (t : Nat) (p : Pos) (B : Nat) (a : α) (h' : Heap) (t' : Nat) (p' : Pos) : Prop :=
  ∀ (K : α → Sem Fin) (H : Value → Sem Fin) (gd : Bool → Bool) (lv : List Value → List Value) (os : OsState), ∃ n, n ≤ B ∧
    segGo treeTable pw w 11 (some (.ref 6)) 1 n ⟨h, Array.mk [], boot_drawn, t, os⟩ ⟨m.wrap K H gd lv, cE, p, [topFrame p0]⟩ =
      some (⟨h', Array.mk [], boot_drawn, t', os⟩, ⟨K a, cE, p', [topFrame p0]⟩)
theorem segGo_app {tb : String → Option Builtin} {p : Program} {w : World} {n₀ : Nat} {ann : Option Value} {b : Nat} : ∀ {n N : Nat} {s s' : Shared} {t t' : Thread} {r : Option (Shared × Thread)},
    segGo tb p w n₀ ann b n s t = some (s', t') → segGo tb p w n₀ ann b N s' t' = r → segGo tb p w n₀ ann b (n + N) s t = r
  | 0, N, s, s', t, t', r, h, k => by
    obtain ⟨rfl, rfl⟩ : s = s' ∧ t = t' := by simpa [segGo] using h
    rw [Nat.zero_add]; exact k
  | n + 1, N, s, s', t, t', r, h, k => by
    rw [show n + 1 + N = n + N + 1 by (first | lia | omega)]
    unfold segGo at h ⊢
    cases he : endAt b t with
    | some f => rw [he] at h; cases h
    | none =>
      rw [he] at h
      cases hk : stepOk n₀ ann t with
      | false => rw [hk] at h; cases h
      | true =>
        rw [hk] at h
        cases hs : step (denote tb) p w s t with
        | halt o s₂ => rw [hs] at h; cases h
        | go s₂ t₂ => rw [hs] at h; exact segGo_app h k

section
variable {w : World} {α β : Type} {h h' h'' : Heap} {t t' t'' : Nat} {p p' p'' : Pos} {B B' : Nat}
theorem Run.pure {a : α} : Run w (Sem.pure a) h t p 0 a h t p := fun K H gd lv os => ⟨0, Nat.le_refl _, rfl⟩
theorem Run.bind {m : Sem α} {f : α → Sem β} {a : α} {b : β} (x : Run w m h t p B a h' t' p') (y : Run w (f a) h' t' p' B' b h'' t'' p'') : Run w (m.bind f) h t p (B + B') b h'' t'' p'' := fun K H gd lv os => by
  obtain ⟨n, hn, e⟩ := x (fun a => (f a).wrap K H gd lv) H gd lv os
  obtain ⟨n', hn', e'⟩ := y K H gd lv os
  refine ⟨n + n', Nat.add_le_add hn hn', ?_⟩
  rw [Sem.bind_eq_wrap, Sem.wrap_wrap]
  exact segGo_app e e'
theorem Run.bind' {m : Sem α} {f : α → Sem β} {a : α} {b : β} (x : Run w m h t p B a h' t' p') (y : Run w (f a) h' t' p' B' b h'' t'' p'') : Run w (m >>= f) h t p (B + B') b h'' t'' p'' := Run.bind x y
theorem Run.keep {m : Sem α} {a : α} {vs : List Value} (x : Run w m h t p B a h' t' p') : Run w (m.keep vs) h t p B a h' t' p' := fun K H gd lv os => by
  rw [Sem.keep_eq_wrap, Sem.wrap_wrap]
  exact x _ _ _ _ os
theorem Run.holding {m : Sem α} {a : α} {vs : List Value} (x : Run w m h t p B a h' t' p') : Run w (holding vs m) h t p B a h' t' p' := by
  unfold PySem.holding
  split
  · exact x
  · exact x.keep
theorem Run.onRaise {m : Sem α} {a : α} {f : Value → Sem Unit} (x : Run w m h t p B a h' t' p') : Run w (m.onRaise f) h t p B a h' t' p' := fun K H gd lv os => by
  rw [Sem.onRaise_eq_wrap, Sem.wrap_wrap]
  exact x _ _ _ _ os
theorem Run.tryCatch {m : Sem α} {a : α} {f : Value → Sem α} (x : Run w m h t p B a h' t' p') : Run w (m.tryCatch f) h t p B a h' t' p' := fun K H gd lv os => by
  rw [Sem.tryCatch_eq_wrap, Sem.wrap_wrap]
  exact x _ _ _ _ os
theorem Run.mono {m : Sem α} {a : α} (x : Run w m h t p B a h' t' p') (hB : B ≤ B') : Run w m h t p B' a h' t' p' := fun K H gd lv os => by
  obtain ⟨n, hn, e⟩ := x K H gd lv os
  exact ⟨n, Nat.le_trans hn hB, e⟩
theorem Run.loadPart {a : Addr} {o : Obj} {part : Option Value} (e : h.get? a = some o) : Run w (loadPart a part) h t p 1 o h t p := fun K H gd lv os => ⟨1, Nat.le_refl _, by
  show (match step (denote treeTable) pw w ⟨h, Array.mk [], boot_drawn, t, os⟩ ⟨.load a part fun x => K x, cE, p, [topFrame p0]⟩ with | .go s' t' => segGo treeTable pw w 11 (some (.ref 6)) 1 0 s' t' | .halt _ _ => none) = _
  simp only [step, e]
  rfl⟩
theorem Run.updatePart {a : Addr} {o : Obj} {part : Option Value} {f : Obj → Obj} (e : h.get? a = some o) (ha : 11 ≤ a) : Run w (updatePart a part f) h t p 1 () (h.update a f) t p := fun K H gd lv os => ⟨1, Nat.le_refl _, by
  have hk : stepOk 11 (some (.ref 6)) ⟨.update a part f fun x => K x, cE, p, [topFrame p0]⟩ = true := by
    have : Nat.ble 11 a = true := Nat.ble_eq_true_of_le ha
    show (true && (Nat.ble 11 a || a == mainNs || a == cStatics || some (Value.ref 6) == some (.ref a))) = true
    rw [this]; rfl
  show (match stepOk 11 (some (.ref 6)) ⟨.update a part f fun x => K x, cE, p, [topFrame p0]⟩ with | false => none | true => match step (denote treeTable) pw w ⟨h, Array.mk [], boot_drawn, t, os⟩ ⟨.update a part f fun x => K x, cE, p, [topFrame p0]⟩ with | .go s' t' => segGo treeTable pw w 11 (some (.ref 6)) 1 0 s' t' | .halt _ _ => none) = _
  rw [hk]
  simp only [step, e]
  rfl⟩
theorem Run.alloc {o : Obj} : Run w (alloc o) h t p 1 h.objs.size (h.push o) t p := fun K H gd lv os => ⟨1, Nat.le_refl _, rfl⟩
theorem Run.fresh : Run w fresh h t p 1 t h (t + 1) p := fun K H gd lv os => ⟨1, Nat.le_refl _, rfl⟩
theorem Run.rule {x : String} : Run w (rule x) h t p 1 () h t p := fun K H gd lv os => ⟨1, Nat.le_refl _, rfl⟩
theorem Run.standAt {q : Pos} : Run w (standAt q) h t p 1 () h t q := fun K H gd lv os => ⟨1, Nat.le_refl _, rfl⟩
theorem Run.point : Run w point h t p 1 () h t p := fun K H gd lv os => ⟨1, Nat.le_refl _, rfl⟩
noncomputable def rawH (i : Int) : Int := let h : Int := i.natAbs % (2 ^ 61 - 1 : Nat); let h := if i < 0 then -h else h; if h == -1 then -2 else h
theorem hash_go (w : World) : ∀ (b : Bool) (K : Int → Sem Fin) (H : Value → Sem Fin) (gd : Bool → Bool) (lv : List Value → List Value) (os : OsState) (h : Heap) (t : Nat) (p : Pos) (i : Int) (u : Tok),
   segGo treeTable pw (w.withFollow "special-get-raises" b) 11 (some (.ref 6)) 1 5 ⟨h, Array.mk [], boot_drawn, t, os⟩ ⟨(pyHash (.int i u)).wrap K H gd lv, cE, p, [topFrame p0]⟩ =
      some (⟨h, Array.mk [], boot_drawn, t + 1, os⟩, ⟨(pyHashByItsType.reduced (rawH i)).wrap K H gd lv, cE, p, [topFrame p0]⟩) := by
  intro b
  cases b
  · intros; kernel_rfl
  · intros; kernel_rfl
end
end Mine

end
section
open PySem PySem.W PyProof.Rows
set_option maxRecDepth 100000
namespace Mine
theorem hash_runW (w : World) {h : Heap} {t : Nat} {p : Pos} {i : Int} {u : Tok} (h0 : 0 ≤ i) (h1 : i < 2 ^ 40) : Run w (pyHash (.int i u)) h t p 5 i h (t + 1) p := fun K H gd lv os => by
  refine ⟨5, Nat.le_refl _, ?_⟩
  have key := hash_go w (w.params.followText "special-get-raises") K H gd lv os h t p i u
  rw [World.withFollow_self] at key
  rw [key]
  have e : rawH i = i := by
    unfold rawH
    have e1 : ((i.natAbs % (2 ^ 61 - 1 : Nat) : Nat) : Int) = i := by (first | lia | omega)
    have e2 : ¬ (i < 0) := by (first | lia | omega)
    have e3 : ¬ (i = -1) := by (first | lia | omega)
    dsimp only
    rw [if_neg e2]
    have e4 : (i.natAbs : Int) % ((2 ^ 61 - 1 : Nat) : Int) = i := by (first | lia | omega)
    rw [e4]
    rw [if_neg (by simpa using e3)]
  rw [e]
  have e5 : pyHashByItsType.reduced i = Sem.pure i := by
    unfold pyHashByItsType.reduced
    rw [if_pos (by simp; (first | lia | omega))]
    have e3 : ¬ (i = -1) := by (first | lia | omega)
    rw [if_neg (by simpa using e3)]
    rfl
  rw [e5]
  rfl
noncomputable def hp (l : List Obj) (f : Life) : Heap := ⟨l.toArray, f⟩
section
variable {l1 l2 : List Obj} {o : Obj} {f : Life}
theorem hp_get (ho : o.isFreed = false) : (hp (l1 ++ o :: l2) f).get? l1.length = some o := by
  unfold hp Heap.get?
  have e : (l1 ++ o :: l2).toArray[l1.length]? = some o := by simp
  simp only [e]
  obtain ⟨c, d, dt, sl⟩ := o
  cases dt <;> first | rfl | (cases ho)
theorem hp_update {g : Obj → Obj} : (hp (l1 ++ o :: l2) f).update l1.length g = hp (l1 ++ g o :: l2) f := by
  show Heap.mk _ _ = Heap.mk _ _
  congr 1
  apply Array.ext_getElem?
  intro i
  rw [Array.getElem?_modify]
  simp only [List.getElem?_toArray]
  by_cases e : l1.length = i
  · subst e; simp
  · rw [if_neg e]
    by_cases q : i < l1.length
    · rw [List.getElem?_append_left q, List.getElem?_append_left q]
    · have q' : l1.length < i := by (first | lia | omega)
      obtain ⟨k, rfl⟩ := Nat.exists_eq_add_of_lt q'
      rw [List.getElem?_append_right (by (first | lia | omega)), List.getElem?_append_right (by (first | lia | omega))]
      rw [show l1.length + k + 1 - l1.length = k + 1 by (first | lia | omega)]
      rfl
theorem hp_push {l : List Obj} : (hp l f).push o = hp (l ++ [o]) f := by
  show Heap.mk _ _ = Heap.mk _ _
  congr 1
  simp
theorem hp_size {l : List Obj} : (hp l f).objs.size = l.length := by simp [hp]
end
theorem dObj_free (es : List DictEntry) (n : Nat) : (dObj es n).isFreed = false := rfl
section
variable {w : World} {l1 l2 : List Obj} {f : Life} {t n : Nat} {p : Pos} {es : List DictEntry}
theorem Run.dictEntries {part : Option Value} : Run w (dictEntries l1.length part) (hp (l1 ++ dObj es n :: l2) f) t p 1 es.toArray (hp (l1 ++ dObj es n :: l2) f) t p := by
  unfold PySem.dictEntries
  refine Run.bind' (B := 1) (B' := 0) (Run.loadPart (hp_get (dObj_free es n))) ?_
  exact Run.pure
theorem Run.dictEpoch {part : Option Value} : Run w (dictEpoch l1.length part) (hp (l1 ++ dObj es n :: l2) f) t p 1 n (hp (l1 ++ dObj es n :: l2) f) t p := by
  unfold PySem.dictEpoch
  refine Run.bind' (B := 1) (B' := 0) (Run.loadPart (hp_get (dObj_free es n))) ?_
  exact Run.pure
theorem places_nil {h : Int} (hn : ∀ e ∈ es, e.hash ≠ h) : placesWithHash es.toArray.size (fun i => (es.toArray[i]?).map (·.hash)) h = [] := by
  unfold placesWithHash
  rw [List.filter_eq_nil_iff]
  intro i hi
  have hi' : i < es.length := by simpa using hi
  have e : es.toArray[i]? = some es[i] := by simp [hi']
  simp only [e]
  simpa using hn es[i] (List.getElem_mem hi')
theorem Run.dictFind {i : Int} {u : Tok} {h : Int} (hn : ∀ e ∈ es, e.hash ≠ h) : Run w (dictFind l1.length (.int i u) h) (hp (l1 ++ dObj es n :: l2) f) t p 1 none (hp (l1 ++ dObj es n :: l2) f) t p := by
  unfold PySem.dictFind
  refine Run.holding (Run.bind' (B' := 0) Run.dictEntries ?_)
  dsimp only
  rw [places_nil hn]
  show Run w (dictWalkPlain l1.length (.int i u) h es.toArray [] >>= fun x => _) _ _ _ _ _ _ _ _
  exact Run.pure
theorem Run.updateDictKeys {e : DictEntry} {part : Option Value} (hl : 11 ≤ l1.length) (hs : es.length ≤ 1000) : Run w (updateDictKeys l1.length (·.push e) part) (hp (l1 ++ dObj es n :: l2) f) t p 3 () (hp (l1 ++ dObj (es ++ [e]) (n + 1) :: l2) f) t p := by
  unfold PySem.updateDictKeys
  refine Run.bind' (B := 1) (B' := 2) (Run.loadPart (hp_get (dObj_free es n))) ?_
  show Run w (PySem.updatePart l1.length part (Obj.mapDictKeys (·.push e)) >>= fun _ => lookBehind l1.length part) _ _ _ _ _ _ _ _
  refine Run.bind' (B := 1) (B' := 1) (Run.updatePart (hp_get (dObj_free es n)) hl) ?_
  rw [hp_update]
  have e1 : (Obj.mapDictKeys (·.push e)) (dObj es n) = dObj (es ++ [e]) (n + 1) := by
    show Obj.mk _ _ (.dict (es.toArray.push e) (n + 1)) _ = Obj.mk _ _ (.dict (es ++ [e]).toArray (n + 1)) _
    rw [List.push_toArray]
  rw [e1]
  unfold lookBehind
  refine Run.bind' (B := 1) (B' := 0) (Run.loadPart (hp_get (dObj_free _ _))) ?_
  have e2 : (dObj (es ++ [e]) (n + 1)).data.pastItsLine = none := by
    show (if (es ++ [e]).toArray.size > sizeLine + 1 then some "dict:memory" else none) = none
    rw [if_neg]
    have : sizeLine = 16777216 := rfl
    simp only [List.size_toArray, List.length_append, List.length_cons, List.length_nil]
    (first | lia | omega)
  rw [e2]
  exact Run.pure
theorem Run.dictSetHashed {i : Int} {u : Tok} {h : Int} {v : Value} (hl : 11 ≤ l1.length) (hs : es.length ≤ 1000) (hn : ∀ e ∈ es, e.hash ≠ h) :
    Run w (dictSetHashed l1.length (.int i u) h v) (hp (l1 ++ dObj es n :: l2) f) t p 5 () (hp (l1 ++ dObj (es ++ [⟨h, .int i u, v⟩]) (n + 1) :: l2) f) t p := by
  unfold PySem.dictSetHashed
  refine Run.holding (Run.bind' (B := 1) (B' := 4) (Run.dictFind hn) ?_)
  show Run w (PySem.rule "dict.set.new-key-at-the-end" >>= fun _ => PySem.updateDictKeys l1.length (·.push ⟨h, .int i u, v⟩) (keyPart (.int i u))) _ _ _ _ _ _ _ _
  exact Run.bind' (B := 1) (B' := 3) Run.rule (Run.updateDictKeys hl hs)
theorem Run.dictSet {i : Int} {u : Tok} {v : Value} (hl : 11 ≤ l1.length) (hs : es.length ≤ 1000) (h0 : 0 ≤ i) (h1 : i < 2 ^ 40) (hn : ∀ e ∈ es, e.hash ≠ i) :
    Run w (dictSet l1.length (.int i u) v) (hp (l1 ++ dObj es n :: l2) f) t p 10 () (hp (l1 ++ dObj (es ++ [⟨i, .int i u, v⟩]) (n + 1) :: l2) f) (t + 1) p := by
  unfold PySem.dictSet
  exact Run.holding (Run.bind' (B := 5) (B' := 5) (hash_runW w h0 h1) (Run.dictSetHashed hl hs hn))
theorem Run.dictPut {i : Int} {u : Tok} {h : Int} {v : Value} (hl : 11 ≤ l1.length) (hs : es.length ≤ 1000) (hn : ∀ e ∈ es, e.hash ≠ h) :
    Run w (dictPut l1.length h (.int i u) v) (hp (l1 ++ dObj es n :: l2) f) t p 4 () (hp (l1 ++ dObj (es ++ [⟨h, .int i u, v⟩]) (n + 1) :: l2) f) t p := by
  unfold PySem.dictPut
  refine Run.bind' (B := 1) (B' := 3) (Run.dictFind hn) ?_
  exact Run.updateDictKeys hl hs
end
end Mine

end
section
open PySem PySem.W PyProof.Rows
set_option maxRecDepth 100000
namespace Mine
section
variable {w : World} {α β : Type} {h h' h'' : Heap} {t t' t'' : Nat} {p p' p'' : Pos} {B B' : Nat}
theorem Run.forIn_nil {f : α → β → Sem (ForInStep β)} {b : β} : Run w (forIn [] b f) h t p 0 b h t p := by
  rw [List.forIn_nil]; exact Run.pure
theorem Run.forIn_cons {x : α} {xs : List α} {f : α → β → Sem (ForInStep β)} {b b' r : β} (e : Run w (f x b) h t p B (.yield b') h' t' p') (k : Run w (forIn xs b' f) h' t' p' B' r h'' t'' p'') :
    Run w (forIn (x :: xs) b f) h t p (B + B') r h'' t'' p'' := by
  rw [List.forIn_cons]
  exact Run.bind' e k
theorem Run.mkInt {i : Int} : Run w (mkInt i) h t p 1 (.int i t) h (t + 1) p := by
  unfold PySem.mkInt
  exact Run.bind' (B := 1) (B' := 0) Run.fresh Run.pure
theorem Run.mkText {s : Str} : Run w (mkText s) h t p 1 (.str s t) h (t + 1) p := by
  unfold PySem.mkText
  exact Run.bind' (B := 1) (B' := 0) Run.fresh Run.pure
end
noncomputable def item (q : Pos) (x : Int × Str) : Sem Value × Sem Value := (mkInt x.1, do let x ← mkText x.2; standAt q; pure x)
theorem run_val {w : World} {h : Heap} {t : Nat} {p q : Pos} {x : Int × Str} : Run w (item q x).2 h t p 2 (.str x.2 t) h (t + 1) q := by
  unfold item
  exact Run.bind' (B := 1) (B' := 1) Run.mkText (Run.bind' (B := 1) (B' := 0) Run.standAt Run.pure)
/-- ascending from b on, small -/
noncomputable def asc : Int → List (Int × Str) → Bool
  | _, [] => true
  | b, x :: r => decide (b < x.1) && decide (x.1 < 2 ^ 40) && asc x.1 r
noncomputable def top : Int → List (Int × Str) → Int
  | b, [] => b
  | _, x :: r => top x.1 r
theorem asc_cons {b : Int} {x : Int × Str} {r : List (Int × Str)} (e : asc b (x :: r) = true) : b < x.1 ∧ x.1 < 2 ^ 40 ∧ asc x.1 r = true := by
  unfold asc at e
  simp only [Bool.and_eq_true, decide_eq_true_eq] at e
  exact ⟨e.1.1, e.1.2, e.2⟩
noncomputable def Low (es : List DictEntry) (b : Int) : Prop := ∀ e ∈ es, e.hash ≤ b
theorem Low.snoc {es : List DictEntry} {b c : Int} {e : DictEntry} (x : Low es b) (hb : b ≤ c) (he : e.hash ≤ c) : Low (es ++ [e]) c := fun y hy => by
  rcases List.mem_append.mp hy with q | q
  · exact Int.le_trans (x y q) hb
  · rw [List.mem_singleton.mp q]; exact he
theorem Low.ne {es : List DictEntry} {b i : Int} (x : Low es b) (hi : b < i) : ∀ e ∈ es, e.hash ≠ i := fun e he q => by
  have := x e he
  (first | lia | omega)
theorem entsA_len : ∀ (ps : List (Int × Str)) (t : Nat), (entsA t ps).length = ps.length
  | [], _ => rfl
  | _ :: r, t => by simp [entsA, entsA_len r]
section
variable {w : World} {l1 : List Obj} {f : Life}
noncomputable abbrev longBody (d : Addr) : Sem Value × Sem Value → PUnit.{1} → Sem (ForInStep PUnit.{1}) := fun x r => do
  match x with
  | (k, v) =>
    let kv ← k
    let vv ← holding [kv] v
    holding [kv, vv] (dictSet d kv vv)
    pure (ForInStep.yield PUnit.unit)
theorem long_loop {q : Pos} (hl : 11 ≤ l1.length) : ∀ (ps : List (Int × Str)) (b : Int) (es : List DictEntry) (n t : Nat) (p : Pos), asc b ps = true → 0 ≤ b → Low es b → es.length + ps.length ≤ 1000 → ps ≠ [] →
    Run w (forIn (ps.map (item q)) PUnit.unit (longBody l1.length)) (hp (l1 ++ dObj es n :: []) f) t p (13 * ps.length) PUnit.unit (hp (l1 ++ dObj (es ++ entsA t ps) (n + ps.length) :: []) f) (t + 3 * ps.length) q
  | [], _, _, _, _, _, _, _, _, _, h => absurd rfl h
  | x :: r, b, es, n, t, p, ha, hb, lo, hs, _ => by
    obtain ⟨a1, a2, a3⟩ := asc_cons ha
    have one : Run w (longBody l1.length (item q x) PUnit.unit) (hp (l1 ++ dObj es n :: []) f) t p 13 (.yield PUnit.unit) (hp (l1 ++ dObj (es ++ [entE x t (t + 1)]) (n + 1) :: []) f) (t + 3) q := by
      unfold longBody item
      refine Run.bind' (B := 1) (B' := 12) Run.mkInt ?_
      refine Run.bind' (B := 2) (B' := 10) (Run.holding run_val) ?_
      refine Run.bind' (B := 10) (B' := 0) (Run.holding (Run.dictSet hl (by simp only [List.length_cons] at hs; (first | lia | omega)) (by (first | lia | omega)) a2 (lo.ne a1))) ?_
      exact Run.pure
    have hl' : (es ++ [entE x t (t + 1)]).length + r.length ≤ 1000 := by simp only [List.length_append, List.length_cons, List.length_nil] at hs ⊢; (first | lia | omega)
    rw [List.map_cons, show 13 * (x :: r).length = 13 + 13 * r.length by simp only [List.length_cons]; (first | lia | omega)]
    refine Run.forIn_cons one ?_
    cases r with
    | nil =>
      exact Run.forIn_nil
    | cons y r' =>
      have := long_loop (q := q) hl (y :: r') x.1 (es ++ [entE x t (t + 1)]) (n + 1) (t + 3) q a3 (by (first | lia | omega)) (lo.snoc (by (first | lia | omega)) (Int.le_refl _)) hl' (by simp)
      have e1 : es ++ entsA t (x :: y :: r') = es ++ [entE x t (t + 1)] ++ entsA (t + 3) (y :: r') := by simp [entsA]
      have e2 : n + (x :: y :: r').length = n + 1 + (y :: r').length := by simp only [List.length_cons]; (first | lia | omega)
      have e3 : t + 3 * (x :: y :: r').length = t + 3 + 3 * (y :: r').length := by simp only [List.length_cons]; (first | lia | omega)
      rw [e1, e2, e3]
      exact this
theorem sub_long {q p : Pos} {ps : List (Int × Str)} {b : Int} {t : Nat} (hl : 11 ≤ l1.length) (ha : asc b ps = true) (hb : 0 ≤ b) (hs : ps.length ≤ 1000) (h15 : ¬ ps.length ≤ 15) :
    Run w (subDict (ps.map (item q))) (hp l1 f) t p (13 * ps.length + 2) l1.length (hp (l1 ++ dObj (entsA t ps) ps.length :: []) f) (t + 3 * ps.length) q := by
  unfold subDict
  rw [show 13 * ps.length + 2 = 1 + (1 + (13 * ps.length + 0) + 0) by (first | lia | omega)]
  refine Run.bind' Run.alloc ?_
  rw [hp_size, hp_push]
  refine Run.bind' (a := ()) ?_ Run.pure
  refine Run.holding ?_
  rw [if_neg (by rw [List.length_map]; exact h15)]
  refine Run.bind' Run.rule ?_
  have := long_loop (w := w) (f := f) (q := q) hl ps b [] 0 t p ha hb (fun _ h => nomatch h) (by simpa using hs) (by intro e; subst e; exact h15 (by simp))
  rw [List.nil_append, Nat.zero_add] at this
  exact Run.bind' this Run.pure
/-- the short display -/
noncomputable def pairsAt : Nat → List (Int × Str) → List (Value × Value)
  | _, [] => []
  | t, x :: r => (.int x.1 t, .str x.2 (t + 1)) :: pairsAt (t + 2) r
theorem evalPairs_run {q : Pos} {h : Heap} : ∀ (ps : List (Int × Str)) (t : Nat) (p : Pos), ps ≠ [] → Run w (evalPairs (ps.map (item q))) h t p (3 * ps.length) (pairsAt t ps) h (t + 2 * ps.length) q
  | [], _, _, h => absurd rfl h
  | x :: r, t, p, _ => by
    rw [List.map_cons]
    unfold evalPairs
    rw [show 3 * (x :: r).length = 1 + (2 + (3 * r.length + 0)) by simp only [List.length_cons]; (first | lia | omega)]
    refine Run.bind' (a := .int x.1 t) (h' := h) (t' := t + 1) (p' := p) Run.mkInt ?_
    refine Run.bind' (Run.holding run_val) ?_
    refine Run.bind' (a := pairsAt (t + 2) r) (h' := h) (t' := t + 2 * (x :: r).length) (p' := q) (Run.holding ?_) ?_
    · cases r with
      | nil => exact Run.pure
      | cons y r' =>
        have := evalPairs_run (q := q) (h := h) (y :: r') (t + 2) q (by simp)
        have e3 : t + 2 * (x :: y :: r').length = t + 2 + 2 * (y :: r').length := by simp only [List.length_cons]; (first | lia | omega)
        rw [e3]
        exact this
    · exact Run.pure
noncomputable abbrev shortBody (d : Addr) : Value × Value → PUnit.{1} → Sem (ForInStep PUnit.{1}) := fun x r => do
  match x with
  | (k, v) =>
    dictSet d k v
    pure (ForInStep.yield PUnit.unit)
theorem short_loop (hl : 11 ≤ l1.length) {p : Pos} : ∀ (ps : List (Int × Str)) (b : Int) (es : List DictEntry) (n u t : Nat), asc b ps = true → 0 ≤ b → Low es b → es.length + ps.length ≤ 1000 →
    Run w (forIn (pairsAt u ps) PUnit.unit (shortBody l1.length)) (hp (l1 ++ dObj es n :: []) f) t p (10 * ps.length) PUnit.unit (hp (l1 ++ dObj (es ++ entsB u ps) (n + ps.length) :: []) f) (t + ps.length) p
  | [], _, es, _, _, _, _, _, _, _ => by
    show Run w (forIn [] _ _) _ _ _ _ _ (hp (l1 ++ dObj (es ++ []) _ :: []) f) _ _
    rw [List.append_nil]
    exact Run.forIn_nil
  | x :: r, b, es, n, u, t, ha, hb, lo, hs => by
    obtain ⟨a1, a2, a3⟩ := asc_cons ha
    have one : Run w (shortBody l1.length (.int x.1 u, .str x.2 (u + 1)) PUnit.unit) (hp (l1 ++ dObj es n :: []) f) t p 10 (.yield PUnit.unit) (hp (l1 ++ dObj (es ++ [entE x u (u + 1)]) (n + 1) :: []) f) (t + 1) p := by
      unfold shortBody
      exact Run.bind' (B := 10) (B' := 0) (Run.dictSet hl (by simp only [List.length_cons] at hs; (first | lia | omega)) (by (first | lia | omega)) a2 (lo.ne a1)) Run.pure
    have hl' : (es ++ [entE x u (u + 1)]).length + r.length ≤ 1000 := by simp only [List.length_append, List.length_cons, List.length_nil] at hs ⊢; (first | lia | omega)
    have := short_loop (p := p) hl r x.1 (es ++ [entE x u (u + 1)]) (n + 1) (u + 2) (t + 1) a3 (by (first | lia | omega)) (lo.snoc (by (first | lia | omega)) (Int.le_refl _)) hl'
    have e1 : es ++ entsB u (x :: r) = es ++ [entE x u (u + 1)] ++ entsB (u + 2) r := by simp [entsB]
    have e2 : n + (x :: r).length = n + 1 + r.length := by simp only [List.length_cons]; (first | lia | omega)
    have e3 : t + (x :: r).length = t + 1 + r.length := by simp only [List.length_cons]; (first | lia | omega)
    rw [e1, e2, e3, show 10 * (x :: r).length = 10 + 10 * r.length by simp only [List.length_cons]; (first | lia | omega)]
    exact Run.forIn_cons one this
theorem sub_short {q p : Pos} {ps : List (Int × Str)} {b : Int} {t : Nat} (hl : 11 ≤ l1.length) (ha : asc b ps = true) (hb : 0 ≤ b) (h15 : ps.length ≤ 15) (hne : ps ≠ []) :
    Run w (subDict (ps.map (item q))) (hp l1 f) t p (13 * ps.length + 1) l1.length (hp (l1 ++ dObj (entsB t ps) ps.length :: []) f) (t + 3 * ps.length) q := by
  unfold subDict
  rw [show 13 * ps.length + 1 = 1 + ((3 * ps.length + (10 * ps.length + 0)) + 0) by (first | lia | omega)]
  refine Run.bind' Run.alloc ?_
  rw [hp_size, hp_push]
  refine Run.bind' (a := ()) ?_ Run.pure
  refine Run.holding ?_
  rw [if_pos (by rw [List.length_map]; exact h15)]
  refine Run.bind' (evalPairs_run ps t p hne) (Run.holding ?_)
  have := short_loop (w := w) (f := f) hl (p := q) ps b [] 0 t (t + 2 * ps.length) ha hb (fun _ h => nomatch h) (by simp only [List.length_nil]; (first | lia | omega))
  rw [List.nil_append, Nat.zero_add, show t + 2 * ps.length + ps.length = t + 3 * ps.length by (first | lia | omega)] at this
  exact Run.bind' this Run.pure
end
end Mine

end
section
open PySem PySem.W PyProof.Rows
set_option maxRecDepth 100000
namespace Mine
section
variable {w : World} {l1 : List Obj} {f : Life}
theorem sub_dict_dict : isSubtype (.type "dict") (.type "dict") = Sem.pure true := by kernel_rfl
theorem iter_of_dict : typeLookup (.type "dict") "__iter__" = Sem.pure (some (.builtin "dict.__iter__")) := by kernel_rfl
theorem Run.typeOf_dict {l2 : List Obj} {es : List DictEntry} {n t : Nat} {p : Pos} : Run w (typeOf (.ref l1.length)) (hp (l1 ++ dObj es n :: l2) f) t p 1 (.type "dict") (hp (l1 ++ dObj es n :: l2) f) t p := by
  unfold typeOf
  refine Run.bind' (B := 1) (B' := 0) (Run.loadPart (hp_get (dObj_free es n))) ?_
  exact Run.pure
theorem hp_sub {l2 : List Obj} {es sub : List DictEntry} {n m : Nat} : l1 ++ dObj es n :: (l2 ++ [dObj sub m]) = (l1 ++ dObj es n :: l2) ++ dObj sub m :: [] := by simp
theorem hp_len {l2 : List Obj} {es : List DictEntry} {n : Nat} : (l1 ++ dObj es n :: l2).length = l1.length + (l2.length + 1) := by simp
section
variable {l2 : List Obj} {es sub : List DictEntry} {n m t : Nat} {p : Pos}
theorem Run.dictEntries_sub {part : Option Value} : Run w (PySem.dictEntries (l1.length + (l2.length + 1)) part) (hp (l1 ++ dObj es n :: (l2 ++ [dObj sub m])) f) t p 1 sub.toArray (hp (l1 ++ dObj es n :: (l2 ++ [dObj sub m])) f) t p := by
  rw [hp_sub, ← hp_len (l1 := l1) (l2 := l2) (es := es) (n := n)]
  exact Run.dictEntries
theorem Run.dictEpoch_sub {part : Option Value} : Run w (PySem.dictEpoch (l1.length + (l2.length + 1)) part) (hp (l1 ++ dObj es n :: (l2 ++ [dObj sub m])) f) t p 1 m (hp (l1 ++ dObj es n :: (l2 ++ [dObj sub m])) f) t p := by
  rw [hp_sub, ← hp_len (l1 := l1) (l2 := l2) (es := es) (n := n)]
  exact Run.dictEpoch
theorem Run.typeOf_sub : Run w (typeOf (.ref (l1.length + (l2.length + 1)))) (hp (l1 ++ dObj es n :: (l2 ++ [dObj sub m])) f) t p 1 (.type "dict") (hp (l1 ++ dObj es n :: (l2 ++ [dObj sub m])) f) t p := by
  rw [hp_sub, ← hp_len (l1 := l1) (l2 := l2) (es := es) (n := n)]
  exact Run.typeOf_dict
end
noncomputable def AscE : Int → List DictEntry → Prop
  | _, [] => True
  | b, e :: r => b < e.hash ∧ (∃ i u, e.key = .int i u) ∧ AscE e.hash r
theorem ascE_A : ∀ (ps : List (Int × Str)) (b : Int) (t : Nat), asc b ps = true → AscE b (entsA t ps)
  | [], _, _, _ => trivial
  | x :: r, b, t, h => ⟨(asc_cons h).1, ⟨x.1, t, rfl⟩, ascE_A r _ _ (asc_cons h).2.2⟩
theorem ascE_B : ∀ (ps : List (Int × Str)) (b : Int) (t : Nat), asc b ps = true → AscE b (entsB t ps)
  | [], _, _, _ => trivial
  | x :: r, b, t, h => ⟨(asc_cons h).1, ⟨x.1, t, rfl⟩, ascE_B r _ _ (asc_cons h).2.2⟩
noncomputable abbrev mergeBody (d a : Addr) (epoch : Nat) : Nat → PUnit.{1} → Sem (ForInStep PUnit.{1}) := fun i r => do
  let some e := (← dictEntries a)[i]? | do
    unsupported "dict.changed-during-merge"
    pure (ForInStep.yield PUnit.unit)
  holding [e.key, e.val] do
    if false then
      if (← dictFind d e.key e.hash).isSome then rule "dict.merge.duplicate-key"; raiseNew (← newExc (.type "KeyError") [e.key])
    dictPut d e.hash e.key e.val
  if (← dictEpoch a) != epoch then unsupported "dict.changed-during-merge"
  pure (ForInStep.yield PUnit.unit)
theorem merge_one {l2 : List Obj} {es sub : List DictEntry} {n m t k : Nat} {p : Pos} {b : Int} {e : DictEntry} (hl : 11 ≤ l1.length) (he : sub.toArray[k]? = some e) (hk : ∃ i u, e.key = .int i u) (lo : Low es b) (hb : b < e.hash) (hs : es.length ≤ 1000) :
    Run w (mergeBody l1.length (l1.length + (l2.length + 1)) m k PUnit.unit) (hp (l1 ++ dObj es n :: (l2 ++ [dObj sub m])) f) t p 6 (.yield PUnit.unit) (hp (l1 ++ dObj (es ++ [e]) (n + 1) :: (l2 ++ [dObj sub m])) f) t p := by
  obtain ⟨i, u, hk⟩ := hk
  unfold mergeBody
  refine Run.bind' (B := 1) (B' := 5) Run.dictEntries_sub ?_
  rw [he]
  dsimp only
  refine Run.bind' (B := 4) (B' := 1) (a := ()) (h' := hp (l1 ++ dObj (es ++ [e]) (n + 1) :: (l2 ++ [dObj sub m])) f) (t' := t) (p' := p) (Run.holding ?_) ?_
  · rw [if_neg (by decide)]
    have e1 : e = ⟨e.hash, .int i u, e.val⟩ := by rw [← hk]
    rw [hk]
    have := Run.dictPut (w := w) (f := f) (l1 := l1) (l2 := l2 ++ [dObj sub m]) (t := t) (p := p) (es := es) (n := n) (i := i) (u := u) (h := e.hash) (v := e.val) hl hs (lo.ne hb)
    rw [← e1] at this
    exact this
  · refine Run.bind' (B := 1) (B' := 0) Run.dictEpoch_sub ?_
    rw [if_neg (by simp)]
    exact Run.pure
theorem merge_loop {l2 : List Obj} {m t : Nat} {p : Pos} (hl : 11 ≤ l1.length) : ∀ (rest pre : List DictEntry) (es : List DictEntry) (n : Nat) (b : Int), AscE b rest → Low es b → es.length + rest.length ≤ 1000 →
    Run w (forIn (List.range' pre.length rest.length) PUnit.unit (mergeBody l1.length (l1.length + (l2.length + 1)) m)) (hp (l1 ++ dObj es n :: (l2 ++ [dObj (pre ++ rest) m])) f) t p (6 * rest.length) PUnit.unit
      (hp (l1 ++ dObj (es ++ rest) (n + rest.length) :: (l2 ++ [dObj (pre ++ rest) m])) f) t p
  | [], pre, es, n, b, _, _, _ => by
    rw [List.append_nil, List.append_nil]
    exact Run.forIn_nil
  | e :: r, pre, es, n, b, ha, lo, hs => by
    obtain ⟨a1, a2, a3⟩ := ha
    rw [List.length_cons, List.range'_succ, show 6 * (r.length + 1) = 6 + 6 * r.length by (first | lia | omega)]
    have he : (pre ++ e :: r).toArray[pre.length]? = some e := by simp
    refine Run.forIn_cons (merge_one hl he a2 lo a1 (by simp only [List.length_cons] at hs; (first | lia | omega))) ?_
    have := merge_loop (l2 := l2) (m := m) (t := t) (p := p) hl r (pre ++ [e]) (es ++ [e]) (n + 1) e.hash a3 (lo.snoc (by (first | lia | omega)) (Int.le_refl _)) (by simp only [List.length_append, List.length_cons, List.length_nil] at hs ⊢; (first | lia | omega))
    have e1 : pre ++ [e] ++ r = pre ++ e :: r := by simp
    have e2 : es ++ [e] ++ r = es ++ e :: r := by simp
    have e3 : n + 1 + r.length = n + (r.length + 1) := by (first | lia | omega)
    have e4 : (pre ++ [e]).length = pre.length + 1 := by simp
    rw [e1, e2, e3, e4] at this
    exact this
theorem merge_run {l2 : List Obj} {es sub : List DictEntry} {n m t : Nat} {p : Pos} {b : Int} (hl : 11 ≤ l1.length) (ha : AscE b sub) (lo : Low es b) (hne : es ≠ []) (hs : es.length + sub.length ≤ 1000) :
    Run w (mergeMapping l1.length (.ref (l1.length + (l2.length + 1))) false) (hp (l1 ++ dObj es n :: (l2 ++ [dObj sub m])) f) t p (6 * sub.length + 5) () (hp (l1 ++ dObj (es ++ sub) (n + sub.length) :: (l2 ++ [dObj sub m])) f) t p := by
  unfold mergeMapping
  have hin : Run w (isInstance (.ref (l1.length + (l2.length + 1))) (.type "dict")) (hp (l1 ++ dObj es n :: (l2 ++ [dObj sub m])) f) t p 1 true (hp (l1 ++ dObj es n :: (l2 ++ [dObj sub m])) f) t p := by
    unfold isInstance
    refine Run.bind' (B := 1) (B' := 0) Run.typeOf_sub ?_
    rw [sub_dict_dict]
    exact Run.pure
  have hit : Run w (specialOf (.ref (l1.length + (l2.length + 1))) "__iter__") (hp (l1 ++ dObj es n :: (l2 ++ [dObj sub m])) f) t p 1 (some (.builtin "dict.__iter__")) (hp (l1 ++ dObj es n :: (l2 ++ [dObj sub m])) f) t p := by
    unfold specialOf
    refine Run.bind' (B := 1) (B' := 0) Run.typeOf_sub ?_
    rw [iter_of_dict]
    exact Run.pure
  rw [show 6 * sub.length + 5 = 1 + (1 + (0 + (1 + (1 + (1 + (6 * sub.length + 0)))))) by (first | lia | omega)]
  refine Run.bind' hin ?_
  rw [if_pos rfl]
  refine Run.bind' hit ?_
  refine Run.bind' Run.pure ?_
  rw [show (some (Value.builtin "dict.__iter__") == some (Value.builtin "dict.__iter__")) = true from by decide]
  dsimp only
  rw [if_neg (by rw [beq_iff_eq]; intro e; have e9 : (l1.length + (l2.length + 1) : Nat) = 1 := e; (first | lia | omega))]
  refine Run.bind' Run.dictEntries ?_
  rw [if_neg (by simpa using hne)]
  refine Run.bind' Run.dictEntries_sub ?_
  refine Run.bind' Run.dictEpoch_sub ?_
  have := merge_loop (w := w) (l1 := l1) (f := f) (l2 := l2) (m := m) (t := t) (p := p) hl sub [] es n b ha lo hs
  rw [List.nil_append, List.length_nil] at this
  rw [List.size_toArray, List.range_eq_range']
  exact Run.bind' this Run.pure
end
end Mine

end
section
open PySem PySem.W PyProof.Rows
set_option maxRecDepth 100000
namespace Mine
noncomputable def it (q : Pos) (x : Int × Str) : Option (Sem Value) × Sem Value := (some (item q x).1, (item q x).2)
noncomputable def flushD (run : List (Sem Value × Sem Value)) (main : Option Addr) : Sem (Option Addr) :=
  if run.isEmpty = true then pure main
  else
    match main with
    | none => do
      let x ← subDict run
      pure (some x)
    | some d => do
      let sub ← holding [Value.ref d] (subDict run)
      (holding [Value.ref d, Value.ref sub] (mergeMapping d (Value.ref sub) false)).onRaise fun x => do
          let _ ← holding [Value.ref d, x] (runValue (Code.builtin "proto.let_go" { }))
          pure ()
      pure (some d)
noncomputable abbrev DSt := Option Addr × List (Sem Value × Sem Value)
noncomputable abbrev DBody := Option (Sem Value) × Sem Value → DSt → Sem (ForInStep DSt)
noncomputable def Good (F : DBody) : Prop := ∀ k v main run, F (some k, v) (main, run) =
  if ((run ++ [(k, v)]).length == 17) = true then (do
    let main ← flushD (run ++ [(k, v)]) main
    pure (ForInStep.yield (main, []))) else pure (ForInStep.yield (main, run ++ [(k, v)]))
section
variable {w : World} {F : DBody} {q : Pos}
theorem skip_run (hF : Good F) {main : Option Addr} {rest : List (Option (Sem Value) × Sem Value)} {r : DSt} {h h' : Heap} {t t' B : Nat} {p p' : Pos} : ∀ (xs : List (Int × Str)) (run : List (Sem Value × Sem Value)), run.length + xs.length < 17 →
    Run w (forIn rest (main, run ++ xs.map (item q)) F) h t p B r h' t' p' → Run w (forIn (xs.map (it q) ++ rest) (main, run) F) h t p B r h' t' p'
  | [], run, _, k => by
    rw [List.map_nil, List.append_nil] at k
    exact k
  | x :: xs, run, hl, k => by
    rw [List.map_cons, List.cons_append, show B = 0 + B by (first | lia | omega)]
    have e : F (it q x) (main, run) = Sem.pure (ForInStep.yield (main, run ++ [item q x])) := by
      unfold it
      rw [hF, if_neg (by simp only [List.length_append, List.length_cons, List.length_nil, beq_iff_eq] at hl ⊢; (first | lia | omega))]
      rfl
    refine Run.forIn_cons (b' := (main, run ++ [item q x])) (h' := h) (t' := t) (p' := p) (by rw [e]; exact Run.pure) ?_
    refine skip_run hF xs (run ++ [item q x]) (by simp only [List.length_append, List.length_cons, List.length_nil] at hl ⊢; (first | lia | omega)) ?_
    rw [List.map_cons] at k
    rw [List.append_assoc]
    exact k
theorem chunk_run (hF : Good F) {main main' : Option Addr} {rest : List (Option (Sem Value) × Sem Value)} {r : DSt} {h h' h'' : Heap} {t t' t'' B B' : Nat} {p p' p'' : Pos} {c : List (Int × Str)} (hc : c.length = 17)
    (hfl : Run w (flushD (c.map (item q)) main) h t p B main' h' t' p') (k : Run w (forIn rest (main', []) F) h' t' p' B' r h'' t'' p'') :
    Run w (forIn (c.map (it q) ++ rest) (main, []) F) h t p (B + B') r h'' t'' p'' := by
  have hne : c ≠ [] := by intro e; subst e; cases hc
  obtain ⟨ys, z, rfl⟩ : ∃ ys z, c = ys ++ [z] := ⟨c.dropLast, c.getLast hne, (List.dropLast_concat_getLast hne).symm⟩
  have hy : ys.length = 16 := by simp only [List.length_append, List.length_cons, List.length_nil] at hc; (first | lia | omega)
  rw [List.map_append, List.append_assoc]
  refine skip_run hF ys [] (by simp [hy]) ?_
  rw [List.map_cons, List.map_nil, List.nil_append, List.cons_append, List.nil_append]
  refine Run.forIn_cons (b' := (main', [])) (h' := h') (t' := t') (p' := p') ?_ k
  have e : F (it q z) (main, ys.map (item q)) = (flushD ((ys ++ [z]).map (item q)) main).bind fun main => Sem.pure (ForInStep.yield (main, [])) := by
    unfold it
    rw [hF, if_pos (by simp [hy]), List.map_append]
    rfl
  rw [e, show B = B + 0 by (first | lia | omega)]
  exact Run.bind hfl Run.pure
theorem entsA_app : ∀ (a b : List (Int × Str)) (t : Nat), entsA t (a ++ b) = entsA t a ++ entsA (t + 3 * a.length) b
  | [], b, t => by simp [entsA]
  | x :: a, b, t => by
    simp only [List.cons_append, entsA, entsA_app a b, List.length_cons]
    rw [show t + 3 + 3 * a.length = t + 3 * (a.length + 1) by (first | lia | omega)]
theorem top_low : ∀ (ps : List (Int × Str)) (b : Int) (es : List DictEntry) (t : Nat), asc b ps = true → Low es b → Low (es ++ entsA t ps) (top b ps)
  | [], b, es, t, _, lo => by simpa [entsA, top] using lo
  | x :: r, b, es, t, h, lo => by
    obtain ⟨a1, a2, a3⟩ := asc_cons h
    have := top_low r x.1 (es ++ [entE x t (t + 1)]) (t + 3) a3 (lo.snoc (by (first | lia | omega)) (Int.le_refl _))
    rw [List.append_assoc] at this
    exact this
theorem asc_app : ∀ (a b : List (Int × Str)) (k : Int), asc k (a ++ b) = true → asc k a = true ∧ asc (top k a) b = true
  | [], b, k, h => ⟨rfl, h⟩
  | x :: a, b, k, h => by
    rw [List.cons_append] at h
    obtain ⟨a1, a2, a3⟩ := asc_cons h
    obtain ⟨i1, i2⟩ := asc_app a b x.1 a3
    refine ⟨?_, i2⟩
    unfold asc
    rw [i1]
    simp only [Bool.and_true, Bool.and_eq_true, decide_eq_true_eq]
    exact ⟨a1, a2⟩
theorem top_ge : ∀ (a : List (Int × Str)) (k : Int), asc k a = true → k ≤ top k a
  | [], k, _ => Int.le_refl _
  | x :: a, k, h => by
    obtain ⟨a1, a2, a3⟩ := asc_cons h
    have := top_ge a x.1 a3
    show k ≤ top x.1 a
    (first | lia | omega)
theorem top_app : ∀ (a b : List (Int × Str)) (k : Int), top k (a ++ b) = top (top k a) b
  | [], b, k => rfl
  | x :: a, b, k => top_app a b x.1
section
variable {l1 : List Obj} {f : Life}
theorem flush_more {l2 : List Obj} {es : List DictEntry} {n t : Nat} {p : Pos} {b : Int} {c : List (Int × Str)} (hc : c.length = 17) (hl : 11 ≤ l1.length) (ha : asc b c = true) (hb : 0 ≤ b) (lo : Low es b) (hne : es ≠ []) (hs : es.length + 17 ≤ 1000) :
    Run w (flushD (c.map (item q)) (some l1.length)) (hp (l1 ++ dObj es n :: l2) f) t p 330 (some l1.length) (hp (l1 ++ dObj (es ++ entsA t c) (n + 17) :: (l2 ++ [dObj (entsA t c) 17])) f) (t + 51) q := by
  have hcn : c ≠ [] := by intro e; subst e; cases hc
  unfold flushD
  rw [if_neg (by simpa using hcn)]
  dsimp only
  have s1 := sub_long (w := w) (f := f) (q := q) (p := p) (t := t) (l1 := l1 ++ dObj es n :: l2) (ps := c) (b := b) (by simp; (first | lia | omega)) ha hb (by (first | lia | omega)) (by (first | lia | omega))
  rw [hc, hp_len, show t + 3 * 17 = t + 51 by (first | lia | omega)] at s1
  refine Run.mono (B := (13 * 17 + 2) + ((6 * 17 + 5) + 0)) ?_ (by (first | lia | omega))
  refine Run.bind' (Run.holding s1) ?_
  have m1 := merge_run (w := w) (f := f) (l1 := l1) (l2 := l2) (es := es) (n := n) (sub := entsA t c) (m := 17) (t := t + 51) (p := q) (b := b) hl (ascE_A c b t ha) lo hne (by rw [entsA_len, hc]; exact hs)
  rw [entsA_len, hc] at m1
  rw [List.append_assoc, List.cons_append]
  exact Run.bind' (Run.onRaise (Run.holding m1)) Run.pure
theorem flush_last {l2 : List Obj} {es : List DictEntry} {n t : Nat} {p : Pos} {b : Int} {c : List (Int × Str)} (hc : c.length ≤ 15) (hcn : c ≠ []) (hl : 11 ≤ l1.length) (ha : asc b c = true) (hb : 0 ≤ b) (lo : Low es b) (hne : es ≠ []) (hs : es.length + 15 ≤ 1000) :
    Run w (flushD (c.map (item q)) (some l1.length)) (hp (l1 ++ dObj es n :: l2) f) t p 330 (some l1.length) (hp (l1 ++ dObj (es ++ entsB t c) (n + c.length) :: (l2 ++ [dObj (entsB t c) c.length])) f) (t + 3 * c.length) q := by
  have elen : (entsB t c).length = c.length := by
    have : ∀ (ps : List (Int × Str)) (t : Nat), (entsB t ps).length = ps.length := by
      intro ps
      induction ps with
      | nil => intro t; rfl
      | cons x r ih => intro t; simp [entsB, ih]
    exact this c t
  unfold flushD
  rw [if_neg (by simpa using hcn)]
  dsimp only
  have s1 := sub_short (w := w) (f := f) (q := q) (p := p) (t := t) (l1 := l1 ++ dObj es n :: l2) (ps := c) (b := b) (by simp; (first | lia | omega)) ha hb hc hcn
  rw [hp_len] at s1
  refine Run.mono (B := (13 * c.length + 1) + ((6 * c.length + 5) + 0)) ?_ (by (first | lia | omega))
  refine Run.bind' (Run.holding s1) ?_
  have m1 := merge_run (w := w) (f := f) (l1 := l1) (l2 := l2) (es := es) (n := n) (sub := entsB t c) (m := c.length) (t := t + 3 * c.length) (p := q) (b := b) hl (ascE_B c b t ha) lo hne (by rw [elen]; (first | lia | omega))
  rw [elen] at m1
  rw [List.append_assoc, List.cons_append]
  exact Run.bind' (Run.onRaise (Run.holding m1)) Run.pure
theorem flush_first {t : Nat} {p : Pos} {b : Int} {c : List (Int × Str)} (hc : c.length = 17) (hl : 11 ≤ l1.length) (ha : asc b c = true) (hb : 0 ≤ b) :
    Run w (flushD (c.map (item q)) none) (hp l1 f) t p 330 (some l1.length) (hp (l1 ++ dObj (entsA t c) 17 :: []) f) (t + 51) q := by
  have hcn : c ≠ [] := by intro e; subst e; cases hc
  unfold flushD
  rw [if_neg (by simpa using hcn)]
  dsimp only
  have s1 := sub_long (w := w) (f := f) (q := q) (p := p) (t := t) (l1 := l1) (ps := c) (b := b) hl ha hb (by (first | lia | omega)) (by (first | lia | omega))
  rw [hc, show t + 3 * 17 = t + 51 by (first | lia | omega)] at s1
  refine Run.mono (B := (13 * 17 + 2) + 0) ?_ (by (first | lia | omega))
  exact Run.bind' s1 Run.pure
theorem chunks_run (hF : Good F) (hl : 11 ≤ l1.length) {rest : List (Option (Sem Value) × Sem Value)} {r : DSt} {h'' : Heap} {t'' B' : Nat} {p'' : Pos} : ∀ (cs : List (List (Int × Str))) (es : List DictEntry) (l2 : List Obj) (n t : Nat) (b : Int) (p : Pos),
    (∀ c ∈ cs, c.length = 17) → asc b cs.flatten = true → 0 ≤ b → Low es b → es ≠ [] → es.length + 17 * cs.length ≤ 1000 → p = q →
    Run w (forIn rest (some l1.length, []) F) (hp (l1 ++ dObj (es ++ entsA t cs.flatten) (n + 17 * cs.length) :: (l2 ++ subs t cs)) f) (t + 51 * cs.length) q B' r h'' t'' p'' →
    Run w (forIn (cs.flatten.map (it q) ++ rest) (some l1.length, []) F) (hp (l1 ++ dObj es n :: l2) f) t p (330 * cs.length + B') r h'' t'' p''
  | [], es, l2, n, t, b, p, _, _, _, _, _, _, hp', k => by
    subst hp'
    simp only [List.flatten_nil, entsA, subs, List.append_nil, List.length_nil, Nat.mul_zero, Nat.add_zero] at k
    simp only [List.flatten_nil, List.map_nil, List.nil_append, List.length_nil, Nat.mul_zero, Nat.zero_add]
    exact k
  | c :: cs, es, l2, n, t, b, p, hc, ha, hb, lo, hne, hs, hp', k => by
    rw [List.flatten_cons] at ha ⊢
    obtain ⟨a1, a2⟩ := asc_app _ _ _ ha
    have hc1 := hc c (.head _)
    rw [List.map_append, List.append_assoc, show 330 * (c :: cs).length + B' = 330 + (330 * cs.length + B') by simp only [List.length_cons]; (first | lia | omega)]
    simp only [List.length_cons] at hs
    refine chunk_run hF hc1 (flush_more hc1 hl a1 hb lo hne (by (first | lia | omega))) ?_
    refine chunks_run hF hl cs (es ++ entsA t c) (l2 ++ [dObj (entsA t c) 17]) (n + 17) (t + 51) (top b c) q (fun x hx => hc x (.tail _ hx)) a2 (by have := top_ge c b a1; (first | lia | omega)) (top_low c b es t a1 lo) (by simp [hne]) (by simp only [List.length_append, entsA_len, hc1]; (first | lia | omega)) rfl ?_
    have e1 : es ++ entsA t c ++ entsA (t + 51) cs.flatten = es ++ entsA t (c ++ cs.flatten) := by rw [entsA_app, hc1, List.append_assoc]
    have e2 : n + 17 + 17 * cs.length = n + 17 * (c :: cs).length := by simp only [List.length_cons]; (first | lia | omega)
    have e3 : t + 51 + 51 * cs.length = t + 51 * (c :: cs).length := by simp only [List.length_cons]; (first | lia | omega)
    have e4 : l2 ++ [dObj (entsA t c) 17] ++ subs (t + 51) cs = l2 ++ subs t (c :: cs) := by simp [subs]
    rw [e1, e2, e3, e4]
    rw [List.flatten_cons] at k
    exact k
theorem display_run {c : List (Int × Str)} {cs : List (List (Int × Str))} {last : List (Int × Str)} {t : Nat} {p : Pos} (hl : 11 ≤ l1.length) (hc : c.length = 17) (hcs : ∀ x ∈ cs, x.length = 17) (h4 : last.length ≤ 15) (hln : last ≠ [])
    (ha : asc 0 (c ++ cs.flatten ++ last) = true) (hs : 17 * cs.length + 40 ≤ 1000) :
    Run w (dictDisplay ((c ++ cs.flatten ++ last).map (it q))) (hp l1 f) t p (330 * cs.length + 660) (.ref l1.length)
      (hp (l1 ++ dObj (entsA t (c ++ cs.flatten) ++ entsB (t + 51 * (cs.length + 1)) last) (17 * (cs.length + 1) + last.length) :: (subs (t + 51) cs ++ [dObj (entsB (t + 51 * (cs.length + 1)) last) last.length])) f) (t + 51 * (cs.length + 1) + 3 * last.length) q := by
  have hall := ha
  obtain ⟨a12, a3⟩ := asc_app _ _ _ ha
  obtain ⟨a1, a2⟩ := asc_app _ _ _ a12
  have ge1 := top_ge c 0 a1
  have ge2 := top_ge cs.flatten _ a2
  have hflen : cs.flatten.length = 17 * cs.length := by
    clear ha a12 a3 a2 ge2 hs hall
    induction cs with
    | nil => rfl
    | cons x xs ih => rw [List.flatten_cons, List.length_append, hcs x (.head _), ih (fun y hy => hcs y (.tail _ hy)), List.length_cons]; (first | lia | omega)
  unfold dictDisplay
  dsimp only
  refine Run.mono (B := (330 + (330 * cs.length + 0)) + (330 + 0)) ?_ (by (first | lia | omega))
  refine Run.bind' (a := (some l1.length, last.map (item q))) (h' := hp (l1 ++ dObj (entsA t (c ++ cs.flatten)) (17 * (cs.length + 1)) :: subs (t + 51) cs) f) (t' := t + 51 * (cs.length + 1)) (p' := q) ?_ ?_
  · rw [List.append_assoc, List.map_append, List.map_append]
    have hF : ∀ {G : DBody}, (∀ k v main run, G (some k, v) (main, run) =
        if ((run ++ [(k, v)]).length == 17) = true then (do
          let main ← flushD (run ++ [(k, v)]) main
          pure (ForInStep.yield (main, []))) else pure (ForInStep.yield (main, run ++ [(k, v)]))) → Good G := fun e => e
    refine chunk_run (hF fun k v main run => rfl) hc (flush_first hc hl a1 (Int.le_refl 0)) ?_
    refine chunks_run (hF fun k v main run => rfl) hl cs (entsA t c) [] 17 (t + 51) (top 0 c) q hcs a2 (by (first | lia | omega)) (by simpa using top_low c 0 [] t a1 (fun _ h => nomatch h)) (by intro e; have := entsA_len c t; rw [e, hc] at this; cases this) (by rw [entsA_len, hc]; (first | lia | omega)) rfl ?_
    rw [List.nil_append, show t + 51 + 51 * cs.length = t + 51 * (cs.length + 1) by (first | lia | omega), show 17 + 17 * cs.length = 17 * (cs.length + 1) by (first | lia | omega)]
    have e1 : entsA t c ++ entsA (t + 51) cs.flatten = entsA t (c ++ cs.flatten) := by rw [entsA_app, hc]
    rw [e1]
    rw [← List.append_nil (last.map (it q))]
    exact skip_run (hF fun k v main run => rfl) last [] (by simp only [List.length_nil]; (first | lia | omega)) Run.forIn_nil
  · dsimp only
    have fl := flush_last (w := w) (q := q) (l1 := l1) (f := f) (l2 := subs (t + 51) cs) (es := entsA t (c ++ cs.flatten)) (n := 17 * (cs.length + 1)) (t := t + 51 * (cs.length + 1)) (p := q) (b := top (top 0 c) cs.flatten) (c := last) h4 hln hl
      (by rw [top_app] at a3; exact a3) (by (first | lia | omega)) (by rw [← top_app]; simpa using top_low (c ++ cs.flatten) 0 [] t a12 (fun _ h => nomatch h)) (by intro e; have := entsA_len (c ++ cs.flatten) t; rw [e, List.length_append, hc] at this; simp at this; (first | lia | omega))
      (by rw [entsA_len, List.length_append, hc, hflen]; (first | lia | omega))
    exact Run.bind' fl Run.pure
end
end
end Mine

end
section
open PySem PySem.W PyProof.Rows
set_option maxRecDepth 100000
namespace Mine
noncomputable section
noncomputable def T24b (P : Params) : BT := (.node (boot_o_0 P) (.node (boot_o_1 P) (.node (o3v24 P) (.node (boot_o_7 P) (.node (o15 P) (.node (o31 P) (.node (o63 P) (.node (o127 P) .nil .nil) (.node (oB 32 P) .nil .nil)) (.node (o95 P) (.node (oB 0 P) .nil .nil) .nil)) (.node (o47 P) (.node (o79 P) (.node (o143 P) .nil .nil) .nil) (.node (o111 P) (.node (oB 16 P) .nil .nil) .nil))) (.node (o23 P) (.node (o39 P) (.node (o71 P) (.node (o135 P) .nil .nil) .nil) (.node (o103 P) (.node (oB 8 P) .nil .nil) .nil)) (.node (o55 P) (.node (o87 P) (.node (o151 P) .nil .nil) .nil) (.node (o119 P) (.node (oB 24 P) .nil .nil) .nil)))) (.node (o11 P) (.node (o19 P) (.node (o35 P) (.node (o67 P) (.node (o131 P) .nil .nil) (.node (oB 36 P) .nil .nil)) (.node (o99 P) (.node (oB 4 P) .nil .nil) .nil)) (.node (o51 P) (.node (o83 P) (.node (o147 P) .nil .nil) .nil) (.node (o115 P) (.node (oB 20 P) .nil .nil) .nil))) (.node (o27 P) (.node (o43 P) (.node (o75 P) (.node (o139 P) .nil .nil) .nil) (.node (o107 P) (.node (oB 12 P) .nil .nil) .nil)) (.node (o59 P) (.node (o91 P) (.node (o155 P) .nil .nil) .nil) (.node (o123 P) (.node (oB 28 P) .nil .nil) .nil))))) (.node (boot_o_5 P) (.node (boot_o_9 P) (.node (o17 P) (.node (o33 P) (.node (o65 P) (.node (o129 P) .nil .nil) (.node (oB 34 P) .nil .nil)) (.node (o97 P) (.node (oB 2 P) .nil .nil) .nil)) (.node (o49 P) (.node (o81 P) (.node (o145 P) .nil .nil) .nil) (.node (o113 P) (.node (oB 18 P) .nil .nil) .nil))) (.node (o25 P) (.node (o41 P) (.node (o73 P) (.node (o137 P) .nil .nil) .nil) (.node (o105 P) (.node (oB 10 P) .nil .nil) .nil)) (.node (o57 P) (.node (o89 P) (.node (o153 P) .nil .nil) .nil) (.node (o121 P) (.node (oB 26 P) .nil .nil) .nil)))) (.node (o13 P) (.node (o21 P) (.node (o37 P) (.node (o69 P) (.node (o133 P) .nil .nil) (.node (oB 38 P) .nil .nil)) (.node (o101 P) (.node (oB 6 P) .nil .nil) .nil)) (.node (o53 P) (.node (o85 P) (.node (o149 P) .nil .nil) .nil) (.node (o117 P) (.node (oB 22 P) .nil .nil) .nil))) (.node (o29 P) (.node (o45 P) (.node (o77 P) (.node (o141 P) .nil .nil) .nil) (.node (o109 P) (.node (oB 14 P) .nil .nil) .nil)) (.node (o61 P) (.node (o93 P) (.node (o157 P) .nil .nil) .nil) (.node (o125 P) (.node (oB 30 P) .nil .nil) .nil)))))) (.node (boot_o_2 P) (.node (boot_o_4 P) (.node (boot_o_8 P) (.node (o16 P) (.node (o32 P) (.node (o64 P) (.node (o128 P) .nil .nil) (.node (oB 33 P) .nil .nil)) (.node (o96 P) (.node (oB 1 P) .nil .nil) .nil)) (.node (o48 P) (.node (o80 P) (.node (o144 P) .nil .nil) .nil) (.node (o112 P) (.node (oB 17 P) .nil .nil) .nil))) (.node (o24 P) (.node (o40 P) (.node (o72 P) (.node (o136 P) .nil .nil) .nil) (.node (o104 P) (.node (oB 9 P) .nil .nil) .nil)) (.node (o56 P) (.node (o88 P) (.node (o152 P) .nil .nil) .nil) (.node (o120 P) (.node (oB 25 P) .nil .nil) .nil)))) (.node (o12v24 P) (.node (o20 P) (.node (o36 P) (.node (o68 P) (.node (o132 P) .nil .nil) (.node (oB 37 P) .nil .nil)) (.node (o100 P) (.node (oB 5 P) .nil .nil) .nil)) (.node (o52 P) (.node (o84 P) (.node (o148 P) .nil .nil) .nil) (.node (o116 P) (.node (oB 21 P) .nil .nil) .nil))) (.node (o28 P) (.node (o44 P) (.node (o76 P) (.node (o140 P) .nil .nil) .nil) (.node (o108 P) (.node (oB 13 P) .nil .nil) .nil)) (.node (o60 P) (.node (o92 P) (.node (o156 P) .nil .nil) .nil) (.node (o124 P) (.node (oB 29 P) .nil .nil) .nil))))) (.node (boot_o_6 P) (.node (boot_o_10 P) (.node (o18 P) (.node (o34 P) (.node (o66 P) (.node (o130 P) .nil .nil) (.node (oB 35 P) .nil .nil)) (.node (o98 P) (.node (oB 3 P) .nil .nil) .nil)) (.node (o50 P) (.node (o82 P) (.node (o146 P) .nil .nil) .nil) (.node (o114 P) (.node (oB 19 P) .nil .nil) .nil))) (.node (o26 P) (.node (o42 P) (.node (o74 P) (.node (o138 P) .nil .nil) .nil) (.node (o106 P) (.node (oB 11 P) .nil .nil) .nil)) (.node (o58 P) (.node (o90 P) (.node (o154 P) .nil .nil) .nil) (.node (o122 P) (.node (oB 27 P) .nil .nil) .nil)))) (.node (o14 P) (.node (o22 P) (.node (o38 P) (.node (o70 P) (.node (o134 P) .nil .nil) .nil) (.node (o102 P) (.node (oB 7 P) .nil .nil) .nil)) (.node (o54 P) (.node (o86 P) (.node (o150 P) .nil .nil) .nil) (.node (o118 P) (.node (oB 23 P) .nil .nil) .nil))) (.node (o30 P) (.node (o46 P) (.node (o78 P) (.node (o142 P) .nil .nil) .nil) (.node (o110 P) (.node (oB 15 P) .nil .nil) .nil)) (.node (o62 P) (.node (o94 P) (.node (o158 P) .nil .nil) .nil) (.node (o126 P) (.node (oB 31 P) .nil .nil) .nil)))))))
noncomputable def S24b (w : World) (os : OsState) : SharedT := ⟨T24b w.params, 198, lf w.params, Array.mk [], boot_drawn, 2384, os⟩
noncomputable def np : Pos := ⟨108, 0, 108, 13⟩
noncomputable def dp : Pos := dictPos (stAt 24)
noncomputable def ap : Pos := ⟨108, 0, 108, 8704⟩
theorem st25 : sts25 = [.Assign [.Name (Str.ofString "b3_exceptions") np] (.Dict (keysOf (stAt 24)) (valsOf (stAt 24)) dp) ap] := by kernel_rfl
theorem eval_Dict (ks vs pos) (env : Env) : eval (.Dict ks vs pos) env = (do standAt pos; dictDisplay ((evalEachOpt ks env).zip ((evalEach vs env).map fun v => do let x ← v; standAt pos; pure x))) := rfl
theorem items25 : (evalEachOpt (keysOf (stAt 24)) envE).zip ((evalEach (valsOf (stAt 24)) envE).map fun v => do let x ← v; standAt dp; pure x) = b3P.map (it dp) := by kernel_rfl
theorem split25 : b3P = b3c ++ b3cs.flatten ++ b3l := by kernel_rfl
theorem asc25 : asc 0 b3P = true := by kernel_rfl
theorem len25c : b3c.length = 17 := by kernel_rfl
theorem len25l : b3l.length = 4 := by kernel_rfl
theorem len25cs : b3cs.length = 37 := by kernel_rfl
theorem all25 : (b3cs.all fun x => x.length == 17) = true := by kernel_rfl
theorem tail25 (w : World) (os : OsState) (K : Flow → Sem PySem.Fin) (H : Value → Sem PySem.Fin) (gd : Bool → Bool) (lv : List Value → List Value) :
    segGoT treeTable pw w 11 (some (.ref 6)) 1 7 (S24b w os) ⟨(do standAt np; bindName envE (Str.ofString "b3_exceptions") (.ref 159); pure Flow.next : Sem Flow).wrap K H gd lv, cE, dp, [topFrame p0]⟩ =
      some (S25 w os, ⟨K .next, cE, pos25, [topFrame p0]⟩) := by kernel_rfl
theorem base_len (P : Params) : ((T24 P).list 159).length = 159 := by simp [BT.list]
theorem heap25 (P : Params) : absHeap (T24b P) 198 (lf P) = hp ((T24 P).list 159 ++ b3O) (lf P) := by kernel_rfl
theorem run25 (w : World) : Run w (execs sts25 envE) (absHeap (T24 w.params) 159 (lf w.params)) 434 pos24 13000 Flow.next (absHeap (T25 w.params) 198 (lf w.params)) 2385 pos25 := by
  rw [st25, PySem.execs_cons]
  refine Run.mono (B := (1 + ((1 + (330 * 37 + 660)) + 7)) + 0) ?_ (by omega)
  refine Run.bind' (a := Flow.next) (h' := absHeap (T25 w.params) 198 (lf w.params)) (t' := 2385) (p' := pos25) ?_ Run.pure
  rw [PySem.exec_Assign_Name _ _ _ _ _ rfl]
  refine Run.bind' Run.standAt ?_
  refine Run.bind' (a := .ref 159) (h' := absHeap (T24b w.params) 198 (lf w.params)) (t' := 2384) (p' := dp) ?_ ?_
  · rw [eval_Dict]
    refine Run.bind' Run.standAt ?_
    rw [items25, split25]
    have d := display_run (w := w) (q := dp) (l1 := (T24 w.params).list 159) (f := lf w.params) (c := b3c) (cs := b3cs) (last := b3l) (t := 434) (p := dp) (by rw [base_len]; omega) len25c
      (fun x hx => by have := List.all_eq_true.mp all25 x hx; simpa using this) (by rw [len25l]; omega) (by intro e; have := len25l; rw [e] at this; cases this) (by rw [← split25]; exact asc25) (by rw [len25cs]; omega)
    rw [base_len, len25cs, len25l] at d
    rw [heap25]
    exact d
  · intro K H gd lv os
    exact ⟨7, Nat.le_refl _, segGo_of (tail25 w os K H gd lv)⟩
end
end Mine

end
section
open PySem PySem.W PyProof.Rows
set_option maxRecDepth 100000
set_option maxHeartbeats 0
namespace Mine
noncomputable section
noncomputable def segT (w : World) (n : Nat) (s : SharedT) (l : List Stmt) (p : Pos) (s' : SharedT) (p' : Pos) : Prop := segRun treeTable pw w 11 (some (.ref 6)) 1 n s.abs (piecesOf l envE cE p [topFrame p0]) = some (.next, s'.abs, cE, p')
theorem seg25 (w : World) (os : OsState) : ∃ n, n ≤ 13001 ∧ segT w n (S24 w os) sts25 pos24 (S25 w os) pos25 := by
  obtain ⟨n, hn, e⟩ := run25 w doneF deadEnd id id os
  refine ⟨n + 1, by omega, ?_⟩
  exact seg_go e rfl
theorem fin36 (w : World) (os : OsState) : topRun treeTable pw w 11 (some (.ref 6)) 2 (S36 w os).abs ⟨doneF .next, cE, pos36, [topFrame p0]⟩ = some (S36 w os).abs := by kernel_rfl
theorem body36 : bE = sts9 ++ (sts22 ++ (sts23 ++ (sts24 ++ (sts25 ++ (sts26 ++ (sts27 ++ (sts36 ++ []))))))) := by kernel_rfl
theorem topAll (w : World) (os : OsState) : topRun treeTable pw w 11 (some (.ref 6)) 20000 ⟨boot_heap w.params, Array.mk [], boot_drawn, boot_toks, os⟩ (topStub pw) = some (S36 w os).abs := by
  obtain ⟨n, hn, e25⟩ := seg25 w os
  have k0 := piece_nil (env := envE) (q := p0) (fin36 w os)
  have k1 := piece_app (segRun_of (seg36 w os)) k0
  have k2 := piece_app (segRun_of (seg27 w os)) k1
  have k3 := piece_app (segRun_of (seg26 w os)) k2
  have k4 := piece_app e25 k3
  have k5 := piece_app (segRun_of (seg24 w os)) k4
  have k6 := piece_app (segRun_of (seg23 w os)) k5
  have k7 := piece_app (segRun_of (seg22 w os)) k6
  have k8 := piece_app (segRun_of (seg9 w os)) k7
  rw [← body36] at k8
  have k9 := piece_block (blk0 w os) k8
  have k10 := go_top (pre0 w os) k9
  have m := topRun_mono (20000 - (12 + (1 + (238 + (368 + (999 + (30 + (n + (31 + (361 + (286 + 2))))))))))) _ _ _ _ k10
  rw [show 12 + (1 + (238 + (368 + (999 + (30 + (n + (31 + (361 + (286 + 2))))))))) + (20000 - (12 + (1 + (238 + (368 + (999 + (30 + (n + (31 + (361 + (286 + 2))))))))))) = 20000 by omega] at m
  exact m
noncomputable def vwB : List Stmt := ([35] : List Nat).filterMap fun i => pw.main.body[i]?
noncomputable def vw : Program := { pw with main := { pw.main with body := vwB } }
noncomputable def lo : List Str := [Str.ofString "b1_set", Str.ofString "b3_exceptions", Str.ofString "c7_set", Str.ofString "_div2n1n", Str.ofString "_div3n2n", Str.ofString "_int2digits", Str.ofString "_digits2int", Str.ofString "_divmod_pos", Str.ofString "int_divmod", Str.ofString "add", Str.ofString "and_", Str.ofString "inv", Str.ofString "lshift", Str.ofString "mul", Str.ofString "neg", Str.ofString "or_", Str.ofString "sub", Str.ofString "xor", Str.ofString "iadd", Str.ofString "imul", Str.ofString "ixor", Str.ofString "in_table_b1", Str.ofString "map_table_b3", Str.ofString "in_table_c7", Str.ofString "_law_drawn", Str.ofString "_law_read", Str.ofString "_law_told", Str.ofString "_law_plain", Str.ofString "_law_rest", Str.ofString "_law_parted", Str.ofString "_DIV_LIMIT"]
noncomputable abbrev row : RowW := PySem.Challenge.rw_wb0084_01.row.toRowW
noncomputable def H1 (P : Params) : Heap := absHeap (T36 P) 264 (lf P)
noncomputable def K : Params → Frag := fun P => (nat_lit 2, boot_o_2 P) :: (nat_lit 3, o3v36 P) :: (nat_lit 20, o20 P) :: (nat_lit 21, o21 P) :: (nat_lit 27, o27 P) :: (nat_lit 28, o28 P) :: (nat_lit 34, o34 P) :: (nat_lit 35, o35 P) :: (nat_lit 41, o41 P) :: (nat_lit 42, o42 P) :: (nat_lit 48, o48 P) :: (nat_lit 49, o49 P) :: (nat_lit 55, o55 P) :: (nat_lit 56, o56 P) :: (nat_lit 62, o62 P) :: (nat_lit 63, o63 P) :: (nat_lit 69, o69 P) :: (nat_lit 70, o70 P) :: (nat_lit 76, o76 P) :: (nat_lit 77, o77 P) :: (nat_lit 83, o83 P) :: (nat_lit 84, o84 P) :: (nat_lit 90, o90 P) :: (nat_lit 91, o91 P) :: (nat_lit 97, o97 P) :: (nat_lit 98, o98 P) :: (nat_lit 104, o104 P) :: (nat_lit 105, o105 P) :: (nat_lit 111, o111 P) :: (nat_lit 112, o112 P) :: (nat_lit 118, o118 P) :: (nat_lit 119, o119 P) :: (nat_lit 125, o125 P) :: (nat_lit 126, o126 P) :: (nat_lit 132, o132 P) :: (nat_lit 133, o133 P) :: (nat_lit 139, o139 P) :: (nat_lit 140, o140 P) :: (nat_lit 148, o148 P) :: (nat_lit 157, o157 P) :: (nat_lit 158, o158 P) :: (nat_lit 159, oB 0 P) :: (nat_lit 203, o203 P) :: (nat_lit 204, o204 P) :: (nat_lit 206, o206 P) :: (nat_lit 215, o215 P) :: (nat_lit 216, o216 P) :: (nat_lit 222, o222 P) :: (nat_lit 223, o223 P) :: (nat_lit 229, o229 P) :: (nat_lit 230, o230 P) :: (nat_lit 236, o236 P) :: (nat_lit 237, o237 P) :: (nat_lit 243, o243 P) :: (nat_lit 244, o244 P) :: (nat_lit 250, o250 P) :: (nat_lit 251, o251 P) :: (nat_lit 257, o257 P) :: (nat_lit 258, o258 P) :: (nat_lit 262, o262 P) :: (nat_lit 263, o263 P) :: []
noncomputable def Kas : List Addr := 2 :: 3 :: 20 :: 21 :: 27 :: 28 :: 34 :: 35 :: 41 :: 42 :: 48 :: 49 :: 55 :: 56 :: 62 :: 63 :: 69 :: 70 :: 76 :: 77 :: 83 :: 84 :: 90 :: 91 :: 97 :: 98 :: 104 :: 105 :: 111 :: 112 :: 118 :: 119 :: 125 :: 126 :: 132 :: 133 :: 139 :: 140 :: 148 :: 157 :: 158 :: 159 :: 203 :: 204 :: 206 :: 215 :: 216 :: 222 :: 223 :: 229 :: 230 :: 236 :: 237 :: 243 :: 244 :: 250 :: 251 :: 257 :: 258 :: 262 :: 263 :: []
theorem KasE (P : Params) : Kas = (K P).map (·.1) := by kernel_rfl
noncomputable def HK : Hook := kmHook K Kas KasE [30, 37]
theorem open0 : ∀ w : World, (fencedOpening treeTable pw w 29786).map (fun s => (s.heap, s.gens, s.drawn, s.toks)) = some (boot_heap w.params, Array.mk [], boot_drawn, boot_toks) :=
  boot_open (p := pw) (N := 29786) (by kernel_rfl) (by kernel_rfl) (fun s => by kernel_rfl)
theorem size0 (w : World) : ((boot_heap w.params).isNs mainGlobals && (Array.mk [] : Array GenState).size == 0, (boot_heap w.params).objs.size, (boot_heap w.params).nsMap mainGlobals "__annotations__") = (true, 11, some (.ref 6)) := by kernel_rfl
noncomputable abbrev XtT : Shared → Bool := fun s => xlAt vw [] s && recOk (RowW.records row) s
theorem looks0 (w : World) : (fun os => ((staticsOk (importedModules pw.main.body) (boot_heap w.params) (H1 w.params) && namesBound pw (H1 w.params) && gensDone ⟨H1 w.params, Array.mk [], boot_drawn, 2525, os⟩ && laidKept (boot_heap w.params) (H1 w.params)),
        openSeen vw lo (importedModules pw.main.body) XtT true ⟨H1 w.params, Array.mk [], boot_drawn, 2525, os⟩, HK.obs ⟨H1 w.params, Array.mk [], boot_drawn, 2525, os⟩)) = fun _ => (true, openGood vw lo, HK.val w) := by kernel_rfl
theorem left0 : LeftO pw vw lo XtT HK.obs HK.val 29786 :=
  LeftO.of_pieces (H₁ := H1) (m₀ := 11) (ann := some (.ref 6)) (M := 20000) open0 size0 topAll (by kernel_rfl) looks0
end
end Mine

end
section
open PySem PySem.W
namespace Mine
/-- the figures of x to the base 2 ^ n, the lowest first -/
noncomputable def dig (n : Nat) : Nat → Nat → List Int
  | 0, _ => []
  | k + 1, x => ((x % 2 ^ n : Nat) : Int) :: dig n k (x / 2 ^ n)
theorem dig_len (n : Nat) : ∀ k x, (dig n k x).length = k
  | 0, _ => rfl
  | k + 1, x => by simp [dig, dig_len n k]
theorem dig_app (n j : Nat) : ∀ i x, dig n (i + j) x = dig n i (x % 2 ^ (n * i)) ++ dig n j (x / 2 ^ (n * i))
  | 0, x => by simp [dig, Nat.mod_one]
  | i + 1, x => by
    rw [show i + 1 + j = (i + j) + 1 by (first | lia | omega)]
    unfold dig
    rw [dig_app n j i]
    have e1 : x % 2 ^ (n * (i + 1)) % 2 ^ n = x % 2 ^ n := by
      rw [Nat.mul_succ, Nat.pow_add]
      exact Nat.mod_mul_left_mod _ _ _
    have e2 : x % 2 ^ (n * (i + 1)) / 2 ^ n = x / 2 ^ n % 2 ^ (n * i) := by
      rw [Nat.mul_succ, Nat.pow_add, Nat.mul_comm]
      exact Nat.mod_mul_right_div_self _ _ _
    have e3 : x / 2 ^ n / 2 ^ (n * i) = x / 2 ^ (n * (i + 1)) := by
      rw [Nat.div_div_eq_div_mul, ← Nat.pow_add, Nat.mul_succ, Nat.add_comm]
    rw [e1, e2, e3]
    cases j <;> simp [dig]
/-- the number that figures tell -/
noncomputable def undig (n : Nat) : List Int → Int
  | [] => 0
  | d :: r => d + 2 ^ n * undig n r
theorem undig_dig (n : Nat) : ∀ k x, x < 2 ^ (n * k) → undig n (dig n k x) = x
  | 0, x, h => by simp at h; subst h; rfl
  | k + 1, x, h => by
    have hlt : x / 2 ^ n < 2 ^ (n * k) := by
      rw [Nat.div_lt_iff_lt_mul (Nat.pow_pos (by decide)), ← Nat.pow_add]
      rw [Nat.mul_succ] at h
      exact h
    show ((x % 2 ^ n : Nat) : Int) + 2 ^ n * undig n (dig n k (x / 2 ^ n)) = x
    rw [undig_dig n k _ hlt]
    have := Nat.mod_add_div x (2 ^ n)
    have e : ((x % 2 ^ n + 2 ^ n * (x / 2 ^ n) : Nat) : Int) = (x : Int) := by rw [this]
    rw [← e]
    simp
theorem and_low (a s : Nat) : a &&& (a / 2 ^ s * 2 ^ s) = a / 2 ^ s * 2 ^ s := by
  apply Nat.eq_of_testBit_eq
  intro i
  rw [Nat.testBit_and, Nat.testBit_mul_two_pow, Nat.testBit_div_two_pow]
  by_cases h : s ≤ i
  · simp [h, Nat.sub_add_cancel h]
  · simp [h]
theorem xor_low (x : Int) (s : Nat) (hx : 0 ≤ x) : Builtin.bitXor x (x.fdiv (2 ^ s) * 2 ^ s) = ((x.toNat % 2 ^ s : Nat) : Int) := by
  obtain ⟨a, rfl⟩ := Int.eq_ofNat_of_zero_le hx
  have e : (a : Int).fdiv (2 ^ s) * 2 ^ s = ((a / 2 ^ s * 2 ^ s : Nat) : Int) := by
    rw [show ((2 : Int) ^ s) = ((2 ^ s : Nat) : Int) by simp, Int.fdiv_eq_ediv_of_nonneg _ (Int.natCast_nonneg _)]
    simp
  rw [e, PyProof.Rows.bitXor_and]
  have e2 : Builtin.bitAnd (a : Int) ((a / 2 ^ s * 2 ^ s : Nat) : Int) = ((a / 2 ^ s * 2 ^ s : Nat) : Int) := by
    unfold Builtin.bitAnd
    rw [decide_eq_true (by (first | lia | omega)), decide_eq_true (by (first | lia | omega))]
    show ((a &&& (a / 2 ^ s * 2 ^ s) : Nat) : Int) = _
    rw [and_low]
  rw [e2]
  have := Nat.mod_add_div a (2 ^ s)
  have h3 : a / 2 ^ s * 2 ^ s + a % 2 ^ s = a := by rw [Nat.mul_comm]; (first | lia | omega)
  simp only [Int.toNat_natCast]
  (first | lia | omega)
theorem fdiv_pow (x : Int) (s : Nat) (hx : 0 ≤ x) : x.fdiv (2 ^ s) = ((x.toNat / 2 ^ s : Nat) : Int) := by
  obtain ⟨a, rfl⟩ := Int.eq_ofNat_of_zero_le hx
  rw [show ((2 : Int) ^ s) = ((2 ^ s : Nat) : Int) by simp, Int.fdiv_eq_ediv_of_nonneg _ (Int.natCast_nonneg _)]
  simp
theorem mid_eq (l r : Int) : (l + r).fdiv (2 ^ Int.toNat 1) = (l + r) / 2 := by
  rw [show ((2 : Int) ^ Int.toNat 1) = 2 by decide]
  exact Int.fdiv_eq_ediv_of_nonneg _ (by decide)
/-- one split of the figures -/
theorem dig_split (n i j x : Nat) : dig n (i + j) x = dig n i (x % 2 ^ (n * i)) ++ dig n j (x / 2 ^ (n * i)) := dig_app n j i x
theorem take_mid {ns d e : List Int} {l m r : Nat} (hl : l ≤ ns.length) (hd : d.length = m - l) (hm : l ≤ m) (hmr : m ≤ r) (hr : r ≤ ns.length) :
    (ns.take l ++ d ++ ns.drop m).take m ++ e ++ (ns.take l ++ d ++ ns.drop m).drop r = ns.take l ++ (d ++ e) ++ ns.drop r := by
  have h1 : (ns.take l ++ d).length = m := by simp; (first | lia | omega)
  rw [List.take_append_of_le_length (by (first | lia | omega)), List.take_of_length_le (by (first | lia | omega))]
  have h2 : (ns.take l ++ d ++ ns.drop m).drop r = ns.drop r := by
    rw [List.drop_append, h1, List.drop_eq_nil_of_le (by (first | lia | omega)), List.nil_append, List.drop_drop]
    congr 1
    (first | lia | omega)
  rw [h2]
  simp
end Mine

end
section
open PySem PySem.W
namespace Mine
theorem cnt_facts {a n : Int} (h0 : 0 ≤ a) (h1 : a.natAbs < 2 ^ 200) (hn : 1 ≤ n) :
    0 ≤ (↑(Builtin.Int.intBits a) + n - 1).fdiv n ∧ (↑(Builtin.Int.intBits a) + n - 1).fdiv n ≤ 300 ∧ (a = 0 → (↑(Builtin.Int.intBits a) + n - 1).fdiv n = 0) ∧ (a ≠ 0 → 1 ≤ (↑(Builtin.Int.intBits a) + n - 1).fdiv n) ∧
    a.toNat < 2 ^ (n.toNat * ((↑(Builtin.Int.intBits a) + n - 1).fdiv n).toNat) := by
  have hb : Builtin.Int.intBits a ≤ 200 := intBits_le_iff.mpr h1
  have e : ∀ z : Int, z.fdiv n = z / n := fun z => Int.fdiv_eq_ediv_of_nonneg _ (by (first | lia | omega))
  rw [e]
  have hz : 0 ≤ (↑(Builtin.Int.intBits a) + n - 1) := by (first | lia | omega)
  have q0 : 0 ≤ (↑(Builtin.Int.intBits a) + n - 1) / n := Int.ediv_nonneg hz (by (first | lia | omega))
  have hm := Int.mul_ediv_add_emod (↑(Builtin.Int.intBits a) + n - 1) n
  have r0 := Int.emod_nonneg (↑(Builtin.Int.intBits a) + n - 1) (show n ≠ 0 by (first | lia | omega))
  have r1 := Int.emod_lt_of_pos (↑(Builtin.Int.intBits a) + n - 1) (show 0 < n by (first | lia | omega))
  refine ⟨q0, ?_, ?_, ?_, ?_⟩
  · apply Int.le_of_lt_add_one
    apply Int.ediv_lt_of_lt_mul (by (first | lia | omega))
    have : n * 300 + n ≥ 300 + n := by (first | lia | omega)
    rw [Int.add_mul, Int.one_mul, Int.mul_comm]
    (first | lia | omega)
  · intro ha
    subst ha
    have : Builtin.Int.intBits 0 = 0 := rfl
    rw [this]
    exact Int.ediv_eq_zero_of_lt (by (first | lia | omega)) (by (first | lia | omega))
  · intro ha
    have hp : 1 ≤ Builtin.Int.intBits a := by
      rcases Nat.eq_zero_or_pos (Builtin.Int.intBits a) with h | h
      · exfalso
        have := (intBits_le_iff (m := 0) (x := a)).mp (by (first | lia | omega))
        (first | lia | omega)
      · exact h
    apply Int.le_ediv_of_mul_le (by (first | lia | omega))
    (first | lia | omega)
  · have h2 := (intBits_le_iff (m := Builtin.Int.intBits a) (x := a)).mp (Nat.le_refl _)
    have h3 : Builtin.Int.intBits a ≤ n.toNat * ((↑(Builtin.Int.intBits a) + n - 1) / n).toNat := by
      have h4 : (↑(Builtin.Int.intBits a) : Int) ≤ n * ((↑(Builtin.Int.intBits a) + n - 1) / n) := by (first | lia | omega)
      have h5 : ((n.toNat * ((↑(Builtin.Int.intBits a) + n - 1) / n).toNat : Nat) : Int) = n * ((↑(Builtin.Int.intBits a) + n - 1) / n) := by
        rw [Int.natCast_mul, Int.toNat_of_nonneg (by (first | lia | omega)), Int.toNat_of_nonneg q0]
      (first | lia | omega)
    have h6 : a.toNat = a.natAbs := by (first | lia | omega)
    rw [h6]
    exact Nat.lt_of_lt_of_le h2 (Nat.pow_le_pow_right (by decide) h3)
theorem undig_app (n : Nat) : ∀ xs ys, undig n (xs ++ ys) = undig n xs + 2 ^ (n * xs.length) * undig n ys
  | [], ys => by simp [undig]
  | x :: xs, ys => by
    show x + 2 ^ n * undig n (xs ++ ys) = x + 2 ^ n * undig n xs + 2 ^ (n * (xs.length + 1)) * undig n ys
    rw [undig_app n xs ys, Nat.mul_succ, Int.mul_add, Nat.add_comm (n * xs.length) n, Int.pow_add, Int.mul_assoc]
    (first | lia | omega)
theorem undig_bd (n : Nat) : ∀ xs : List Int, (∀ d ∈ xs, 0 ≤ d ∧ d < 2 ^ n) → 0 ≤ undig n xs ∧ undig n xs < 2 ^ (n * xs.length)
  | [], _ => by simp [undig]
  | x :: xs, h => by
    obtain ⟨a, b⟩ := undig_bd n xs fun d hd => h d (.tail _ hd)
    obtain ⟨c, d⟩ := h x (.head _)
    show 0 ≤ x + 2 ^ n * undig n xs ∧ x + 2 ^ n * undig n xs < 2 ^ (n * (xs.length + 1))
    have p : (0 : Int) < 2 ^ n := Int.pow_pos (by decide)
    have m0 := Int.mul_nonneg (Int.le_of_lt p) a
    have m1 : 2 ^ n * (undig n xs + 1) ≤ 2 ^ n * 2 ^ (n * xs.length) := Int.mul_le_mul_of_nonneg_left (by (first | lia | omega)) (Int.le_of_lt p)
    rw [Int.mul_add, Int.mul_one] at m1
    rw [Nat.mul_succ, Nat.add_comm (n * xs.length) n, Int.pow_add]
    (first | lia | omega)
noncomputable def seg (ns : List Int) (l r : Int) : List Int := (ns.drop l.toNat).take (r - l).toNat
theorem seg_len {ns : List Int} {l r : Int} (h0 : 0 ≤ l) (h1 : l ≤ r) (h2 : r ≤ ns.length) : (seg ns l r).length = (r - l).toNat := by
  unfold seg
  rw [List.length_take, List.length_drop]
  refine Nat.min_eq_left ?_
  refine Int.toNat_le.mpr ?_
  rw [Int.ofNat_sub (Int.toNat_le.mpr (Int.le_trans h1 h2)), Int.toNat_of_nonneg h0]
  exact Int.sub_le_sub_right h2 l
theorem seg_split {ns : List Int} {l m r : Int} (h0 : 0 ≤ l) (h1 : l ≤ m) (h2 : m ≤ r) : seg ns l r = seg ns l m ++ seg ns m r := by
  unfold seg
  rw [show r - l = (m - l) + (r - m) by omega, Int.toNat_add (Int.sub_nonneg_of_le h1) (Int.sub_nonneg_of_le h2), List.take_add, List.drop_drop, ← Int.toNat_add h0 (Int.sub_nonneg_of_le h1), show l + (m - l) = m by omega]
theorem seg_one {ns : List Int} {l : Int} (h0 : 0 ≤ l) (h1 : l < ns.length) : seg ns l (l + 1) = [ns[l.toNat]'(by (first | lia | omega))] := by
  unfold seg
  rw [show (l + 1 - l).toNat = 1 by (first | lia | omega), List.drop_eq_getElem_cons (by (first | lia | omega))]
  rfl
theorem seg_all {ns : List Int} : seg ns 0 ns.length = ns := by
  simp [seg]
theorem seg_mem {ns : List Int} {l r : Int} {d : Int} (h : d ∈ seg ns l r) : d ∈ ns := List.mem_of_mem_drop (List.mem_of_mem_take h)
/-- the whole segment between l and r, by halves -/
theorem seg_undig (n : Nat) {ns : List Int} {l r : Int} (h0 : 0 ≤ l) (h1 : l + 1 < r) (h2 : r ≤ ns.length) :
    undig n (seg ns ((l + r) / 2) r) * 2 ^ (n * ((l + r) / 2 - l).toNat) + undig n (seg ns l ((l + r) / 2)) = undig n (seg ns l r) := by
  rw [seg_split (l := l) (r := r) (m := (l + r) / 2) h0 (by (first | lia | omega)) (by (first | lia | omega)), undig_app, seg_len h0 (by (first | lia | omega)) (by (first | lia | omega)), Int.mul_comm]
  (first | lia | omega)
theorem tn_sub9 {m l : Int} (h0 : 0 ≤ l) (h1 : l ≤ m) : (m - l).toNat = m.toNat - l.toNat := by
  have e := Int.toNat_add (Int.sub_nonneg_of_le h1) h0
  rw [Int.sub_add_cancel] at e
  rw [e, Nat.add_sub_cancel]
theorem len_mid9 {l m : Int} {N : Nat} (h0 : 0 ≤ l) (h1 : l ≤ m) (h2 : m ≤ N) : min l.toNat N + (m - l).toNat + (N - m.toNat) = N := by
  rw [Nat.min_eq_left (Int.toNat_le.mpr (Int.le_trans h1 h2)), ← Int.toNat_add h0 (Int.sub_nonneg_of_le h1), Int.add_comm, Int.sub_add_cancel, Nat.add_sub_cancel' (Int.toNat_le.mpr h2)]
theorem tn_add9 {l m r : Int} (h1 : l ≤ m) (h2 : m ≤ r) : (m - l).toNat + (r - m).toNat = (r - l).toNat := by
  rw [← Int.toNat_add (Int.sub_nonneg_of_le h1) (Int.sub_nonneg_of_le h2), show m - l + (r - m) = r - l by omega]
theorem mid5 {l r : Int} (h1 : l + 1 < r) : l < (l + r) / 2 ∧ (l + r) / 2 < r := ⟨by (first | lia | omega), by (first | lia | omega)⟩
theorem in5 {l r : Int} {k N : Nat} (h0 : 0 ≤ l) (h1 : l < r) (hne : l + 1 ≠ r) (h2 : r ≤ N) (h3 : r - l ≤ ((k + 1 : Nat) : Int)) :
    (l + 1 < r ∧ 0 ≤ (l + r) / 2 ∧ l < (l + r) / 2) ∧ (l + r) / 2 < r ∧ (l + r) / 2 ≤ N ∧ (l + r) / 2 - l ≤ k ∧ r - (l + r) / 2 ≤ k := by
  have a : l + 1 < r := Int.lt_iff_le_and_ne.mpr ⟨h1, hne⟩
  obtain ⟨b, c⟩ := mid5 a
  have d : (l + r) / 2 - l ≤ k := by (first | lia | omega)
  have e : r - (l + r) / 2 ≤ k := by (first | lia | omega)
  exact ⟨⟨a, Int.le_trans h0 (Int.le_of_lt b), b⟩, c, Int.le_trans (Int.le_of_lt c) h2, d, e⟩
theorem mul5 {l r n : Int} {N : Nat} (hn : 1 ≤ n) (hn1 : n ≤ 200) (hN : N ≤ 300) (h0 : 0 ≤ l) (h1 : l < r) (h2 : r ≤ N) : 0 ≤ ((l + r) / 2 - l) * n ∧ ((l + r) / 2 - l) * n ≤ 60000 := by
  have a : 0 ≤ (l + r) / 2 - l := by (first | lia | omega)
  have b : (l + r) / 2 - l ≤ 300 := by (first | lia | omega)
  have n0 : 0 ≤ n := Int.le_trans (by decide) hn
  exact ⟨Int.mul_nonneg a n0, Int.le_trans (Int.mul_le_mul b hn1 n0 (by decide)) (by decide)⟩
theorem add5 {b : Nat} {x : Int} (h1 : b ≤ 60000) (h2 : x ≤ 60000) : (b : Int) + x ≤ 2 ^ 27 := Int.le_trans (Int.add_le_add (Int.ofNat_le.mpr h1) h2) (by decide)
theorem abs5 {u : Int} {p : Nat} (u0 : 0 ≤ u) (u1 : u < (p : Int)) : u.natAbs < p := by (first | lia | omega)
theorem dif5 {l r : Int} {N : Nat} (hN : N ≤ 300) (h0 : 0 ≤ l) (h1 : l < r) (h2 : r ≤ N) : (-2 ^ 64 < (l + r) / 2 - l ∧ (l + r) / 2 - l < 2 ^ 64) := ⟨by (first | lia | omega), by (first | lia | omega)⟩
theorem low5 {l r : Int} {N : Nat} (hN : N ≤ 300) (h1 : l < r) (h2 : r ≤ N) : l < 2 ^ 63 ∧ l < N := ⟨by (first | lia | omega), Int.lt_of_lt_of_le h1 h2⟩
theorem mulr5 {l r n : Int} {N : Nat} (hn : 1 ≤ n) (hn1 : n ≤ 200) (hN : N ≤ 300) (h0 : 0 ≤ l) (h1 : l < r) (h2 : r ≤ N) : (n * (r - l)).toNat ≤ 60000 := by
  have a : 0 ≤ r - l := by (first | lia | omega)
  have b : r - l ≤ 300 := by (first | lia | omega)
  exact Int.toNat_le.mpr (Int.le_trans (Int.mul_le_mul hn1 b a (by decide)) (by decide))
theorem absn5 {x : Int} {p : Nat} (h : 0 ≤ x) (h1 : x.toNat < p) : x.natAbs < p := by (first | lia | omega)
end Mine

end
section
open PySem PySem.W
namespace Mine
theorem dig_bd (n : Nat) : ∀ k x, ∀ d ∈ dig n k x, 0 ≤ d ∧ d < 2 ^ n
  | 0, _, d, h => by simp [dig] at h
  | k + 1, x, d, h => by
    rcases List.mem_cons.mp h with rfl | h
    · refine ⟨Int.natCast_nonneg _, ?_⟩
      have := Nat.mod_lt x (Nat.pow_pos (n := n) (show 0 < 2 by decide))
      have e : ((2 : Int) ^ n) = ((2 ^ n : Nat) : Int) := by simp
      rw [e]
      (first | lia | omega)
    · exact dig_bd n k _ d h
structure DInv (N : Nat) (a b : Int) (ks qd : List Int) (rr : Int) : Prop where
  kb : ∀ k ∈ ks, 0 ≤ k ∧ k < 2 ^ N
  qb : ∀ d ∈ qd, 0 ≤ d ∧ d < 2 ^ N
  r0 : 0 ≤ rr
  r1 : rr < b
  eq : a = undig N ks.reverse + 2 ^ (N * ks.length) * (b * undig N qd.reverse + rr)
  len : qd.length + ks.length ≤ 300
theorem DInv.init {N : Nat} {a b : Int} {ds : List Int} (hb : 0 < b) (h : undig N ds = a) (hd : ∀ d ∈ ds, 0 ≤ d ∧ d < 2 ^ N) (hl : ds.length ≤ 300) : DInv N a b ds.reverse [] 0 :=
  ⟨fun k hk => hd k (List.mem_reverse.mp hk), (fun _ h => nomatch h), Int.le_refl 0, hb, by simp [h, undig], by simp; (first | lia | omega)⟩
theorem DInv.step {N : Nat} {a b k rr : Int} {ks qd : List Int} (hb : b < 2 ^ N) (D : DInv N a b (k :: ks) qd rr) : DInv N a b ks (qd ++ [(rr * 2 ^ N + k).fdiv b]) ((rr * 2 ^ N + k).fmod b) := by
  obtain ⟨kb, qb, r0, r1, eq, len⟩ := D
  obtain ⟨k0, k1⟩ := kb k (.head _)
  have p : (0 : Int) < 2 ^ N := Int.pow_pos (by decide)
  have hb0 : 0 < b := by (first | lia | omega)
  have hx0 : 0 ≤ rr * 2 ^ N + k := by have := Int.mul_nonneg r0 (Int.le_of_lt p); (first | lia | omega)
  have ediv : (rr * 2 ^ N + k).fdiv b = (rr * 2 ^ N + k) / b := Int.fdiv_eq_ediv_of_nonneg _ (by (first | lia | omega))
  have emod : (rr * 2 ^ N + k).fmod b = (rr * 2 ^ N + k) % b := Int.fmod_eq_emod_of_nonneg _ (by (first | lia | omega))
  rw [ediv, emod]
  have hdm := Int.mul_ediv_add_emod (rr * 2 ^ N + k) b
  refine ⟨fun k hk => kb k (.tail _ hk), ?_, Int.emod_nonneg _ (by (first | lia | omega)), Int.emod_lt_of_pos _ hb0, ?_, ?_⟩
  · intro d hd
    rcases List.mem_append.mp hd with hd | hd
    · exact qb d hd
    · rw [List.mem_singleton.mp hd]
      refine ⟨Int.ediv_nonneg hx0 (by (first | lia | omega)), Int.ediv_lt_of_lt_mul hb0 ?_⟩
      have h1 : (rr + 1) * 2 ^ N ≤ b * 2 ^ N := Int.mul_le_mul_of_nonneg_right (by (first | lia | omega)) (Int.le_of_lt p)
      rw [Int.add_mul, Int.one_mul, Int.mul_comm b] at h1
      (first | lia | omega)
  · rw [List.reverse_append, List.reverse_singleton, List.singleton_append]
    show a = undig N ks.reverse + 2 ^ (N * ks.length) * (b * ((rr * 2 ^ N + k) / b + 2 ^ N * undig N qd.reverse) + (rr * 2 ^ N + k) % b)
    rw [List.reverse_cons, undig_app, List.length_reverse, List.length_cons, Nat.mul_succ, Int.pow_add] at eq
    rw [eq]
    have e1 : undig N [k] = k := by simp [undig]
    rw [e1]
    have e2 : b * ((rr * 2 ^ N + k) / b + 2 ^ N * undig N qd.reverse) + (rr * 2 ^ N + k) % b = k + 2 ^ N * (b * undig N qd.reverse + rr) := by
      rw [Int.mul_add, Int.mul_add]
      have : b * (2 ^ N * undig N qd.reverse) = 2 ^ N * (b * undig N qd.reverse) := by rw [← Int.mul_assoc, Int.mul_comm b, Int.mul_assoc]
      have h3 := Int.mul_comm rr (2 ^ N)
      (first | lia | omega)
    rw [e2, Int.mul_add (2 ^ (N * ks.length)) k, ← Int.mul_assoc (2 ^ (N * ks.length)) (2 ^ N), Int.add_assoc]
  · simp at len ⊢; (first | lia | omega)
theorem DInv.xb {N : Nat} {a b k rr : Int} {ks qd : List Int} (D : DInv N a b (k :: ks) qd rr) (hN : N ≤ 190) (hb : b.natAbs < 2 ^ 190) : Builtin.Int.intBits (rr * 2 ^ N + k) ≤ 380 := by
  obtain ⟨k0, k1⟩ := D.kb k (.head _)
  have r0 := D.r0
  have r1 := D.r1
  have p : (0 : Int) < 2 ^ N := Int.pow_pos (by decide)
  have m0 := Int.mul_nonneg r0 (Int.le_of_lt p)
  have h1 : (rr + 1) * 2 ^ N ≤ b * 2 ^ N := Int.mul_le_mul_of_nonneg_right (by (first | lia | omega)) (Int.le_of_lt p)
  rw [Int.add_mul, Int.one_mul] at h1
  have h2 : (2 : Int) ^ N ≤ 2 ^ 190 := by
    have := Nat.pow_le_pow_right (show 0 < 2 by decide) hN
    have e1 : ((2 : Int) ^ N) = ((2 ^ N : Nat) : Int) := by simp
    have e2 : ((2 : Int) ^ 190) = ((2 ^ 190 : Nat) : Int) := by simp
    rw [e1, e2]; (first | lia | omega)
  have h3 : b * 2 ^ N ≤ 2 ^ 190 * 2 ^ 190 := Int.mul_le_mul (by (first | lia | omega)) h2 (Int.le_of_lt p) (by decide)
  refine intBits_le_iff.mpr ?_
  have e3 : (2 : Int) ^ 190 * 2 ^ 190 = ((2 ^ 380 : Nat) : Int) := by decide
  rw [e3] at h3
  (first | lia | omega)
theorem DInv.fin {N : Nat} {a b rr : Int} {qd : List Int} (D : DInv N a b [] qd rr) : undig N qd.reverse = a.fdiv b ∧ rr = a.fmod b := by
  obtain ⟨kb, qb, r0, r1, eq, len⟩ := D
  have hb0 : 0 < b := by (first | lia | omega)
  have e : a = b * undig N qd.reverse + rr := by simpa [undig] using eq
  have e1 : a.fdiv b = a / b := Int.fdiv_eq_ediv_of_nonneg _ (by (first | lia | omega))
  have e2 : a.fmod b = a % b := Int.fmod_eq_emod_of_nonneg _ (by (first | lia | omega))
  rw [e1, e2, e]
  constructor
  · rw [Int.add_comm, Int.add_mul_ediv_left _ _ (by (first | lia | omega)), Int.ediv_eq_zero_of_lt r0 r1]; (first | lia | omega)
  · rw [Int.add_comm, Int.add_mul_emod_self_left, Int.emod_eq_of_lt r0 r1]
end Mine

end
open PySem PySem.W PyProof.Rows PySem.Spec PySem.Calls
namespace Mine
local macro_rules | `(tactic| tb_start) => `(tactic| with_reducible first
  | assumption
  | (apply viaLt; (case h9z => assumption); (case k9z => (intro h9; first | exact h9.1 | exact h9.2.1 | exact h9.2.2.1 | exact h9.2.2.2.1 | exact h9.2.2.2.2.1 | exact h9.2.2.2.2.2.1 | exact h9.2.2.2.2.2.2.1 | exact h9.2.2.2.2.2.2.2.1 | exact h9.2.2.2.2.2.2.2.2.1 | exact h9.2.2.2.2.2.2.2.2.2.1)))
  | apply lt_s9
  | (apply lt_a9; tb_start)
  | (apply viaTr; (case q9z => assumption); (case p9z => tb_start))
  | fail "none")
local macro_rules | `(tactic| tb_rel) => `(tactic| with_reducible first
  | decide
  | (apply ne_lt9; tb_start)
  | (apply ne_gt9; tb_start)
  | apply le_a9
  | apply le_p2
  | apply le_p3
  | (apply le_lt9; tb_start)
  | tb_start
  | (apply room1; (case h9z => assumption))
  | (apply room2; (case h9z => assumption); (case e9z => decide))
  | (apply room3; (case h9z => assumption); (case e9z => decide))
  | (apply roomk; (case h9z => assumption))
  | (apply unitk; (case h9z => assumption))
  | (apply nabs_lt; (case p9z | q9z => assumption); (case e9z => decide))
  | (apply nabs_le; (case p9z | q9z => assumption); (case e9z => decide))
  | (apply nabs_lt2; (case p9z | q9z => assumption); (case e9z => decide))
  | (apply pm_lt; (case h9z => assumption); (case e9z => decide))
  | (apply pm_gt; (case h9z => assumption); (case e9z => decide))
  | (apply ile_lt; (case h9z => assumption); (case e9z => decide))
  | (apply ilt_lt; (case h9z => assumption); (case e9z => decide))
  | (apply ile_le; (case h9z => assumption); (case e9z => decide))
  | (apply ilt_le; (case h9z => assumption); (case e9z => decide))
  | (apply ige_le; (case h9z => assumption); (case e9z => decide))
  | (apply ige_lt; (case h9z => assumption); (case e9z => decide))
  | (apply ige_ne; (case h9z => assumption); (case e9z => decide))
  | (apply nle_le; (case h9z => assumption); (case e9z => decide))
  | (apply nle_lt; (case h9z => assumption); (case e9z => decide))
  | (apply nlt_lt; (case h9z => assumption); (case e9z => decide))
  | fail "none")
local macro_rules | `(tactic| omega) => `(tactic| tb_rel)
local macro_rules | `(tactic| lia) => `(tactic| tb_rel)
section
set_option maxRecDepth 100000
set_option maxHeartbeats 8000000
noncomputable abbrev Mt := ExcName → Option Value
noncomputable abbrev Led := List (Addr × Obj)
/-- the names that the top does not vouch for -/
noncomputable abbrev looseL : List Str := [Str.ofString "b1_set", Str.ofString "b3_exceptions", Str.ofString "c7_set", Str.ofString "_div2n1n", Str.ofString "_div3n2n", Str.ofString "_int2digits", Str.ofString "_digits2int", Str.ofString "_divmod_pos", Str.ofString "int_divmod", Str.ofString "add", Str.ofString "and_", Str.ofString "inv", Str.ofString "lshift", Str.ofString "mul", Str.ofString "neg", Str.ofString "or_", Str.ofString "sub", Str.ofString "xor", Str.ofString "iadd", Str.ofString "imul", Str.ofString "ixor", Str.ofString "in_table_b1", Str.ofString "map_table_b3", Str.ofString "in_table_c7", Str.ofString "_law_drawn", Str.ofString "_law_read", Str.ofString "_law_told", Str.ofString "_law_plain", Str.ofString "_law_rest", Str.ofString "_law_parted", Str.ofString "_DIV_LIMIT", Str.ofString "law"]
/-- the top's facts -/
noncomputable abbrev TopV (mg mb : Str → Option Value) (mean : Mt) (h : Heap) : Prop := Top topProg looseL mean mg mb h
theorem loose_eq : (looseW vw lo ++ List.map (fun x => x.name) (recsOf vw) ++ List.map (fun x => x.fst) (litsOf vw) ++ List.map (fun x => x.name) (clssOf vw (looseW vw lo))) = looseL := by decide +kernel
/-- a call's contract: from the ledger `news`; what it hands back and the ledger behind it is told by Out -/
noncomputable def Cn (w : World) (f : Addr) (d u : Nat) (vs : List Value) (news : Led) (Out : Led → Value → Prop) : Prop :=
  ∀ (mg mb : Str → Option Value) (mean : Mt) (dp un : Nat) (gd : Option (List Code)) (cn : Str) (cs : Scope) (a : Addr) (ccd : Value) (cl : List (Str × Addr)) (outer : List Env) (A₀ : Around) (base h₀ : Heap) (L : Addr) (m : Str → Option Value) (s : Shared)
    (Q E : Value → Shared → Prop),
    Below A₀ base outer h₀ → Fr h₀ L s.heap m → (K w.params).In h₀ → News h₀ L s.heap news → TopV mg mb mean h₀ → cs.kind = .function → CodeHd base 34 30 → CodeHd base 41 37 → dp + d < recursionLimit → un + u < cLine →
    (∀ r news' h' tk', Fr h₀ L h' m → News h₀ L h' news' → Out news' r → Q r { s with heap := h', toks := tk' }) →
    wpAny (model pw w) (ktrTop dp un gd cn cs L a ccd cl outer) (call (.ref f) vs) Q E s
theorem fill0 : (PySem.Challenge.rw_wb0084_01 = PySem.Challenge.rw_wb0084_01) ∧ K = K := by
  k_fill
  exact ⟨rfl, rfl⟩

theorem cn_end {Q : Value → Shared → Prop} {h₀ : Heap} {L : Addr} {m : Str → Option Value} {s : Shared} {Out : Led → Value → Prop} {h' : Heap} {tk' : Nat} {r : Value} {news' : Led}
    (hret : ∀ r news' h' tk', Fr h₀ L h' m → News h₀ L h' news' → Out news' r → Q r { s with heap := h', toks := tk' }) (F : Fr h₀ L h' m) (N : News h₀ L h' news') (o : Out news' r) : Q r { s with heap := h', toks := tk' } := hret r news' h' tk' F N o
/-- a contract used: what comes after is told by an eliminator of its Out, so that no equation is met -/
theorem cn_useE {w : World} {f : Addr} {d u : Nat} {vs : List Value} {news : Led} {Out : Led → Value → Prop} {T : (Led → Value → Prop) → Prop} (C : Cn w f d u vs news Out) (el : ∀ G : Led → Value → Prop, T G → ∀ n v, Out n v → G n v)
    {mg mb : Str → Option Value} {mean : Mt} {dp un : Nat} {gd : Option (List Code)} {cn : Str} {cs : Scope} {a : Addr} {ccd : Value} {cl : List (Str × Addr)} {outer : List Env} {A₀ : Around} {base h₀ : Heap} {L : Addr} {m : Str → Option Value} {s : Shared}
    {Q E : Value → Shared → Prop} (B : Below A₀ base outer h₀) (F : Fr h₀ L s.heap m) (X : (K w.params).In h₀) (N : News h₀ L s.heap news) (TT : TopV mg mb mean h₀) (hk : cs.kind = .function) (c1 : CodeHd base 34 30) (c2 : CodeHd base 41 37) (hd : dp + d < recursionLimit) (hu : un + u < cLine)
    (ret : T fun n v => ∀ h' tk', Fr h₀ L h' m → News h₀ L h' n → Q v { s with heap := h', toks := tk' }) :
    wpAny (model pw w) (ktrTop dp un gd cn cs L a ccd cl outer) (call (.ref f) vs) Q E s := C _ _ _ _ _ _ _ _ _ _ _ _ _ _ _ _ _ _ _ _ B F X N TT hk c1 c2 hd hu fun r n h' tk' F' N' o => el _ ret n r o h' tk' F' N'

end
set_option maxRecDepth 100000
set_option maxHeartbeats 8000000
theorem fill1 : (PySem.Challenge.rw_wb0084_01 = PySem.Challenge.rw_wb0084_01) ∧ K = K := by
  k_fill
  exact ⟨rfl, rfl⟩

theorem low_ne {l l' : Led} {d e : Nat} (h : ∀ p ∈ l', @LT.lt Nat _ p.1 d) (hs : ∀ p ∈ l, p ∈ l') (hd : d ≤ e) : ∀ p ∈ l, @Ne Nat p.1 e := fun p hp q =>
  Nat.ne_of_lt (Nat.lt_of_lt_of_le (h p (hs p hp)) hd) q
theorem code_defL {prog : Program} {w : World} {A A₀ : Around} {s : Shared} {K : Frag} {L : Addr} {h₀ base : Heap} {m mg mb : Str → Option Value} {news : List (Addr × Obj)} {p : Program} {loose : List Str} {mean : ExcName → Option Value}
    {env : Env} {outer : List Env} {R : Result → Shared → Prop} {name qual : Str} {params : Arguments} {body : List Stmt} {scope : Scope} {dV kV doc pm cdv ct oc : Value} {an od : Option Addr} {osl : Array (Option Value)} {f : Addr} {args : Args} {binds : List (Str × Value)}
    (B : Below A₀ base outer h₀) (F : Fr h₀ L s.heap m) (X₀ : K.In h₀) (N : News h₀ L s.heap news) (T : Top p loose mean mg mb h₀) (hA : A.frames = some (env :: outer)) (hf : env.frame = some L) (hke : env.scope.kind = .function)
    (ho : K.lookup f = some ⟨oc, od, .func (fnOf name qual params body scope dV kV doc pm an cdv ct), osl⟩) (hcd : codeIn K cdv qual = true) (hroom : A.depth < recursionLimit)
    (hbind : BindsTo s (fnOf name qual params body scope dV kV doc pm an cdv ct) args binds) (hloc : ∀ y ∈ binds, scope.names.lookup y.1 = some .local)
    (h : ∀ g L' h₁, Fr h₀ L g m → Fr g L' h₁ (fun y => binds.reverse.lookup y) → News g L' h₁ news → Below A base (env :: outer) g → K.In g → Top p loose mean mg mb g → (∀ p ∈ news, p.1 < L') →
      wpAny (model prog w) (A.deeper (envOf qual scope L' f cdv)) (execs body (envOf qual scope L' f cdv))
        (fun fl s' => LeaveK h₀ L m g R (match fl with | .ret v => v | _ => .none) s')
        (fun e s' => wpAny (model prog w) (A.deeper (envOf qual scope L' f cdv)) (leaving (envOf qual scope L' f cdv) e) (fun _ s'' => R (.error e) s'') (fun e' s'' => R (.error e') s'') s')
        { s with heap := h₁, toks := s.toks + binds.length })
    (hco : scope.isCoroutine = false) (hgen : scope.isGenerator = false) (hk : scope.kind = .function)
    (hcell : ∀ x ∈ scope.names, x.2 ≠ .cell) : codeAny (model prog w) A (.call (.ref f) args) R s :=
  callX_plain (cl := []) B F N T.nolimit hA hf hke ((X₀.keeps F.keep) _ _ ho) rfl (codeRec_of (X₀.keeps F.keep) hcd) hroom hbind hloc (fun g L' h₁ FG F' N' B' st l => h g L' h₁ FG F' N' B' (X₀.keeps st) (T.keeps st) l) hcell hco hgen hk
noncomputable abbrev tup2 (x y : Value) : Obj := { cls := .type "tuple", data := .seq #[x, y] }
theorem log2_lt200 {b : Int} (h : b.natAbs < 2 ^ 300) : b.natAbs.log2 < 9000 := by
  by_cases h0 : b.natAbs = 0
  · rw [h0]; decide +kernel
  · have : b.natAbs.log2 < 300 := (Nat.log2_lt h0).mpr h
    omega
theorem divmod_K {w : World} {A : Around} {E : Value → Shared → Prop} {s : Shared} {a b : Int} {t u : Tok} {Q : Value → Shared → Prop} {h₀ : Heap} {L : Addr} {m : Str → Option Value} {news : Led} (F : Fr h₀ L s.heap m) (N : News h₀ L s.heap news) (hb : b ≠ 0) (hs : b.natAbs < 2 ^ 300)
    (h : ∀ D h', Fr h₀ L h' m → News h₀ L h' ((D, tup2 (.int (a.fdiv b) s.toks) (.int (a.fmod b) (s.toks + 1))) :: news) → (∀ p ∈ news, p.1 < D) → Q (.ref D) { s with toks := s.toks + 1 + 1, heap := h' }) :
    wpAny (model pw w) A (call (.builtin "divmod") [.int a t, .int b u]) Q E s :=
  divmod_N F N hb (fun h' F' N' => h _ h' F' N' fun p hp => Heap.lt_size (N p hp).1) (Or.inl (PyProof.noPylong_of_log2 (log2_lt200 hs)))
local macro_rules | `(tactic| k_all) => `(tactic| first | exact List.forall_mem_nil _ | (refine' low_ne ?lh ?ls ?ld; (case lh => assumption); (case ls => (intro p9 h9; repeat (first | exact h9 | refine .tail _ ?_))); (case ld => omega)) | assumption | (refine' List.forall_mem_cons.mpr ⟨?a, ?b⟩; (case a => k_ne); (case b => k_all)))
local macro_rules | `(tactic| ktr_rel) => `(tactic| first
  | (refine' code_defL ?k1 ?k2 ?k3 ?k4 ?k5 ?kA ?kF ?kK ?k6 ?k7 ?k8 ?k9 ?kB ?_ ?c2 ?c3 ?c4 ?c5; (case kA | kF => exact rfl); (case kK => first | assumption | exact rfl); (case k1 | k2 | k3 | k4 | k5 => k_asm); (case k6 | k7 => k_is); (case k8 => ktr_room); (case k9 => exact BindsTo.of_eq rfl); (case c5 => decide); (case kB => exact locs rfl); (case c2 | c3 | c4 => exact rfl); k_whole; intro g' L' h' FG' F' N' B' X' T' l0; (have l1 := l0); (try k_lt l1); (try dsimp only); (try k_lift B'); (try k_fold))
  | (refine' code_defC ?k1 ?k2 ?k3 ?k4 ?k5 ?kA ?kF ?kK ?k6 ?k7 ?k8 ?k9 ?kB ?kD ?_ ?c2 ?c3 ?c4; (case kA | kF => exact rfl); (case kK => first | assumption | exact rfl); (case k1 | k2 | k3 | k4 | k5 => k_asm); (case k6 | k7 => k_is); (case k8 => ktr_room); (case k9 => exact BindsTo.of_eq rfl); (case kB => exact rfl); (case kD => decide +kernel); (case c2 | c3 | c4 => exact rfl); k_whole; intro g' L' h' tk' cells' FG' F' N' Y' B' X' T' l0; (have l1 := l0); (try k_lt l1); k_cells Y'; (try simp only [List.cons_append, List.nil_append] at N'); (try dsimp only); (try k_lift B'); (try k_fold)))
local macro_rules | `(tactic| walk_at "call builtin:divmod") => `(tactic| (k_here; k_dflt (refine divmod_K (by k_asm) (by k_asm) (by omega) (by assumption) ?_); intro D' h' F' N' l1; (try k_lt l1); (try k_sweep)))
noncomputable def OutPair (news : Led) (q r : Int) (n : Led) (v : Value) : Prop :=
  ∀ G : Led → Value → Prop, (∀ D t u, (∀ p ∈ news, @LT.lt Nat _ p.1 D) → G ((D, tup2 (.int q t) (.int r u)) :: news) (.ref D)) → G n v
theorem OutPair.el {news : Led} {q r : Int} (G : Led → Value → Prop) (T : ∀ D t u, (∀ p ∈ news, @LT.lt Nat _ p.1 D) → G ((D, tup2 (.int q t) (.int r u)) :: news) (.ref D)) (n : Led) (v : Value) (o : OutPair news q r n v) : G n v := o G T
theorem OutPair.mk {news : Led} {q r : Int} {n9 : Led} {v9 : Value} (D : Addr) (t : Tok) (u : Tok) (hv : v9 = .ref D) (hn : n9 = (D, tup2 (.int q t) (.int r u)) :: news) (h0 : ∀ p ∈ news, @LT.lt Nat _ p.1 D) : OutPair news q r n9 v9 := by
  subst hv hn; exact fun G9 k9 => k9 D t u h0
theorem d21 (w : World) (a b n : Int) (ta tb tn : Tok) (news : Led) (hbit : ↑(Builtin.Int.intBits a) - n ≤ 4000) (hb : 0 < b) (hs : b.natAbs < 2 ^ 300) : Cn w 21 2 100 [.int a ta, .int b tb, .int n tn] news (OutPair news (a.fdiv b) (a.fmod b)) := by
  unfold Cn
  intro mg mb mean dp un gd cn cs ad ccd cl outer A₀ base h₀ L m s Q E B F X N T hk c1 c2 hd hu hret
  refine wpAny_call ?_
  k_dflt ktr_rel
  k_steps
  all_goals (refine cn_end hret (by k_asm) (by k_asm) (OutPair.mk _ _ _ rfl rfl ?_); assumption)

local macro_rules | `(tactic| walk_at "binaryOp LShift int int") => `(tactic| (k_here; k_dflt (refine' lshift_int ?lh0 ?lhz ?_; (case lh0 | lhz => first | assumption | omega))))
section
local macro_rules | `(tactic| walk_at "no such goal") => `(tactic| skip)
set_option maxRecDepth 100000
set_option maxHeartbeats 8000000
theorem fill2 : (PySem.Challenge.rw_wb0084_01 = PySem.Challenge.rw_wb0084_01) ∧ K = K := by
  k_fill
  exact ⟨rfl, rfl⟩
noncomputable def nthS (l : List Stmt) (i : Nat) : Stmt := (l[i]?).getD (.Pass ⟨0, 0, 0, 0⟩)
@[reducible] noncomputable def iPar4 : Arguments := argsOf (rfl : parOf (nthS (bodyOf (stAt 4)) 1) = ⟨_, _, _, _, _, _, _⟩)
@[reducible] noncomputable def iBody4 : List Stmt := consOf (rfl : bodyOf (nthS (bodyOf (stAt 4)) 1) = _ :: _)
@[reducible] noncomputable def iSco4 : Scope := scopeOf (rfl : scoOf (nthS (bodyOf (stAt 4)) 1) = ⟨_, _, _, _, _⟩)
@[reducible] noncomputable def iPar5 : Arguments := argsOf (rfl : parOf (nthS (bodyOf (stAt 5)) 0) = ⟨_, _, _, _, _, _, _⟩)
@[reducible] noncomputable def iBody5 : List Stmt := consOf (rfl : bodyOf (nthS (bodyOf (stAt 5)) 0) = _ :: _)
@[reducible] noncomputable def iSco5 : Scope := scopeOf (rfl : scoOf (nthS (bodyOf (stAt 5)) 0) = ⟨_, _, _, _, _⟩)
theorem code_nestL {prog : Program} {w : World} {A A₀ : Around} {s : Shared} {K : Frag} {L : Addr} {h₀ base : Heap} {m mg mb : Str → Option Value} {news : List (Addr × Obj)} {p : Program} {loose : List Str} {mean : ExcName → Option Value}
    {env : Env} {outer : List Env} {R : Result → Shared → Prop} {name qual : Str} {params : Arguments} {body : List Stmt} {scope : Scope} {cl : List (Str × Addr)} {doc pm ctv : Value} {c' : Addr} {f : Addr} {args : Args} {binds : List (Str × Value)}
    (B : Below A₀ base outer h₀) (F : Fr h₀ L s.heap m) (X₀ : K.In h₀) (N : News h₀ L s.heap news) (T : Top p loose mean mg mb h₀) (hA : A.frames = some (env :: outer)) (hf : env.frame = some L) (hke : env.scope.kind = .function)
    (ho : (f, fnMade name qual params body scope cl doc pm c' ctv) ∈ news) (hcd : s.heap.CodeRec (.ref c') qual) (hroom : A.depth < recursionLimit)
    (hbind : BindsTo s (fnX name qual params body scope cl .none .none doc pm none (.ref c') ctv) args binds) (hloc : ∀ y ∈ binds, scope.names.lookup y.1 = some .local)
    (h : ∀ g L' h₁, Fr h₀ L g m → Fr g L' h₁ (fun y => binds.reverse.lookup y) → News g L' h₁ news → Below A base (env :: outer) g → K.In g → Top p loose mean mg mb g → (∀ p ∈ news, p.1 < L') →
      wpAny (model prog w) (A.deeper (envX qual scope L' f (.ref c') cl)) (execs body (envX qual scope L' f (.ref c') cl))
        (fun fl s' => LeaveK h₀ L m g R (match fl with | .ret v => v | _ => .none) s')
        (fun e s' => wpAny (model prog w) (A.deeper (envX qual scope L' f (.ref c') cl)) (leaving (envX qual scope L' f (.ref c') cl) e) (fun _ s'' => R (.error e) s'') (fun e' s'' => R (.error e') s'') s')
        { s with heap := h₁, toks := s.toks + binds.length })
    (hco : scope.isCoroutine = false) (hgen : scope.isGenerator = false) (hk : scope.kind = .function)
    (hcell : ∀ x ∈ scope.names, x.2 ≠ .cell) : codeAny (model prog w) A (.call (.ref f) args) R s :=
  callX_plain (cl := cl) B F N T.nolimit hA hf hke (N _ ho).1 rfl hcd hroom hbind hloc (fun g L' h₁ FG F' N' B' st l => h g L' h₁ FG F' N' B' (X₀.keeps st) (T.keeps st) l) hcell hco hgen hk
local macro_rules | `(tactic| ktr_unf) => `(tactic| (refine' code_nestL ?k1 ?k2 ?k3 ?k4 ?k5 ?kA ?kF ?kK ?k6 ?k7 ?k8 ?k9 ?kB ?_ ?c2 ?c3 ?c4 ?c5; (case kA | kF => exact rfl); (case kK => first | assumption | exact rfl); (case k1 | k2 | k3 | k4 | k5 => k_asm); (case k6 => k_mem); (case k7 => exact codeRec_news (by k_asm) (by k_mem) (by assumption) (by assumption)); (case k8 => ktr_room); (case k9 => exact BindsTo.of_eq rfl); (case c5 => decide); (case kB => exact locs rfl); (case c2 | c3 | c4 => exact rfl); k_whole; intro g' L' h' FG' F' N' B' X' T' l0; (try dsimp only); (try k_lift B'); (try k_fold)))
noncomputable abbrev cl4 (cN cI cA : Addr) : List (Str × Addr) := [(Str.ofString "n", cN), (Str.ofString "inner", cI), (Str.ofString "a_digits", cA)]
noncomputable abbrev led4 (f c' cN cI cA D : Addr) (qual : Str) (doc pm ctv : Value) (oc oN oI oA : Obj) (cnt : Nat) (rest : Led) (vs : List Value) : Led :=
  (D, W.listOf vs.toArray cnt) :: (f, fnMade (Str.ofString "inner") qual iPar4 iBody4 iSco4 (cl4 cN cI cA) doc pm c' ctv) :: (c', oc) :: (cI, oI) :: (cA, oA) :: (cN, oN) :: rest
theorem split_arith {l r n : Int} (h0 : 0 ≤ l) (h1 : l + 1 < r) (hn : 1 ≤ n) : l < (l + r) / 2 ∧ (l + r) / 2 < r ∧ (((l + r) / 2 - l) * n).toNat = n.toNat * ((l + r) / 2 - l).toNat ∧ (n * ((l + r) / 2 - l)).toNat = n.toNat * ((l + r) / 2 - l).toNat ∧
    (n * (r - (l + r) / 2)).toNat = n.toNat * (r - (l + r) / 2).toNat ∧ (n * (r - l)).toNat = n.toNat * ((l + r) / 2 - l).toNat + n.toNat * (r - (l + r) / 2).toNat := by
  have a1 : l < (l + r) / 2 := by (first | lia | omega)
  have a2 : (l + r) / 2 < r := by (first | lia | omega)
  obtain ⟨k, hk⟩ := Int.eq_ofNat_of_zero_le (show 0 ≤ n by (first | lia | omega))
  obtain ⟨i, hi⟩ := Int.eq_ofNat_of_zero_le (show 0 ≤ (l + r) / 2 - l by (first | lia | omega))
  obtain ⟨j, hj⟩ := Int.eq_ofNat_of_zero_le (show 0 ≤ r - (l + r) / 2 by (first | lia | omega))
  have e : r - l = ((i + j : Nat) : Int) := by (first | lia | omega)
  rw [hi, hj, e, hk]
  refine ⟨a1, a2, ?_, ?_, ?_, ?_⟩
  · rw [Int.mul_comm, ← Int.natCast_mul]; rfl
  · rw [← Int.natCast_mul]; rfl
  · rw [← Int.natCast_mul]; rfl
  · rw [← Int.natCast_mul, Nat.mul_add]; rfl
theorem Out4.el {A : List Value → Prop} {f : List Value → Led} (G : Led → Value → Prop) (T : ∀ vs', A vs' → G (f vs') .none) (n : Led) (v : Value) (o : v = .none ∧ ∃ vs', A vs' ∧ n = f vs') : G n v := by
  obtain ⟨rfl, vs, h, rfl⟩ := o; exact T vs h
theorem room5 {dp k : Nat} (h : dp + (k + 1 + 2) < recursionLimit) : dp + 1 + (k + 2) < recursionLimit := by
  rw [Nat.add_right_comm, Nat.add_assoc, Nat.add_comm 2 1, ← Nat.add_assoc k 1 2] at *; simpa [Nat.add_comm, Nat.add_left_comm, Nat.add_assoc] using h
theorem unit5 {un k : Nat} (h : un + (20 * (k + 1) + 50) < cLine) : un + 3 + (20 * k + 50) < cLine :=
  Nat.lt_of_le_of_lt (by (first | lia | omega)) h
theorem inner4 (w : World) (f c' cN cI cA D : Addr) (qual : Str) (doc pm ctv : Value) (oc oN oI oA : Obj) (cnt : Nat) (rest : Led) (vs0 : Array Value) (t0 tn : Tok) (n : Int)
    (d1 : oc.data = .fields vs0) (d2 : vs0[1]? = some (.str qual t0)) (dN : oN.data = .cell (some (.int n tn))) (dI : oI.data = .cell (some (.ref f))) (dA : oA.data = .cell (some (.ref D)))
    (e1 : @Ne Nat f D) (e2 : @Ne Nat c' D) (e3 : @Ne Nat cN D) (e4 : @Ne Nat cI D) (e5 : @Ne Nat cA D) (e6 : ∀ p ∈ rest, @Ne Nat p.1 D) (hn : 1 ≤ n) (hn1 : n ≤ 200) :
    ∀ (k : Nat) (x l r : Int) (tx tl tr : Tok) (vs : List Value) (ns : List Int), IntsAre vs ns → 0 ≤ l → l < r → r ≤ ns.length → r - l ≤ k → 0 ≤ x → x.toNat < 2 ^ (n * (r - l)).toNat → ns.length ≤ 300 →
      Cn w f (k + 2) (20 * k + 50) [.int x tx, .int l tl, .int r tr] (led4 f c' cN cI cA D qual doc pm ctv oc oN oI oA cnt rest vs)
        (fun nw v => v = .none ∧ ∃ vs', IntsAre vs' (ns.take l.toNat ++ dig n.toNat (r - l).toNat x.toNat ++ ns.drop r.toNat) ∧ nw = led4 f c' cN cI cA D qual doc pm ctv oc oN oI oA cnt rest vs') := by
  intro k
  induction k with
  | zero => intro x l r tx tl tr vs ns hI h0 h1 h2 h3; exact absurd (Int.sub_pos_of_lt h1) (Int.not_lt.mpr h3)
  | succ k ih =>
    intro x l r tx tl tr vs ns hI h0 h1 h2 h3 h4 h5 h6
    unfold Cn
    intro mg mb mean dp un gd cn cs ad ccd cl outer A₀ base h₀ L m s Q E B F X N T hk c1 c2 hd hu hret
    have hM := mid_eq l r
    have hq1 : -2 ^ 64 < (l + r).fdiv (2 ^ Int.toNat 1) - l := by rw [hM]; exact (dif5 h6 h0 h1 h2).1
    have hq2 : (l + r).fdiv (2 ^ Int.toNat 1) - l < 2 ^ 64 := by rw [hM]; exact (dif5 h6 h0 h1 h2).2
    have hq3 := (low5 h6 h1 h2).1
    have hq4 := (low5 h6 h1 h2).2
    have hs0 : 0 ≤ ((l + r).fdiv (2 ^ Int.toNat 1) - l) * n := by rw [hM]; exact (mul5 hn hn1 h6 h0 h1 h2).1
    have hs1 : ((l + r).fdiv (2 ^ Int.toNat 1) - l) * n ≤ 60000 := by rw [hM]; exact (mul5 hn hn1 h6 h0 h1 h2).2
    have hxb : Builtin.Int.intBits x ≤ 60000 := intBits_le_iff.mpr (Nat.lt_of_lt_of_le (absn5 h4 h5) (Nat.pow_le_pow_right (by decide) (mulr5 hn hn1 h6 h0 h1 h2)))
    have hz : (↑(Builtin.Int.intBits (x.fdiv (2 ^ (((l + r).fdiv (2 ^ Int.toNat 1) - l) * n).toNat))) : Int) + ((l + r).fdiv (2 ^ Int.toNat 1) - l) * n ≤ 2 ^ 27 := add5 (intBits_fdiv_le (y := 2 ^ (((l + r).fdiv (2 ^ Int.toNat 1) - l) * n).toNat) hxb) hs1
    refine wpAny_call ?_
    k_dflt ktr_unf
    k_steps
    · rename_i hlr _ _ _ _ _ _ _ _ _ _
      refine cn_end hret (by k_asm) (by k_asm) ⟨rfl, _, ?_, rfl⟩
      have e : ns.take l.toNat ++ dig n.toNat (r - l).toNat x.toNat ++ ns.drop r.toNat = ns.set l.toNat x := by
        subst hlr
        have q1 : (l + 1 - l).toNat = 1 := by (first | lia | omega)
        have q2 : (n * (l + 1 - l)).toNat = n.toNat := by rw [show l + 1 - l = 1 by (first | lia | omega), Int.mul_one]
        rw [q2] at h5
        rw [q1, List.set_eq_take_append_cons_drop, if_pos (by (first | lia | omega)), show (l + 1).toNat = l.toNat + 1 by (first | lia | omega)]
        simp only [dig, Nat.mod_eq_of_lt h5, List.append_assoc, List.singleton_append, List.cons_append, List.nil_append]
        rw [Int.toNat_of_nonneg h4]
      rw [e]
      assumption
    · rename_i hlr _ _ _ _ _ _ _ _
      have hi5 := in5 h0 h1 (by assumption) h2 h3
      obtain ⟨a1, a2, a3, a4, a5, a6⟩ := split_arith h0 hi5.1.1 hn
      have hlow : Builtin.bitXor x (x.fdiv (2 ^ (((l + r).fdiv (2 ^ Int.toNat 1) - l) * n).toNat) * 2 ^ (((l + r).fdiv (2 ^ Int.toNat 1) - l) * n).toNat) = ((x.toNat % 2 ^ (n.toNat * ((l + r) / 2 - l).toNat) : Nat) : Int) := by
        rw [xor_low _ _ h4, hM, a3]
      have hupp : x.fdiv (2 ^ (((l + r).fdiv (2 ^ Int.toNat 1) - l) * n).toNat) = ((x.toNat / 2 ^ (n.toNat * ((l + r) / 2 - l).toNat) : Nat) : Int) := by
        rw [fdiv_pow _ _ h4, hM, a3]
      k_dflt (refine' cn_useE (ih _ _ _ _ _ _ vs ns hI ?p1 ?p2 ?p3 ?p4 ?p5 ?p6 h6) Out4.el ?k1 ?k2 ?k3 ?k4 ?k5 ?k6 c1 c2 ?k7 ?k8 ?_)
      case p1 => exact h0
      case p2 => rw [hM]; exact a1
      case p3 => rw [hM]; exact hi5.2.2.1
      case p4 => rw [hM]; exact hi5.2.2.2.1
      case p5 => rw [hlow]; exact Int.natCast_nonneg _
      case p6 => rw [hlow, hM, a4, Int.toNat_natCast]; exact Nat.mod_lt _ (Nat.pow_pos (by decide))
      case k1 => k_asm
      case k2 => k_asm
      case k3 => k_asm
      case k4 => k_asm
      case k5 => k_asm
      case k6 => first | assumption | exact rfl
      case k7 => exact room5 hd
      case k8 => exact unit5 hu
      intro vs9 hI9 h9 tk9 F9 N9
      have hlen9 : (ns.take l.toNat ++ dig n.toNat ((l + r).fdiv (2 ^ Int.toNat 1) - l).toNat (Builtin.bitXor x (x.fdiv (2 ^ (((l + r).fdiv (2 ^ Int.toNat 1) - l) * n).toNat) * 2 ^ (((l + r).fdiv (2 ^ Int.toNat 1) - l) * n).toNat)).toNat ++ ns.drop ((l + r).fdiv (2 ^ Int.toNat 1)).toNat).length = ns.length := by
        simp only [List.length_append, List.length_take, List.length_drop, dig_len]
        rw [hM]
        exact len_mid9 h0 (Int.le_of_lt a1) (Int.le_trans (Int.le_of_lt a2) h2)
      k_steps
      k_dflt (refine' cn_useE (ih _ _ _ _ _ _ vs9 _ hI9 ?p1 ?p2 ?p3 ?p4 ?p5 ?p6 ?p7) Out4.el ?k1 ?k2 ?k3 ?k4 ?k5 ?k6 c1 c2 ?k7 ?k8 ?_)
      case p1 => rw [hM]; exact hi5.1.2.1
      case p2 => rw [hM]; exact a2
      case p3 => rw [hlen9]; exact h2
      case p4 => rw [hM]; exact hi5.2.2.2.2
      case p5 => rw [hupp]; exact Int.natCast_nonneg _
      case p6 => rw [hupp, hM, a5, Int.toNat_natCast, Nat.div_lt_iff_lt_mul (Nat.pow_pos (by decide)), ← Nat.pow_add, Nat.add_comm, ← a6]; exact h5
      case p7 => rw [hlen9]; exact h6
      case k1 => k_asm
      case k2 => k_asm
      case k3 => k_asm
      case k4 => k_asm
      case k5 => k_asm
      case k6 => first | assumption | exact rfl
      case k7 => exact room5 hd
      case k8 => exact unit5 hu
      intro vs8 hI8 h8 tk8 F8 N8
      have hfin : (ns.take l.toNat ++ dig n.toNat ((l + r).fdiv (2 ^ Int.toNat 1) - l).toNat (Builtin.bitXor x (x.fdiv (2 ^ (((l + r).fdiv (2 ^ Int.toNat 1) - l) * n).toNat) * 2 ^ (((l + r).fdiv (2 ^ Int.toNat 1) - l) * n).toNat)).toNat ++ ns.drop ((l + r).fdiv (2 ^ Int.toNat 1)).toNat).take ((l + r).fdiv (2 ^ Int.toNat 1)).toNat ++
          dig n.toNat (r - (l + r).fdiv (2 ^ Int.toNat 1)).toNat (x.fdiv (2 ^ (((l + r).fdiv (2 ^ Int.toNat 1) - l) * n).toNat)).toNat ++
          (ns.take l.toNat ++ dig n.toNat ((l + r).fdiv (2 ^ Int.toNat 1) - l).toNat (Builtin.bitXor x (x.fdiv (2 ^ (((l + r).fdiv (2 ^ Int.toNat 1) - l) * n).toNat) * 2 ^ (((l + r).fdiv (2 ^ Int.toNat 1) - l) * n).toNat)).toNat ++ ns.drop ((l + r).fdiv (2 ^ Int.toNat 1)).toNat).drop r.toNat
          = ns.take l.toNat ++ dig n.toNat (r - l).toNat x.toNat ++ ns.drop r.toNat := by
        rw [hlow, hupp, hM, Int.toNat_natCast, Int.toNat_natCast]
        rw [take_mid (Int.toNat_le.mpr (Int.le_trans (Int.le_of_lt h1) h2)) (by rw [dig_len]; exact tn_sub9 h0 (Int.le_of_lt a1)) (Int.toNat_le_toNat (Int.le_of_lt a1)) (Int.toNat_le_toNat (Int.le_of_lt a2)) (Int.toNat_le.mpr h2), ← dig_split, tn_add9 (Int.le_of_lt a1) (Int.le_of_lt a2)]
      rw [hfin] at hI8
      clear hlow hupp hlen9 hfin
      k_steps
      exact cn_end hret (by k_asm) (by k_asm) ⟨rfl, _, hI8, rfl⟩

end
section
set_option maxRecDepth 100000
set_option maxHeartbeats 8000000
theorem fill3 : (PySem.Challenge.rw_wb0084_01 = PySem.Challenge.rw_wb0084_01) ∧ K = K := by
  k_fill
  exact ⟨rfl, rfl⟩
/-- the table of a def's nested code: empty, or it tells the code object -/
noncomputable def Tab (ln : Nat) (qual : Str) (ps : Array Value) (l : Led) : Prop :=
  ps = #[] ∨ ∃ c oc vs t, ps = #[rawInt (ln : Int), rawInt (4 : Int), .ref c] ∧ (c, oc) ∈ l ∧ oc.data = .fields vs ∧ vs[1]? = some (.str qual t)
theorem Tab.mono {ln : Nat} {qual : Str} {ps : Array Value} {l l' : Led} (x : Tab ln qual ps l) (h : ∀ p ∈ l, p ∈ l') : Tab ln qual ps l' := by
  rcases x with x | ⟨c, oc, vs, t, e, m, d⟩
  · exact .inl x
  · exact .inr ⟨c, oc, vs, t, e, h _ m, d⟩
noncomputable def qual4 : Str := qualnameIn (envOfC (Str.ofString "_int2digits") fSco4 0 35 (.ref 34)) (Str.ofString "inner") (Str.ofString "inner")
noncomputable abbrev cnt4 (a n : Int) : Int := (↑(Builtin.Int.intBits a) + n - 1).fdiv n
noncomputable def ExOk (ex rest : Led) (P D : Nat) : Prop := ∀ p ∈ ex, @LT.lt Nat _ P p.1 ∧ @LT.lt Nat _ D p.1 ∧ ∀ q ∈ rest, @LT.lt Nat _ q.1 p.1
noncomputable def Out35 (a n : Int) (rest : Led) (nw : Led) (v : Value) : Prop :=
  ∀ G : Led → Value → Prop, (∀ D ps ex vs, Tab 32 qual4 ps (ex ++ rest) → ExOk ex rest 30 D → @LT.lt Nat _ 30 D → (∀ p ∈ rest, @LT.lt Nat _ p.1 D) → IntsAre vs (dig n.toNat (cnt4 a n).toNat a.toNat) → G ((D, W.listOf vs.toArray 0) :: (30, tabObj ps) :: (ex ++ rest)) (.ref D)) → G nw v
theorem Out35.el {a n : Int} {rest : Led} (G : Led → Value → Prop) (T : ∀ D ps ex vs, Tab 32 qual4 ps (ex ++ rest) → ExOk ex rest 30 D → @LT.lt Nat _ 30 D → (∀ p ∈ rest, @LT.lt Nat _ p.1 D) → IntsAre vs (dig n.toNat (cnt4 a n).toNat a.toNat) → G ((D, W.listOf vs.toArray 0) :: (30, tabObj ps) :: (ex ++ rest)) (.ref D)) (nw : Led) (v : Value) (o : Out35 a n rest nw v) : G nw v := o G T
theorem Out35.mk {a n : Int} {rest : Led} {n9 : Led} {v9 : Value} (D : Addr) (ps : Array Value) (ex : Led) (vs : List Value) (hv : v9 = .ref D) (hn : n9 = (D, W.listOf vs.toArray 0) :: (30, tabObj ps) :: (ex ++ rest)) (h0 : Tab 32 qual4 ps (ex ++ rest)) (h1 : ExOk ex rest 30 D) (h2 : @LT.lt Nat _ 30 D) (h3 : ∀ p ∈ rest, @LT.lt Nat _ p.1 D) (h4 : IntsAre vs (dig n.toNat (cnt4 a n).toNat a.toNat)) : Out35 a n rest n9 v9 := by
  subst hv hn; exact fun G9 k9 => k9 D ps ex vs h0 h1 h2 h3 h4
theorem reorder1 {g h : Heap} {L : Addr} {a b d e i j k : Addr × Obj} {r : Led} (N : News g L h (a :: b :: d :: e :: i :: j :: k :: r)) : News g L h (d :: a :: b :: i :: j :: k :: e :: r) := fun p hp => N p (by
  simp only [List.mem_cons] at hp ⊢
  rcases hp with q | q | q | q | q | q | q | q <;> simp [q])
theorem allLt_mem {d : Nat} : ∀ {l : Led}, AllLt d l → ∀ p ∈ l, @LT.lt Nat _ p.1 d
  | [], _, p, hp => by cases hp
  | q :: r, h, p, hp => by
    rcases List.mem_cons.mp hp with e | hp
    · rw [e]; exact h.1
    · exact allLt_mem h.2 p hp
theorem pick1 {g h : Heap} {L : Addr} {a b d e i j k l : Addr × Obj} {r : Led} (N : News g L h (a :: b :: d :: e :: i :: j :: k :: l :: r)) : News g L h (a :: l :: d :: r) := fun p hp => N p (by
  simp only [List.mem_cons] at hp ⊢
  rcases hp with q | q | q | q <;> simp [q])
theorem pick2 {g h : Heap} {L : Addr} {a b d e i j k l : Addr × Obj} {r : Led} (N : News g L h (a :: b :: d :: e :: i :: j :: k :: l :: r)) : News g L h (d :: l :: b :: r) := fun p hp => N p (by
  simp only [List.mem_cons] at hp ⊢
  rcases hp with q | q | q | q <;> simp [q])
theorem replicate_flat (z : Int) : ∀ k : Nat, (List.replicate k [z]).flatten = List.replicate k z
  | 0 => rfl
  | k + 1 => by rw [List.replicate_succ, List.flatten_cons, replicate_flat z k]; rfl
theorem d35a (w : World) (a n : Int) (ta tn : Tok) (rest : Led) (H0 : 0 ≤ a) (H1 : a.toNat < 2 ^ (n.toNat * (cnt4 a n).toNat)) (hn : 1 ≤ n) (hn1 : n ≤ 200) (hr : ∀ p ∈ rest, @Ne Nat p.1 30)
    (hk0 : 0 ≤ cnt4 a n) (hk1 : cnt4 a n ≤ 300) (hkz : a = 0 → cnt4 a n = 0) (hkp : a ≠ 0 → 1 ≤ cnt4 a n) :
    Cn w 35 310 7000 [.int a ta, .int n tn] ((30, tabObj #[]) :: rest) (Out35 a n rest) := by
  unfold Cn
  intro mg mb mean dp un gd cn cs ad ccd cl outer A₀ base h₀ L m s Q E B F X N T hk c1 c2 hd hu hret
  have hk0' : 0 ≤ (↑(Builtin.Int.intBits a) + n - 1).fdiv n := hk0
  have hk1' : (↑(Builtin.Int.intBits a) + n - 1).fdiv n ≤ 300 := hk1
  refine wpAny_call ?_
  k_dflt ktr_rel
  k_steps
  · rename_i g1 L1 h1 tk1 FG1 B1 X1 T1 l0 l13 o1 o2 o3 dd1 dd2 dd3 l' h2 l12 D h3 i1 n1 s1 e1 e2 e3 lD h4 oA dA f c oc vs t ct dc h5 tk2 dc1 dc2 l1 l2 h6 oI F2 N2 dI hne
    have N3 := reorder1 N2
    have hcnt : (n1 : Int) = cnt4 a n := by have := e3 hk0; simpa using this
    have hp1 := hkp hne
    k_dflt (refine' cn_useE (inner4 w f c (L1 + 1) (L1 + 1 + 1 + 1) (L1 + 1 + 1) D _ _ _ _ oc o3 oI oA 0 _ vs t tn n dc1 dc2 ?dN dI dA ?e1 ?e2 ?e3 ?e4 ?e5 ?e6 hn hn1 n1 a 0 n1 ta _ _ _ _ i1 (Int.le_refl 0) ?p2 ?p3 ?p4 H0 ?p6 ?p7) Out4.el ?k1 ?k2 ?k3 ?k4 ?k5 ?k6 c1 c2 ?k7 ?k8 ?_)
    case k4 => exact N3
    case dN => exact dd3
    case e1 => omega
    case e2 => omega
    case e3 => omega
    case e4 => omega
    case e5 => omega
    case e6 => k_all
    case p2 => omega
    case p3 => rw [e1]; exact Int.le_refl _
    case p4 => omega
    case p6 =>
      have q : (n * ((n1 : Int) - 0)).toNat = n.toNat * (cnt4 a n).toNat := by
        obtain ⟨nn, hnn⟩ := Int.eq_ofNat_of_zero_le (show 0 ≤ n by omega)
        rw [← hcnt, hnn, Int.sub_zero, ← Int.natCast_mul]; rfl
      rw [q]; exact H1
    case p7 => rw [e1]; omega
    case k1 => k_asm
    case k2 => k_asm
    case k3 => k_asm
    case k5 => k_asm
    case k6 => first | assumption | exact rfl
    case k7 => ktr_room
    case k8 => ktr_units
    intro vs9 hI9 h9 tk9 F9 N9
    have hI : IntsAre vs9 (dig n.toNat (cnt4 a n).toNat a.toNat) := by
      have q : (List.replicate (cnt4 a n).toNat [(0 : Int)]).flatten.drop ((n1 : Int)).toNat = [] := List.drop_eq_nil_of_le (by rw [e1]; omega)
      rw [q, List.append_nil, show (0 : Int).toNat = 0 from rfl, List.take_zero, List.nil_append, Int.sub_zero, hcnt] at hI9
      exact hI9
    clear hI9 N3 i1
    k_steps
    rename_i kF kN _ _
    refine cn_end hret kF (pick1 kN) (Out35.mk D #[rawInt ((32 : Nat) : Int), rawInt (4 : Int), .ref c] [(c, oc)] vs9 rfl rfl (.inr ⟨c, oc, vs, t, rfl, .head _, dc1, dc2⟩) ?_ ?_ ?_ hI)
    · intro p hp
      rw [List.mem_singleton.mp hp]
      exact ⟨by show @LT.lt Nat _ 30 c; omega, by show @LT.lt Nat _ D c; omega, fun q hq => Nat.lt_trans (allLt_mem lD.2.2.2.2.2 q hq) l1.1⟩
    · omega
    · exact fun p hp => allLt_mem lD.2.2.2.2.2 p hp
  · rename_i g1 L1 h1 tk1 FG1 B1 X1 T1 l0 l13 o1 o2 o3 dd1 dd2 dd3 l' h2 l12 D h3 i1 n1 s1 e1 e2 e3 lD h4 oA dA f c oc vs t ct dc h5 tk2 dc1 dc2 l1 l2 h6 oI F2 N2 dI hne kF kN _ _
    refine cn_end hret kF (pick2 kN) (Out35.mk D #[rawInt ((32 : Nat) : Int), rawInt (4 : Int), .ref c] [(c, oc)] _ rfl rfl (.inr ⟨c, oc, vs, t, rfl, .head _, dc1, dc2⟩) ?_ ?_ ?_ ?_)
    · intro p hp
      rw [List.mem_singleton.mp hp]
      exact ⟨by show @LT.lt Nat _ 30 c; omega, by show @LT.lt Nat _ D c; omega, fun q hq => Nat.lt_trans (allLt_mem lD.2.2.2.2.2 q hq) l1.1⟩
    · omega
    · exact fun p hp => allLt_mem lD.2.2.2.2.2 p hp
    · have q : cnt4 a n = 0 := hkz hne
      have q' : (↑(Builtin.Int.intBits a) + n - 1).fdiv n = 0 := q
      rw [q] 
      rw [q'] at i1 ⊢
      exact i1

end
section
set_option maxRecDepth 100000
set_option maxHeartbeats 8000000
theorem fill4 : (PySem.Challenge.rw_wb0084_01 = PySem.Challenge.rw_wb0084_01) ∧ K = K := by
  k_fill
  exact ⟨rfl, rfl⟩
theorem pick3 {g h : Heap} {L : Addr} {a b d e i j k : Addr × Obj} {r : Led} (c : Addr × Obj) (hc : c ∈ r) (N : News g L h (a :: b :: d :: e :: i :: j :: k :: r)) : News g L h (b :: a :: c :: e :: i :: j :: d :: k :: r) := fun p hp => N p (by
  simp only [List.mem_cons] at hp ⊢
  rcases hp with q | q | q | q | q | q | q | q | q <;> simp [q, hc])
theorem pick4 {g h : Heap} {L : Addr} {a b d e i j k l : Addr × Obj} {r : Led} (N : News g L h (a :: b :: d :: e :: i :: j :: k :: l :: r)) : News g L h (a :: l :: r) := fun p hp => N p (by
  simp only [List.mem_cons] at hp ⊢
  rcases hp with q | q | q <;> simp [q])
theorem pick5 {g h : Heap} {L : Addr} {a b d e i j k : Addr × Obj} {r : Led} (N : News g L h (a :: b :: d :: e :: i :: j :: k :: r)) : News g L h (b :: k :: r) := fun p hp => N p (by
  simp only [List.mem_cons] at hp ⊢
  rcases hp with q | q | q <;> simp [q])
theorem d35b (w : World) (a n : Int) (ta tn : Tok) (rest : Led) (H0 : 0 ≤ a) (H1 : a.toNat < 2 ^ (n.toNat * (cnt4 a n).toNat)) (hn : 1 ≤ n) (hn1 : n ≤ 200) (hr : ∀ p ∈ rest, @Ne Nat p.1 30)
    (hk0 : 0 ≤ cnt4 a n) (hk1 : cnt4 a n ≤ 300) (hkz : a = 0 → cnt4 a n = 0) (hkp : a ≠ 0 → 1 ≤ cnt4 a n) (c : Addr) (oc : Obj) (vs : Array Value) (t : Tok) (hc : (c, oc) ∈ rest) (dc1 : oc.data = .fields vs) (dc2 : vs[1]? = some (.str qual4 t)) :
    Cn w 35 310 7000 [.int a ta, .int n tn] ((30, tabObj #[rawInt ((32 : Nat) : Int), rawInt (4 : Int), .ref c]) :: rest) (Out35 a n rest) := by
  unfold Cn
  intro mg mb mean dp un gd cn cs ad ccd cl outer A₀ base h₀ L m s Q E B F X N T hk c1 c2 hd hu hret
  have hk0' : 0 ≤ (↑(Builtin.Int.intBits a) + n - 1).fdiv n := hk0
  have hk1' : (↑(Builtin.Int.intBits a) + n - 1).fdiv n ≤ 300 := hk1
  refine wpAny_call ?_
  k_dflt ktr_rel
  k_steps
  · rename_i g1 L1 h1 tk1 FG1 B1 X1 T1 l0 l13 o1 o2 o3 dd1 dd2 dd3 l' h2 l12 D h3 i1 n1 s1 e1 e2 e3 lD h4 oA dA f ct dc h5 tk2 l1 h6 oI F2 N2 dI hne
    have N3 := pick3 (c, oc) hc N2
    have hcD : @LT.lt Nat _ c D := allLt_mem lD.2.2.2.2.2 _ hc
    have hcnt : (n1 : Int) = cnt4 a n := by have := e3 hk0; simpa using this
    have hp1 := hkp hne
    k_dflt (refine' cn_useE (inner4 w f c (L1 + 1) (L1 + 1 + 1 + 1) (L1 + 1 + 1) D _ _ _ _ oc o3 oI oA 0 _ vs t tn n dc1 dc2 ?dN dI dA ?e1 ?e2 ?e3 ?e4 ?e5 ?e6 hn hn1 n1 a 0 n1 ta _ _ _ _ i1 (Int.le_refl 0) ?p2 ?p3 ?p4 H0 ?p6 ?p7) Out4.el ?k1 ?k2 ?k3 ?k4 ?k5 ?k6 c1 c2 ?k7 ?k8 ?_)
    case k4 => exact N3
    case dN => exact dd3
    case e1 => omega
    case e2 => omega
    case e3 => omega
    case e4 => omega
    case e5 => omega
    case e6 => k_all
    case p2 => omega
    case p3 => rw [e1]; exact Int.le_refl _
    case p4 => omega
    case p6 =>
      have q : (n * ((n1 : Int) - 0)).toNat = n.toNat * (cnt4 a n).toNat := by
        obtain ⟨nn, hnn⟩ := Int.eq_ofNat_of_zero_le (show 0 ≤ n by omega)
        rw [← hcnt, hnn, Int.sub_zero, ← Int.natCast_mul]; rfl
      rw [q]; exact H1
    case p7 => rw [e1]; omega
    case k1 => k_asm
    case k2 => k_asm
    case k3 => k_asm
    case k5 => k_asm
    case k6 => first | assumption | exact rfl
    case k7 => ktr_room
    case k8 => ktr_units
    intro vs9 hI9 h9 tk9 F9 N9
    have hI : IntsAre vs9 (dig n.toNat (cnt4 a n).toNat a.toNat) := by
      have q : (List.replicate (cnt4 a n).toNat [(0 : Int)]).flatten.drop ((n1 : Int)).toNat = [] := List.drop_eq_nil_of_le (by rw [e1]; omega)
      rw [q, List.append_nil, show (0 : Int).toNat = 0 from rfl, List.take_zero, List.nil_append, Int.sub_zero, hcnt] at hI9
      exact hI9
    clear hI9 N3 i1
    k_steps
    rename_i kF kN _ _
    refine cn_end hret kF (pick4 kN) (Out35.mk D #[rawInt ((32 : Nat) : Int), rawInt (4 : Int), .ref c] [] vs9 rfl rfl (.inr ⟨c, oc, vs, t, rfl, hc, dc1, dc2⟩) ?_ ?_ ?_ hI)
    · exact fun p hp => nomatch hp
    · omega
    · exact fun p hp => allLt_mem lD.2.2.2.2.2 p hp
  · rename_i g1 L1 h1 tk1 FG1 B1 X1 T1 l0 l13 o1 o2 o3 dd1 dd2 dd3 l' h2 l12 D h3 i1 n1 s1 e1 e2 e3 lD h4 oA dA f ct dc h5 tk2 l1 h6 oI F2 N2 dI hne kF kN _ _
    refine cn_end hret kF (pick5 kN) (Out35.mk D #[rawInt ((32 : Nat) : Int), rawInt (4 : Int), .ref c] [] _ rfl rfl (.inr ⟨c, oc, vs, t, rfl, hc, dc1, dc2⟩) ?_ ?_ ?_ ?_)
    · exact fun p hp => nomatch hp
    · omega
    · exact fun p hp => allLt_mem lD.2.2.2.2.2 p hp
    · have q : cnt4 a n = 0 := hkz hne
      have q' : (↑(Builtin.Int.intBits a) + n - 1).fdiv n = 0 := q
      rw [q] 
      rw [q'] at i1 ⊢
      exact i1
theorem d35c (w : World) (a n : Int) (ta tn : Tok) (rest : Led) (ps : Array Value) (hp : Tab 32 qual4 ps rest) (H0 : 0 ≤ a) (H1 : a.toNat < 2 ^ (n.toNat * (cnt4 a n).toNat)) (hn : 1 ≤ n) (hn1 : n ≤ 200) (hr : ∀ p ∈ rest, @Ne Nat p.1 30)
    (hk0 : 0 ≤ cnt4 a n) (hk1 : cnt4 a n ≤ 300) (hkz : a = 0 → cnt4 a n = 0) (hkp : a ≠ 0 → 1 ≤ cnt4 a n) :
    Cn w 35 310 7000 [.int a ta, .int n tn] ((30, tabObj ps) :: rest) (Out35 a n rest) := by
  rcases hp with rfl | ⟨c, oc, vs, t, rfl, m, d1, d2⟩
  · exact d35a w a n ta tn rest H0 H1 hn hn1 hr hk0 hk1 hkz hkp
  · exact d35b w a n ta tn rest H0 H1 hn hn1 hr hk0 hk1 hkz hkp c oc vs t m d1 d2

end
section
set_option maxRecDepth 100000
set_option maxHeartbeats 8000000
theorem fill5 : (PySem.Challenge.rw_wb0084_01 = PySem.Challenge.rw_wb0084_01) ∧ K = K := by
  k_fill
  exact ⟨rfl, rfl⟩
local macro_rules | `(tactic| ktr_unf) => `(tactic| (refine' code_nestL ?k1 ?k2 ?k3 ?k4 ?k5 ?kA ?kF ?kK ?k6 ?k7 ?k8 ?k9 ?kB ?_ ?c2 ?c3 ?c4 ?c5; (case kA | kF => exact rfl); (case kK => first | assumption | exact rfl); (case k1 | k2 | k3 | k4 | k5 => k_asm); (case k6 => k_mem); (case k7 => exact codeRec_news (by k_asm) (by k_mem) (by assumption) (by assumption)); (case k8 => ktr_room); (case k9 => exact BindsTo.of_eq rfl); (case c5 => decide); (case kB => exact locs rfl); (case c2 | c3 | c4 => exact rfl); k_whole; intro g' L' h' FG' F' N' B' X' T' l0; (try dsimp only); (try k_lift B'); (try k_fold)))
theorem d35 (w : World) (a n : Int) (ta tn : Tok) (rest : Led) (ps : Array Value) (hp : Tab 32 qual4 ps rest) (H0 : 0 ≤ a) (H1 : a.natAbs < 2 ^ 200) (hn : 1 ≤ n) (hn1 : n ≤ 200) (hr : ∀ p ∈ rest, @Ne Nat p.1 30) :
    Cn w 35 310 7000 [.int a ta, .int n tn] ((30, tabObj ps) :: rest) (Out35 a n rest) := by
  obtain ⟨q0, q1, q2, q3, q4⟩ := cnt_facts H0 H1 hn
  exact d35c w a n ta tn rest ps hp H0 q4 hn hn1 hr q0 q1 q2 q3
noncomputable abbrev cl5 (cN cI cA : Addr) : List (Str × Addr) := [(Str.ofString "n", cN), (Str.ofString "inner", cI), (Str.ofString "digits", cA)]
noncomputable abbrev led5 (f c' cN cI cA D : Addr) (qual : Str) (doc pm ctv : Value) (oc oN oI oA : Obj) (cnt : Nat) (rest : Led) (vs : List Value) : Led :=
  (D, W.listOf vs.toArray cnt) :: (f, fnMade (Str.ofString "inner") qual iPar5 iBody5 iSco5 (cl5 cN cI cA) doc pm c' ctv) :: (c', oc) :: (cI, oI) :: (cA, oA) :: (cN, oN) :: rest
noncomputable def Out5 (v0 : Int) (news : Led) (nw : Led) (v : Value) : Prop := nw = news ∧ ∃ t, v = .int v0 t
theorem Out5.el {v0 : Int} {news : Led} (G : Led → Value → Prop) (T : ∀ t, G news (.int v0 t)) (n : Led) (v : Value) (o : Out5 v0 news n v) : G n v := by
  obtain ⟨rfl, t, rfl⟩ := o; exact T t
theorem hub5 {n : Int} {ns : List Int} (hn : 1 ≤ n) (hn1 : n ≤ 200) (hns : ns.length ≤ 300) (hd0 : ∀ d ∈ ns, 0 ≤ d ∧ d < 2 ^ n.toNat) {a b : Int} (ha : 0 ≤ a) (hab : a ≤ b) (hb : b ≤ ns.length) : Builtin.Int.intBits (undig n.toNat (seg ns a b)) ≤ 60000 := by
  obtain ⟨u0, u1⟩ := undig_bd n.toNat (seg ns a b) fun d hd => hd0 d (seg_mem hd)
  rw [seg_len ha hab hb] at u1
  refine intBits_le_iff.mpr ?_
  have q1 : (b - a).toNat ≤ 300 := Nat.le_trans (Int.toNat_le.mpr (Int.le_trans (Int.sub_le_self b ha) hb)) hns
  have q2 : n.toNat ≤ 200 := Int.toNat_le.mpr hn1
  have e1 : n.toNat * (b - a).toNat ≤ 60000 := Nat.le_trans (Nat.mul_le_mul q2 q1) (by decide)
  have e2 : (2 : Int) ^ (n.toNat * (b - a).toNat) = ((2 ^ (n.toNat * (b - a).toNat) : Nat) : Int) := by simp
  rw [e2] at u1
  exact Nat.lt_of_lt_of_le (abs5 u0 u1) (Nat.pow_le_pow_right (by decide) e1)
theorem get5 {ns : List Int} {l r : Int} (h0 : 0 ≤ l) (h : l + 1 = r) (h2 : r ≤ ns.length) (n : Nat) : ns.getD l.toNat 0 = undig n (seg ns l r) := by
  subst h
  have hl : l < ns.length := Int.lt_of_add_one_le h2
  have hn : l.toNat < ns.length := by (first | lia | omega)
  rw [seg_one h0 hl, List.getD_eq_getElem?_getD, List.getElem?_eq_getElem hn]
  show (ns[l.toNat]'_) = (ns[l.toNat]'_ + 2 ^ n * 0)
  rw [Int.mul_zero, Int.add_zero]
theorem inner5 (w : World) (f c' cN cI cA D : Addr) (qual : Str) (doc pm ctv : Value) (oc oN oI oA : Obj) (cnt : Nat) (rest : Led) (vs0 : Array Value) (t0 tn : Tok) (n : Int)
    (d1 : oc.data = .fields vs0) (d2 : vs0[1]? = some (.str qual t0)) (dN : oN.data = .cell (some (.int n tn))) (dI : oI.data = .cell (some (.ref f))) (dA : oA.data = .cell (some (.ref D)))
    (hn : 1 ≤ n) (hn1 : n ≤ 200) (vs : List Value) (ns : List Int) (hI : IntsAre vs ns) (hns : ns.length ≤ 300) (hd0 : ∀ d ∈ ns, 0 ≤ d ∧ d < 2 ^ n.toNat) :
    ∀ (k : Nat) (l r : Int) (tl tr : Tok), 0 ≤ l → l < r → r ≤ ns.length → r - l ≤ k →
      Cn w f (k + 2) (20 * k + 50) [.int l tl, .int r tr] (led5 f c' cN cI cA D qual doc pm ctv oc oN oI oA cnt rest vs) (Out5 (undig n.toNat (seg ns l r)) (led5 f c' cN cI cA D qual doc pm ctv oc oN oI oA cnt rest vs)) := by
  intro k
  induction k with
  | zero => intros; (first | lia | omega)
  | succ k ih =>
    intro l r tl tr h0 h1 h2 h3
    unfold Cn
    intro mg mb mean dp un gd cn cs ad ccd cl outer A₀ base h₀ L m s Q E B F X N T hk c1 c2 hd hu hret
    have hM := mid_eq l r
    have hq1 : -2 ^ 64 < (l + r).fdiv (2 ^ Int.toNat 1) - l := by rw [hM]; exact (dif5 hns h0 h1 h2).1
    have hq2 : (l + r).fdiv (2 ^ Int.toNat 1) - l < 2 ^ 64 := by rw [hM]; exact (dif5 hns h0 h1 h2).2
    have hq3 := (low5 hns h1 h2).1
    have hq4 := (low5 hns h1 h2).2
    have hs0 : 0 ≤ ((l + r).fdiv (2 ^ Int.toNat 1) - l) * n := by rw [hM]; exact (mul5 hn hn1 hns h0 h1 h2).1
    have hs1 : ((l + r).fdiv (2 ^ Int.toNat 1) - l) * n ≤ 60000 := by rw [hM]; exact (mul5 hn hn1 hns h0 h1 h2).2
    have hz : l + 1 ≠ r → (↑(Builtin.Int.intBits (undig n.toNat (seg ns ((l + r).fdiv (2 ^ Int.toNat 1)) r))) : Int) + ((l + r).fdiv (2 ^ Int.toNat 1) - l) * n ≤ 2 ^ 27 := by
      intro h
      refine add5 ?_ hs1
      rw [hM]
      have z := in5 h0 h1 h h2 h3
      exact hub5 hn hn1 hns hd0 z.1.2.1 (Int.le_of_lt z.2.1) h2
    refine wpAny_call ?_
    k_dflt ktr_unf
    k_steps
    · rename_i hlr t5 _ _ _ _
      exact cn_end hret (by k_asm) (by k_asm) ⟨rfl, t5, congrArg (fun z => Value.int z t5) (get5 h0 hlr h2 n.toNat)⟩
    · have hlr : l + 1 ≠ r := by assumption
      have hz := hz hlr
      have hi5 := in5 h0 h1 hlr h2 h3
      k_dflt (refine' cn_useE (ih _ _ _ _ ?p1 ?p2 ?p3 ?p4) Out5.el ?k1 ?k2 ?k3 ?k4 ?k5 ?k6 c1 c2 ?k7 ?k8 ?_)
      case p1 => rw [hM]; exact hi5.1.2.1
      case p2 => rw [hM]; exact hi5.2.1
      case p3 => exact h2
      case p4 => rw [hM]; exact hi5.2.2.2.2
      case k1 => k_asm
      case k2 => k_asm
      case k3 => k_asm
      case k4 => k_asm
      case k5 => k_asm
      case k6 => first | assumption | exact rfl
      case k7 => exact room5 hd
      case k8 => exact unit5 hu
      intro t9 h9 tk9 F9 N9
      k_steps
      k_dflt (refine' cn_useE (ih _ _ _ _ ?p1 ?p2 ?p3 ?p4) Out5.el ?k1 ?k2 ?k3 ?k4 ?k5 ?k6 c1 c2 ?k7 ?k8 ?_)
      case p1 => exact h0
      case p2 => rw [hM]; exact hi5.1.2.2
      case p3 => rw [hM]; exact hi5.2.2.1
      case p4 => rw [hM]; exact hi5.2.2.2.1
      case k1 => k_asm
      case k2 => k_asm
      case k3 => k_asm
      case k4 => k_asm
      case k5 => k_asm
      case k6 => first | assumption | exact rfl
      case k7 => exact room5 hd
      case k8 => exact unit5 hu
      intro t8 h8 tk8 F8 N8
      k_steps
      refine cn_end hret (by k_asm) (by k_asm) ⟨rfl, _, congrArg (fun z => Value.int z _) ?_⟩
      obtain ⟨a1, a2, a3, a4, a5, a6⟩ := split_arith h0 hi5.1.1 hn
      rw [hM, a3]
      exact seg_undig n.toNat h0 hi5.1.1 h2

end
section
set_option maxRecDepth 100000
set_option maxHeartbeats 8000000
theorem fill6 : (PySem.Challenge.rw_wb0084_01 = PySem.Challenge.rw_wb0084_01) ∧ K = K := by
  k_fill
  exact ⟨rfl, rfl⟩
noncomputable def qual5 : Str := qualnameIn (envOfC (Str.ofString "_digits2int") fSco5 0 42 (.ref 41)) (Str.ofString "inner") (Str.ofString "inner")
noncomputable def Out42 (v0 : Int) (rest : Led) (nw : Led) (v : Value) : Prop :=
  ∀ G : Led → Value → Prop, (∀ ps ex t, Tab 47 qual5 ps (ex ++ rest) → ExOk ex rest 37 37 → G ((37, tabObj ps) :: (ex ++ rest)) (.int v0 t)) → G nw v
theorem Out42.el {v0 : Int} {rest : Led} (G : Led → Value → Prop) (T : ∀ ps ex t, Tab 47 qual5 ps (ex ++ rest) → ExOk ex rest 37 37 → G ((37, tabObj ps) :: (ex ++ rest)) (.int v0 t)) (n : Led) (v : Value) (o : Out42 v0 rest n v) : G n v := o G T
theorem Out42.mk {v0 : Int} {rest : Led} {n9 : Led} {v9 : Value} (ps : Array Value) (ex : Led) (t : Tok) (hv : v9 = .int v0 t) (hn : n9 = (37, tabObj ps) :: (ex ++ rest)) (h0 : Tab 47 qual5 ps (ex ++ rest)) (h1 : ExOk ex rest 37 37) : Out42 v0 rest n9 v9 := by
  subst hv hn; exact fun G9 k9 => k9 ps ex t h0 h1
theorem int0 {n : Nat} {ns : List Int} {t : Tok} (h : ns.length = 0) : Value.int 0 t = Value.int (undig n ns) t := by
  rw [List.eq_nil_of_length_eq_zero h]; rfl
theorem pickA {g h : Heap} {L : Addr} {f c i j k D t : Addr × Obj} {r : Led} (N : News g L h (f :: c :: i :: j :: k :: D :: t :: r)) : News g L h (D :: f :: c :: i :: k :: j :: t :: r) := fun p hp => N p (by
  simp only [List.mem_cons] at hp ⊢
  rcases hp with q | q | q | q | q | q | q | q <;> simp [q])
theorem pickB {g h : Heap} {L : Addr} {f i j k D t : Addr × Obj} {r : Led} (c : Addr × Obj) (hc : c ∈ r) (N : News g L h (f :: i :: j :: k :: D :: t :: r)) : News g L h (D :: f :: c :: i :: k :: j :: t :: r) := fun p hp => N p (by
  simp only [List.mem_cons] at hp ⊢
  rcases hp with q | q | q | q | q | q | q | q <;> simp [q, hc])
theorem pickC {g h : Heap} {L : Addr} {f c i j k D t : Addr × Obj} {r : Led} (N : News g L h (D :: f :: c :: i :: k :: j :: t :: r)) : News g L h (t :: c :: D :: r) := fun p hp => N p (by
  simp only [List.mem_cons] at hp ⊢
  rcases hp with q | q | q | q <;> simp [q])
theorem pickD {g h : Heap} {L : Addr} {f c i j k D t : Addr × Obj} {r : Led} (N : News g L h (f :: c :: i :: j :: k :: D :: t :: r)) : News g L h (t :: c :: D :: r) := fun p hp => N p (by
  simp only [List.mem_cons] at hp ⊢
  rcases hp with q | q | q | q <;> simp [q])
theorem pickE {g h : Heap} {L : Addr} {f c i j k D t : Addr × Obj} {r : Led} (N : News g L h (D :: f :: c :: i :: k :: j :: t :: r)) : News g L h (t :: D :: r) := fun p hp => N p (by
  simp only [List.mem_cons] at hp ⊢
  rcases hp with q | q | q <;> simp [q])
theorem pickF {g h : Heap} {L : Addr} {f i j k D t : Addr × Obj} {r : Led} (N : News g L h (f :: i :: j :: k :: D :: t :: r)) : News g L h (t :: D :: r) := fun p hp => N p (by
  simp only [List.mem_cons] at hp ⊢
  rcases hp with q | q | q <;> simp [q])
theorem d42a (w : World) (n : Int) (tn : Tok) (rest : Led) (D : Addr) (cnt : Nat) (vs : List Value) (ns : List Int) (hI : IntsAre vs ns) (hns : ns.length ≤ 300) (hd0 : ∀ d ∈ ns, 0 ≤ d ∧ d < 2 ^ n.toNat) (hn : 1 ≤ n) (hn1 : n ≤ 200) (hr : ∀ p ∈ rest, @Ne Nat p.1 37) (hD : @Ne Nat D 37) :
    Cn w 42 310 7000 [.ref D, .int n tn] ((D, W.listOf vs.toArray cnt) :: (37, tabObj #[]) :: rest) (Out42 (undig n.toNat ns) ((D, W.listOf vs.toArray cnt) :: rest)) := by
  unfold Cn
  intro mg mb mean dp un gd cn cs ad ccd cl outer A₀ base h₀ L m s Q E B F X N T hk c1 c2 hd hu hret
  refine wpAny_call ?_
  k_dflt ktr_rel
  k_steps
  · rename_i g1 L1 h1 tk1 FG1 B1 X1 T1 l0 l13 o1 o2 o3 dd1 dd2 dd3 f c oc vc tq ct dc h5 tk2 dc1 dc2 l1 l2 h6 oI F2 N2 dI hne
    have N3 := pickA N2
    k_dflt (refine' cn_useE (inner5 w f c (L1 + 1 + 1) (L1 + 1 + 1 + 1) (L1 + 1) D _ _ _ _ oc o2 oI o3 _ _ vc tq tn n dc1 dc2 ?dN dI ?dA hn hn1 vs ns hI hns hd0 ns.length 0 ns.length _ _ (Int.le_refl 0) ?p2 (Int.le_refl _) ?p4) Out5.el ?k1 ?k2 ?k3 ?k4 ?k5 ?k6 c1 c2 ?k7 ?k8 ?_)
    case k4 => exact N3
    case dN => exact dd2
    case dA => exact dd3
    case p2 => omega
    case p4 => omega
    case k1 => k_asm
    case k2 => k_asm
    case k3 => k_asm
    case k5 => k_asm
    case k6 => first | assumption | exact rfl
    case k7 => ktr_room
    case k8 => ktr_units
    intro t9 h9 tk9 F9 N9
    clear N3
    k_steps
    rename_i kF kN _ _
    refine cn_end hret kF (pickC kN) (Out42.mk #[rawInt ((47 : Nat) : Int), rawInt (4 : Int), .ref c] [(c, oc)] t9 ?_ rfl (.inr ⟨c, oc, vc, tq, rfl, .head _, dc1, dc2⟩) ?_)
    · rw [seg_all]
    · intro p hp
      rw [List.mem_singleton.mp hp]
      refine ⟨by show @LT.lt Nat _ 37 c; omega, by show @LT.lt Nat _ 37 c; omega, fun q hq => ?_⟩
      rcases List.mem_cons.mp hq with rfl | hq
      · show @LT.lt Nat _ D c; omega
      · exact allLt_mem l1.2.2.2.2.2 q hq
  · rename_i g1 L1 h1 tk1 FG1 B1 X1 T1 l0 l13 o1 o2 o3 dd1 dd2 dd3 f c oc vc tq ct dc h5 tk2 dc1 dc2 l1 l2 h6 oI F2 N2 dI hne kF kN _ _
    refine cn_end hret kF (pickD kN) (Out42.mk #[rawInt ((47 : Nat) : Int), rawInt (4 : Int), .ref c] [(c, oc)] _ (int0 (show ns.length = 0 by omega)) rfl (.inr ⟨c, oc, vc, tq, rfl, .head _, dc1, dc2⟩) ?_)
    · intro p hp
      rw [List.mem_singleton.mp hp]
      refine ⟨by show @LT.lt Nat _ 37 c; omega, by show @LT.lt Nat _ 37 c; omega, fun q hq => ?_⟩
      rcases List.mem_cons.mp hq with rfl | hq
      · show @LT.lt Nat _ D c; omega
      · exact allLt_mem l1.2.2.2.2.2 q hq
theorem d42b (w : World) (n : Int) (tn : Tok) (rest : Led) (D : Addr) (cnt : Nat) (vs : List Value) (ns : List Int) (hI : IntsAre vs ns) (hns : ns.length ≤ 300) (hd0 : ∀ d ∈ ns, 0 ≤ d ∧ d < 2 ^ n.toNat) (hn : 1 ≤ n) (hn1 : n ≤ 200) (hr : ∀ p ∈ rest, @Ne Nat p.1 37) (hD : @Ne Nat D 37)
    (c : Addr) (oc : Obj) (vc : Array Value) (t : Tok) (hc : (c, oc) ∈ rest) (dc1 : oc.data = .fields vc) (dc2 : vc[1]? = some (.str qual5 t)) :
    Cn w 42 310 7000 [.ref D, .int n tn] ((D, W.listOf vs.toArray cnt) :: (37, tabObj #[rawInt ((47 : Nat) : Int), rawInt (4 : Int), .ref c]) :: rest) (Out42 (undig n.toNat ns) ((D, W.listOf vs.toArray cnt) :: rest)) := by
  unfold Cn
  intro mg mb mean dp un gd cn cs ad ccd cl outer A₀ base h₀ L m s Q E B F X N T hk c1 c2 hd hu hret
  refine wpAny_call ?_
  k_dflt ktr_rel
  k_steps
  · rename_i g1 L1 h1 tk1 FG1 B1 X1 T1 l0 l13 o1 o2 o3 dd1 dd2 dd3 f ct dc h5 tk2 l1 h6 oI F2 N2 dI hne
    have N3 := pickB (c, oc) hc N2
    k_dflt (refine' cn_useE (inner5 w f c (L1 + 1 + 1) (L1 + 1 + 1 + 1) (L1 + 1) D _ _ _ _ oc o2 oI o3 _ _ vc t tn n dc1 dc2 ?dN dI ?dA hn hn1 vs ns hI hns hd0 ns.length 0 ns.length _ _ (Int.le_refl 0) ?p2 (Int.le_refl _) ?p4) Out5.el ?k1 ?k2 ?k3 ?k4 ?k5 ?k6 c1 c2 ?k7 ?k8 ?_)
    case k4 => exact N3
    case dN => exact dd2
    case dA => exact dd3
    case p2 => omega
    case p4 => omega
    case k1 => k_asm
    case k2 => k_asm
    case k3 => k_asm
    case k5 => k_asm
    case k6 => first | assumption | exact rfl
    case k7 => ktr_room
    case k8 => ktr_units
    intro t9 h9 tk9 F9 N9
    clear N3
    k_steps
    rename_i kF kN _ _
    refine cn_end hret kF (pickE kN) (Out42.mk #[rawInt ((47 : Nat) : Int), rawInt (4 : Int), .ref c] [] t9 ?_ rfl (.inr ⟨c, oc, vc, t, rfl, .tail _ hc, dc1, dc2⟩) ?_)
    · rw [seg_all]
    · exact fun p hp => nomatch hp
  · rename_i g1 L1 h1 tk1 FG1 B1 X1 T1 l0 l13 o1 o2 o3 dd1 dd2 dd3 f ct dc h5 tk2 l1 h6 oI F2 N2 dI hne kF kN _ _
    refine cn_end hret kF (pickF kN) (Out42.mk #[rawInt ((47 : Nat) : Int), rawInt (4 : Int), .ref c] [] _ (int0 (show ns.length = 0 by omega)) rfl (.inr ⟨c, oc, vc, t, rfl, .tail _ hc, dc1, dc2⟩) ?_)
    · exact fun p hp => nomatch hp
theorem d42 (w : World) (n : Int) (tn : Tok) (rest : Led) (D : Addr) (cnt : Nat) (vs : List Value) (ns : List Int) (ps : Array Value) (hp : Tab 47 qual5 ps rest) (hI : IntsAre vs ns) (hns : ns.length ≤ 300) (hd0 : ∀ d ∈ ns, 0 ≤ d ∧ d < 2 ^ n.toNat) (hn : 1 ≤ n) (hn1 : n ≤ 200) (hr : ∀ p ∈ rest, @Ne Nat p.1 37) (hD : @Ne Nat D 37) :
    Cn w 42 310 7000 [.ref D, .int n tn] ((D, W.listOf vs.toArray cnt) :: (37, tabObj ps) :: rest) (Out42 (undig n.toNat ns) ((D, W.listOf vs.toArray cnt) :: rest)) := by
  rcases hp with rfl | ⟨c, oc, vc, t, rfl, m, d1, d2⟩
  · exact d42a w n tn rest D cnt vs ns hI hns hd0 hn hn1 hr hD
  · exact d42b w n tn rest D cnt vs ns hI hns hd0 hn hn1 hr hD c oc vc t m d1 d2

end
section
set_option maxRecDepth 100000
set_option maxHeartbeats 8000000
theorem fill7 : (PySem.Challenge.rw_wb0084_01 = PySem.Challenge.rw_wb0084_01) ∧ K = K := by
  k_fill
  exact ⟨rfl, rfl⟩
noncomputable def OutDM (q r : Int) (rest : Led) (nw : Led) (v : Value) : Prop :=
  ∀ G : Led → Value → Prop, (∀ D ps qs ex t u, (Tab 32 qual4 ps (ex ++ rest) ∧ Tab 47 qual5 qs (ex ++ rest) ∧
    (∀ p ∈ ex, @LT.lt Nat _ 30 p.1 ∧ @LT.lt Nat _ 37 p.1 ∧ @Ne Nat p.1 D ∧ ∀ q ∈ rest, @LT.lt Nat _ q.1 p.1) ∧ @LT.lt Nat _ 30 D ∧ @LT.lt Nat _ 37 D ∧ (∀ p ∈ rest, @LT.lt Nat _ p.1 D)) → G ((D, tup2 (.int q t) (.int r u)) :: (30, tabObj ps) :: (37, tabObj qs) :: (ex ++ rest)) (.ref D)) → G nw v
theorem OutDM.el {q r : Int} {rest : Led} (G : Led → Value → Prop) (T : ∀ D ps qs ex t u, (Tab 32 qual4 ps (ex ++ rest) ∧ Tab 47 qual5 qs (ex ++ rest) ∧
    (∀ p ∈ ex, @LT.lt Nat _ 30 p.1 ∧ @LT.lt Nat _ 37 p.1 ∧ @Ne Nat p.1 D ∧ ∀ q ∈ rest, @LT.lt Nat _ q.1 p.1) ∧ @LT.lt Nat _ 30 D ∧ @LT.lt Nat _ 37 D ∧ (∀ p ∈ rest, @LT.lt Nat _ p.1 D)) → G ((D, tup2 (.int q t) (.int r u)) :: (30, tabObj ps) :: (37, tabObj qs) :: (ex ++ rest)) (.ref D)) (n : Led) (v : Value) (o : OutDM q r rest n v) : G n v := o G T
theorem OutDM.mk {q r : Int} {rest : Led} {n9 : Led} {v9 : Value} (D : Addr) (ps : Array Value) (qs : Array Value) (ex : Led) (t : Tok) (u : Tok) (hv : v9 = .ref D) (hn : n9 = (D, tup2 (.int q t) (.int r u)) :: (30, tabObj ps) :: (37, tabObj qs) :: (ex ++ rest)) (h0 : Tab 32 qual4 ps (ex ++ rest) ∧ Tab 47 qual5 qs (ex ++ rest) ∧
    (∀ p ∈ ex, @LT.lt Nat _ 30 p.1 ∧ @LT.lt Nat _ 37 p.1 ∧ @Ne Nat p.1 D ∧ ∀ q ∈ rest, @LT.lt Nat _ q.1 p.1) ∧ @LT.lt Nat _ 30 D ∧ @LT.lt Nat _ 37 D ∧ (∀ p ∈ rest, @LT.lt Nat _ p.1 D)) : OutDM q r rest n9 v9 := by
  subst hv hn; exact fun G9 k9 => k9 D ps qs ex t u h0
theorem OutDM.el6 {q r : Int} {rest : Led} (G : Led → Value → Prop) (T : ∀ D ps qs ex t u, Tab 32 qual4 ps (ex ++ rest) → Tab 47 qual5 qs (ex ++ rest) →
    (∀ p ∈ ex, @LT.lt Nat _ 30 p.1 ∧ @LT.lt Nat _ 37 p.1 ∧ @Ne Nat p.1 D ∧ ∀ q ∈ rest, @LT.lt Nat _ q.1 p.1) → @LT.lt Nat _ 30 D → @LT.lt Nat _ 37 D → (∀ p ∈ rest, @LT.lt Nat _ p.1 D) → G ((D, tup2 (.int q t) (.int r u)) :: (30, tabObj ps) :: (37, tabObj qs) :: (ex ++ rest)) (.ref D)) (n : Led) (v : Value) (o : OutDM q r rest n v) : G n v := o G fun D ps qs ex t u hx => T D ps qs ex t u hx.1 hx.2.1 hx.2.2.1 hx.2.2.2.1 hx.2.2.2.2.1 hx.2.2.2.2.2
section
variable {prog : Program} {w : World} {A : Around} {E : Value → Shared → Prop} {s : Shared} {env : Env} {h₀ : Heap} {x : Str} {body : List Stmt} {Q : Flow → Shared → Prop}
theorem unr_mono {L : Addr} {s₁ s₂ : Shared} {I : Addr} {it : Obj} {R R' : (Str → Option Value) → Led → Prop} {f : Flow} (h : ∀ m n, R m n → R' m n) (u : UnrPost h₀ L s₁ I it R Q f s₂) : UnrPost h₀ L s₁ I it R' Q f s₂ := by
  have e : UnrEnd h₀ L s₁ I it R s₂ → UnrEnd h₀ L s₁ I it R' s₂ := by
    rintro ⟨h', tk, m', news', e, F', N', ho, r⟩
    exact ⟨h', tk, m', news', e, F', N', ho, h _ _ r⟩
  cases f with
  | ret v => exact u
  | brk => exact u
  | next => exact e u
  | cont => exact e u
theorem rev_inv {I : Addr} {lp : Addr × Obj} (J : List Value → (Str → Option Value) → Led → Prop)
    (turn : ∀ v r m news it h tk, J (v :: r) m news → it.cls = .type "list_reverseiterator" → Fr h₀ env.locals h (fun y => if y = x then some v else m y) → News h₀ env.locals h ((I, it) :: news) →
      wpAny (model prog w) A (execs body env) (UnrPost h₀ env.locals { s with heap := h, toks := tk } I it (fun m' n' => lp ∈ n' ∧ J r m' n') Q) E { s with heap := h, toks := tk })
    (done : ∀ m news h tk, J [] m news → Fr h₀ env.locals h m → News h₀ env.locals h news → Q .next { s with heap := h, toks := tk }) :
    ∀ vs m news, J vs m news → RevRest prog w A E h₀ env x body Q s I lp vs m news
  | [], m, news, j => RevRest.zero fun h tk F N => done m news h tk j F N
  | v :: r, m, news, j => RevRest.succ fun it h tk hc F N =>
    wpAny_mono (turn v r m news it h tk j hc F N) (fun f s₂ u => unr_mono (fun m' n' z => ⟨z.1, rev_inv J turn done r m' n' z.2⟩) u) fun _ _ e => e
theorem offI_lt {I : Addr} {it : Obj} : ∀ {l : Led}, AllLt I l → OffI I it l
  | [], _ => trivial
  | p :: r, h => ⟨.inl (Nat.ne_of_lt h.1), offI_lt h.2⟩
noncomputable def RSt {σ : Type} (Ld : σ → Led) (mp : σ → List (Str × Value)) (x : Str) (opt : List Str) (m₀ : Str → Option Value) (P : List Value → σ → Prop) (r : List Value) (m : Str → Option Value) (nx : Led) : Prop :=
  ∃ c : σ, nx = Ld c ∧ (∀ p ∈ mp c, m p.1 = some p.2) ∧ (∀ z, z ≠ x → (∀ p ∈ mp c, z ≠ p.1) → opt.contains z = false → m z = m₀ z) ∧ P r c
theorem rev_loop {σ : Type} {ax I : Addr} {lo : Obj} {vs : List Value} {n : Nat} {m₀ : Str → Option Value} (Ld : σ → Led) (mp : σ → List (Str × Value)) (opt : List Str) (P : List Value → σ → Prop) (c₀ : σ)
    (hh : A.handled = none) (F : Fr h₀ env.locals s.heap m₀) (N : News h₀ env.locals s.heap ((I, revObj ax ((vs.length : Int) - 1)) :: Ld c₀)) (lt : AllLt I (Ld c₀)) (hm : (ax, lo) ∈ Ld c₀) (hc : lo.cls = .type "list") (hd : lo.data = .seq vs.toArray n)
    (hk : ∀ p ∈ mp c₀, m₀ p.1 = some p.2) (hp : P vs.reverse c₀)
    (turn : ∀ c v r (u : Str → Option Value) it h tk, P (v :: r) c → it.cls = .type "list_reverseiterator" → Fr h₀ env.locals h (fun y => if y = x then some v else kstB (fun z => if opt.contains z then u z else m₀ z) (mp c) y) → News h₀ env.locals h ((I, it) :: Ld c) →
      wpAny (model prog w) A (execs body env) (UnrPost h₀ env.locals { s with heap := h, toks := tk } I it (fun m' n' => (ax, lo) ∈ n' ∧ RSt Ld mp x opt m₀ P r m' n') Q) E { s with heap := h, toks := tk })
    (done : ∀ c (u : Str → Option Value) h tk, P [] c → Fr h₀ env.locals h (fun y => if y = x then u y else kstB (fun z => if opt.contains z then u z else m₀ z) (mp c) y) → News h₀ env.locals h (Ld c) → Q .next { s with heap := h, toks := tk }) :
    wpAny (model prog w) A (pyIter (.ref I)) (fun it s₂ => LoopAtV prog w A h₀ env x body Q E it s₂) E s := by
  refine iter_revUnr (n := n) hh F N (offI_lt lt) hm hc hd ?_
  refine rev_inv (RSt Ld mp x opt m₀ P) ?_ ?_ _ _ _ ⟨c₀, rfl, hk, fun _ _ _ _ => rfl, hp⟩
  · rintro v r m news it h tk ⟨c, rfl, h1, h2, hp'⟩ hcl F₁ N₁
    exact turn c v r m it h tk hp' hcl (kst_fr h1 h2 F₁) N₁
  · rintro m news h tk ⟨c, rfl, h1, h2, hp'⟩ F₁ N₁
    exact done c m h tk hp' (kst_frOut h1 h2 F₁) N₁
end
theorem mvB {g h : Heap} {L : Addr} {q d a b : Addr × Obj} {r : Led} (N : News g L h (q :: d :: a :: b :: r)) : News g L h (q :: b :: d :: a :: r) := fun p hp => N p (by
  simp only [List.mem_cons] at hp ⊢
  rcases hp with q | q | q | q | q <;> simp [q])
theorem mvC {g h : Heap} {L : Addr} {q d a b : Addr × Obj} {ex ex' r : Led} (N : News g L h (b :: (ex' ++ (q :: d :: a :: (ex ++ r))))) : News g L h (a :: b :: ((ex' ++ ex) ++ r)) := fun p hp => N p (by
  simp only [List.mem_cons, List.mem_append] at hp ⊢
  rcases hp with q | q | (q | q) | q <;> simp [q])
noncomputable def NoCode (o : Obj) : Prop := ∀ vs, o.data = .fields vs → ∀ q t, vs[1]? ≠ some (.str q t)
theorem Tab.noCode {ln : Nat} {qual : Str} {ps : Array Value} {l : Led} (x : Tab ln qual ps l) : NoCode (tabObj ps) := by
  intro vs h q t e
  have h2 : vs = ps := by have h3 : Data.fields ps = .fields vs := h; cases h3; rfl
  subst h2
  rcases x with rfl | ⟨c, oc, vs', t', rfl, _⟩
  · cases e
  · cases e
theorem Tab.sub {ln : Nat} {qual : Str} {ps : Array Value} {l l' : Led} (x : Tab ln qual ps l) (h : ∀ p ∈ l, p ∈ l' ∨ NoCode p.2) : Tab ln qual ps l' := by
  rcases x with x | ⟨c, oc, vs, t, e, m, d, d2⟩
  · exact .inl x
  · rcases h _ m with h | h
    · exact .inr ⟨c, oc, vs, t, e, h, d, d2⟩
    · exact absurd d2 (h vs d _ _)
theorem mv37 {g h : Heap} {L : Addr} {a b c : Addr × Obj} {ex r : Led} (N : News g L h (a :: b :: (ex ++ c :: r))) : News g L h (a :: b :: c :: (ex ++ r)) := fun p hp => N p (by
  simp only [List.mem_cons, List.mem_append] at hp ⊢
  rcases hp with q | q | q | q | q <;> simp [q])
local macro_rules | `(tactic| walk_at "call builtin:list.append") => `(tactic| (k_here; (with_reducible show wpAny _ _ (call (Value.builtin _) [Value.ref _, _]) _ _ _); k_dflt (refine' append_K ?k1 ?k2 ?k3 ?_ ?z; (case k1 | k2 => k_asm); (case k3 => k_upd); (case z => assumption); k_whole); intro h' F' N'; (try simp only [List.push_toArray] at N'); (try k_sweep)))
theorem ints_el {v : Value} {r : List Value} {ks : List Int} (h : IntsAre (v :: r) ks) {G : Value → List Int → Prop} (k : ∀ n t ns, IntsAre r ns → G (.int n t) (n :: ns)) : G v ks := by
  cases h with
  | @cons n t _ _ h => exact k n t _ h
theorem ints_nil {P : List Int → Prop} (h : ∃ ks, IntsAre [] ks ∧ P ks) : P [] := by
  obtain ⟨ks, h1, h2⟩ := h
  cases h1
  exact h2
theorem d49 (w : World) (a b : Int) (ta tb : Tok) (rest : Led) (ps qs : Array Value) (T1 : Tab 32 qual4 ps rest) (T2 : Tab 47 qual5 qs rest) (ha : 0 ≤ a) (ha1 : a.natAbs < 2 ^ 190) (hb : 0 < b) (hb1 : b.natAbs < 2 ^ 190) (hr : ∀ p ∈ rest, @Ne Nat p.1 30 ∧ @Ne Nat p.1 37) :
    Cn w 49 320 8000 [.int a ta, .int b tb] ((30, tabObj ps) :: (37, tabObj qs) :: rest) (OutDM (a.fdiv b) (a.fmod b) rest) := by
  unfold Cn
  intro mg mb mean dp un gd cn cs ad ccd cl outer A₀ base h₀ L m s Q E B F X N T hk c1 c2 hd hu hret
  have hn0 : 1 ≤ (↑(Builtin.Int.intBits b) : Int) := by
    rcases Nat.eq_zero_or_pos (Builtin.Int.intBits b) with h | h
    · have := (intBits_le_iff (m := 0) (x := b)).mp (by omega)
      omega
    · omega
  have hn1 : (↑(Builtin.Int.intBits b) : Int) ≤ 190 := by
    have := (intBits_le_iff (m := 190) (x := b)).mpr hb1
    omega
  refine wpAny_call ?_
  k_dflt ktr_rel
  k_steps
  have hr' : ∀ p ∈ (37, tabObj qs) :: rest, @Ne Nat p.1 30 := by
    intro p hp
    rcases List.mem_cons.mp hp with rfl | hp
    · exact (by decide : @Ne Nat 37 30)
    · exact (hr p hp).1
  k_dflt (refine' cn_useE (d35 w a _ ta _ ((37, tabObj qs) :: rest) ps (T1.mono fun p hp => .tail _ hp) ha ?p1 hn0 ?p2 hr') Out35.el ?k1 ?k2 ?k3 ?k4 ?k5 ?k6 c1 c2 ?k7 ?k8 ?_)
  case p1 => exact Nat.lt_of_lt_of_le ha1 (Nat.pow_le_pow_right (by decide) (by decide))
  case p2 => omega
  case k1 => k_asm
  case k2 => k_asm
  case k3 => k_asm
  case k4 => k_asm
  case k5 => k_asm
  case k6 => first | assumption | exact rfl
  case k7 => ktr_room
  case k8 => ktr_units
  intro D ps' ex vs T1' hex h30 hlt hI h9 tk9 F9 N9
  have N8 := mv37 N9
  clear N9
  k_steps
  rename_i g0 L0 hZ FG1 B1 X1 T1 l0 l14 hA hB tkA hC LQ hD l15 hE I hF F2 N2 l16
  have hbN : b < 2 ^ (↑(Builtin.Int.intBits b) : Int).toNat := by
    have := (intBits_le_iff (m := Builtin.Int.intBits b) (x := b)).mp (Nat.le_refl _)
    rw [Int.toNat_natCast]
    have e : ((2 : Int) ^ (Builtin.Int.intBits b)) = ((2 ^ (Builtin.Int.intBits b) : Nat) : Int) := by simp
    rw [e]; omega
  have hxLQ : ∀ p ∈ ex ++ rest, @Ne Nat p.1 LQ := fun p hp => Nat.ne_of_lt (allLt_mem l15.2.2.2 p hp)
  obtain ⟨q0, q1, q2, q3, q4⟩ := cnt_facts ha (Nat.lt_of_lt_of_le ha1 (Nat.pow_le_pow_right (by decide) (by decide))) hn0
  refine' rev_loop (σ := List Value × List Int × Int × Tok × Nat) (ax := D) (lo := W.listOf vs.toArray 0) (vs := vs) (n := 0) (fun c => (LQ, W.listOf c.1.toArray c.2.2.2.2) :: (D, W.listOf vs.toArray 0) :: (30, tabObj ps') :: (37, tabObj qs) :: (ex ++ rest)) (fun c => [(Str.ofString "r", .int c.2.2.1 c.2.2.2.1)]) [Str.ofString "q_digit"]
    (fun r c => IntsAre c.1 c.2.1 ∧ ∃ ks, IntsAre r ks ∧ DInv (↑(Builtin.Int.intBits b) : Int).toNat a b ks c.2.1 c.2.2.1) ([], [], 0, ?tk0, 0) ?hh F2 N2 ?lt ?hm rfl rfl ?hk ?hp ?turn ?done
  case hk =>
    refine List.forall_mem_cons.mpr ⟨?_, List.forall_mem_nil _⟩
    with_unfolding_all rfl
  case hh => rfl
  case lt => exact ⟨l16.1, l16.2.1, l16.2.2.1, l16.2.2.2.1, l16.2.2.2.2⟩
  case hm => exact .tail _ (.head _)
  case hp =>
    refine ⟨.nil, (dig (↑(Builtin.Int.intBits b) : Int).toNat (cnt4 a ↑(Builtin.Int.intBits b)).toNat a.toNat).reverse, ?_, DInv.init hb ?_ (dig_bd _ _ _) ?_⟩
    · exact hI.reverse
    · rw [undig_dig _ _ _ q4]; omega
    · rw [dig_len]; show ((↑(Builtin.Int.intBits a) + (↑(Builtin.Int.intBits b) : Int) - 1).fdiv ↑(Builtin.Int.intBits b)).toNat ≤ 300; omega
  case turn =>
    with_reducible refine prod5 fun vq qd rr tr cnt => ?_
    intro v r u it h tk hP hcl F3 N3
    refine any_QE0 fun Q9 E9 hQ9 => ?_
    with_reducible refine and2 hP fun hq hP2 => ?_
    with_reducible refine ex1and2 hP2 fun ks hr hDI => ?_
    clear hP hP2
    dsimp only at F3 N3 hq hDI
    revert F3 hDI
    apply ints_el hr
    clear hr
    intro k t ks hr F3 hDI
    have r0 := hDI.r0
    have r1 := hDI.r1
    have hrb : Builtin.Int.intBits rr ≤ 190 := intBits_le_iff.mpr (by omega)
    have hrz : (↑(Builtin.Int.intBits rr) : Int) + ↑(Builtin.Int.intBits b) ≤ 2 ^ 27 := by omega
    have hvl : vq.length ≤ 300 := by have := hDI.len; have := hq.length; simp at this ⊢; omega
    have hvz : vq.toArray.size ≤ sizeLine := by simp; exact Nat.le_trans hvl (by decide)
    k_steps
    have hxb := hDI.xb (by omega) hb1
    k_dflt (refine' cn_useE (d21 w _ b _ _ _ _ _ ?q1 hb ?q2) OutPair.el ?k1 ?k2 ?k3 ?k4 ?k5 ?k6 c1 c2 ?k7 ?k8 ?_)
    case q1 => omega
    case q2 => exact Nat.lt_of_lt_of_le hb1 (Nat.pow_le_pow_right (by decide) (by decide))
    case k1 => k_asm
    case k2 => k_asm
    case k3 => k_asm
    case k4 => k_asm
    case k5 => k_asm
    case k6 => first | assumption | exact rfl
    case k7 => ktr_room
    case k8 => ktr_units
    intro D9 t9 u9 l9 h9 tk9 F9 N9
    have l1 := l9
    (try k_lt l1)
    k_steps
    rename_i F4 N4
    refine hQ9 _ _ ?_
    refine ⟨_, _, _, (LQ, W.listOf (vq ++ [Value.int ((rr * 2 ^ (↑(Builtin.Int.intBits b) : Int).toNat + k).fdiv b) t9]).toArray (cnt + 1)) :: (D, W.listOf vs.toArray 0) :: (30, tabObj ps') :: (37, tabObj qs) :: (ex ++ rest), rfl, F4, fun p hp => N4 p (.tail _ hp), ?_, .tail _ (.head _), ⟨(vq ++ [_], qd ++ [_], _, u9, cnt + 1), rfl, ?_, ?_, ⟨hq.append (.cons _ _ .nil), _, hr, hDI.step hbN⟩⟩⟩
    · have e : AllLt I ((LQ, W.listOf (vq ++ [Value.int ((rr * 2 ^ (↑(Builtin.Int.intBits b) : Int).toNat + k).fdiv b) t9]).toArray (cnt + 1)) :: (D, W.listOf vs.toArray 0) :: (30, tabObj ps') :: (37, tabObj qs) :: (ex ++ rest)) := ⟨l16.1, l16.2.1, l16.2.2.1, l16.2.2.2.1, l16.2.2.2.2⟩
      exact fun p hp => Nat.ne_of_lt (allLt_mem e p hp)
    · refine List.forall_mem_cons.mpr ⟨?_, List.forall_mem_nil _⟩
      with_unfolding_all rfl
    · intro z z1 z2 z3
      have z4 : z ≠ Str.ofString "r" := z2 _ (.head _)
      have z5 : z ≠ Str.ofString "q_digit" := by
        rintro rfl
        exact absurd z3 (by decide)
      dsimp only
      rw [if_neg z4, if_neg z5, if_neg z1]
      dsimp only [kstB]
      rw [if_neg z4, if_neg (by rw [z3]; exact Bool.false_ne_true)]
  case done =>
    with_reducible refine prod5 fun vq qd rr tr cnt => ?_
    intro u h tk hP F3 N3
    with_reducible refine and2 hP fun hq hP2 => ?_
    dsimp only at F3 N3 hq hP2
    have hDI := ints_nil hP2
    clear hP hP2
    have hvl : vq.length ≤ 300 := by have := hDI.len; have := hq.length; simp at this ⊢; omega
    k_steps
    k_dflt (refine' kl_reverse (l := vq.reverse) ?F ?N ?e ?U ?z ?_; (case F => k_asm); (case N => k_asm); (case U => k_upd); (case e => simp))
    case z => show vq.toArray.toList.length ≤ sizeLine; simp; exact Nat.le_trans hvl (by decide)
    kl_rest
    k_steps
    have hvi : IntsAre vq.reverse qd.reverse := hq.reverse
    have e1 := hDI.fin.1
    have e2 := hDI.fin.2
    k_dflt (refine' cn_useE (d42 w _ _ ((D, W.listOf vs.toArray 0) :: (30, tabObj ps') :: (ex ++ rest)) LQ _ _ _ qs (T2.mono ?p1) hvi ?p2 ?p3 hn0 ?p4 ?p5 ?p6) Out42.el ?k1 ?k2 ?k3 ?k4 ?k5 ?k6 c1 c2 ?k7 ?k8 ?_)
    case p1 => exact fun p hp => .tail _ (.tail _ (List.mem_append_right _ hp))
    case p2 => have := hDI.len; simp at this ⊢; omega
    case p3 => exact fun d hd => hDI.qb d (List.mem_reverse.mp hd)
    case p4 => omega
    case p5 =>
      intro p hp
      rcases List.mem_cons.mp hp with rfl | hp
      · have := hlt _ (.head _)
        show @Ne Nat D 37; have h8 : @LT.lt Nat _ 37 D := this; omega
      rcases List.mem_cons.mp hp with rfl | hp
      · show @Ne Nat 30 37; decide
      rcases List.mem_append.mp hp with hp | hp
      · have h8 : @LT.lt Nat _ 37 p.1 := (hex p hp).2.2 _ (.head _)
        omega
      · exact (hr p hp).2
    case p6 => show @Ne Nat LQ 37; omega
    case k4 => exact mvB (by assumption)
    case k1 => k_asm
    case k2 => k_asm
    case k3 => k_asm
    case k5 => k_asm
    case k6 => first | assumption | exact rfl
    case k7 => ktr_room
    case k8 => ktr_units
    intro qs' ex' t7 T2' hex' h7 tk7 F7 N7
    have N6 := mvC N7
    clear N7
    k_steps
    rename_i hu Dn hv F5 N5 l17 kF kN _ _
    rw [e1, e2] at kN
    refine cn_end hret kF kN (OutDM.mk Dn ps' qs' (ex' ++ ex) _ _ rfl rfl ⟨?_, ?_, ?_, l17.1, l17.2.1, ?_⟩)
    · refine T1'.sub fun p hp => ?_
      rcases List.mem_append.mp hp with hp | hp
      · exact .inl (List.mem_append_left _ (List.mem_append_right _ hp))
      rcases List.mem_cons.mp hp with rfl | hp
      · exact .inr T2.noCode
      · exact .inl (List.mem_append_right _ hp)
    · refine T2'.sub fun p hp => ?_
      rcases List.mem_append.mp hp with hp | hp
      · exact .inl (List.mem_append_left _ (List.mem_append_left _ hp))
      rcases List.mem_cons.mp hp with rfl | hp
      · exact .inr (fun vs h => nomatch h)
      rcases List.mem_cons.mp hp with rfl | hp
      · exact .inr (fun vs h => nomatch h)
      rcases List.mem_cons.mp hp with rfl | hp
      · exact .inr T1'.noCode
      rcases List.mem_append.mp hp with hp | hp
      · exact .inl (List.mem_append_left _ (List.mem_append_right _ hp))
      · exact .inl (List.mem_append_right _ hp)
    · intro p hp
      have h8 := allLt_mem l17.2.2 p (List.mem_append_left _ hp)
      rcases List.mem_append.mp hp with hp | hp
      · obtain ⟨x1, x2, x3⟩ := hex' p hp
        exact ⟨x3 _ (.tail _ (.tail _ (.head _))), x1, Nat.ne_of_lt h8, fun q hq => x3 q (.tail _ (.tail _ (.tail _ (List.mem_append_right _ hq))))⟩
      · obtain ⟨x1, x2, x3⟩ := hex p hp
        exact ⟨x1, x3 _ (.head _), Nat.ne_of_lt h8, fun q hq => x3 q (.tail _ hq)⟩
    · exact fun p hp => allLt_mem l17.2.2 p (List.mem_append_right _ hp)

end
section
set_option maxRecDepth 100000
set_option maxHeartbeats 8000000
theorem fill8 : (PySem.Challenge.rw_wb0084_01 = PySem.Challenge.rw_wb0084_01) ∧ K = K := by
  k_fill
  exact ⟨rfl, rfl⟩
theorem bitNot_eq (a : Int) : Builtin.bitNot a = -a - 1 := by
  unfold Builtin.bitNot
  (first | lia | omega)
theorem dm_not {a b : Int} (hb : 0 < b) : Builtin.bitNot ((Builtin.bitNot a).fdiv b) = a.fdiv b ∧ b + Builtin.bitNot ((Builtin.bitNot a).fmod b) = a.fmod b := by
  rw [bitNot_eq, bitNot_eq, bitNot_eq, Int.fdiv_eq_ediv_of_nonneg _ (by (first | lia | omega)), Int.fdiv_eq_ediv_of_nonneg _ (by (first | lia | omega)), Int.fmod_eq_emod_of_nonneg _ (by (first | lia | omega)), Int.fmod_eq_emod_of_nonneg _ (by (first | lia | omega))]
  have h1 := Int.mul_ediv_add_emod a b
  have h2 := Int.emod_nonneg a (show b ≠ 0 by (first | lia | omega))
  have h3 := Int.emod_lt_of_pos a hb
  have e : -a - 1 = (b - 1 - a % b) + b * (-(a / b) - 1) := by
    rw [Int.mul_sub, Int.mul_neg, Int.mul_one]; (first | lia | omega)
  rw [e]
  constructor
  · rw [Int.add_mul_ediv_left _ _ (by (first | lia | omega)), Int.ediv_eq_zero_of_lt (by (first | lia | omega)) (by (first | lia | omega))]; (first | lia | omega)
  · rw [Int.add_mul_emod_self_left, Int.emod_eq_of_lt (by (first | lia | omega)) (by (first | lia | omega))]; (first | lia | omega)
theorem dm_neg {a b : Int} : (-a).fdiv (-b) = a.fdiv b ∧ -((-a).fmod (-b)) = a.fmod b := by
  refine ⟨Int.neg_fdiv_neg a b, ?_⟩
  rw [Int.fmod_def, Int.fmod_def, Int.neg_fdiv_neg, Int.neg_mul]
  (first | lia | omega)
theorem dropD {g h : Heap} {L : Addr} {a d x y : Addr × Obj} {r : Led} (N : News g L h (a :: d :: x :: y :: r)) : News g L h (a :: x :: y :: r) := fun p hp => N p (by
  simp only [List.mem_cons] at hp ⊢
  rcases hp with q | q | q | q <;> simp [q])
theorem dm_end {ps qs : Array Value} {D Dn : Addr} {ex rest : Led} {q r q' r' : Int} {t' u' : Tok} (hq : q = q') (hr : r = r')
    (hx : Tab 32 qual4 ps (ex ++ rest) ∧ Tab 47 qual5 qs (ex ++ rest) ∧ (∀ p ∈ ex, @LT.lt Nat _ 30 p.1 ∧ @LT.lt Nat _ 37 p.1 ∧ @Ne Nat p.1 D ∧ ∀ q ∈ rest, @LT.lt Nat _ q.1 p.1) ∧ @LT.lt Nat _ 30 D ∧ @LT.lt Nat _ 37 D ∧ (∀ p ∈ rest, @LT.lt Nat _ p.1 D))
    (hl : D < Dn ∧ 30 < Dn ∧ 37 < Dn ∧ AllLt Dn (ex ++ rest)) : OutDM q' r' rest ((Dn, tup2 (.int q t') (.int r u')) :: (30, tabObj ps) :: (37, tabObj qs) :: (ex ++ rest)) (.ref Dn) := by
  subst hq hr
  exact OutDM.mk Dn ps qs ex _ _ rfl rfl ⟨hx.1, hx.2.1, fun p hp => ⟨(hx.2.2.1 p hp).1, (hx.2.2.1 p hp).2.1, Nat.ne_of_lt (allLt_mem hl.2.2.2 p (List.mem_append_left _ hp)), (hx.2.2.1 p hp).2.2.2⟩, hl.2.1, hl.2.2.1, fun p hp => allLt_mem hl.2.2.2 p (List.mem_append_right _ hp)⟩
theorem d56p (w : World) (a b : Int) (ta tb : Tok) (rest : Led) (ps qs : Array Value) (T1 : Tab 32 qual4 ps rest) (T2 : Tab 47 qual5 qs rest) (ha : 0 ≤ a) (ha1 : a.natAbs < 2 ^ 190) (hb : 0 < b) (hb1 : b.natAbs < 2 ^ 190) (hr : ∀ p ∈ rest, @Ne Nat p.1 30 ∧ @Ne Nat p.1 37) :
    Cn w 56 325 8200 [.int a ta, .int b tb] ((30, tabObj ps) :: (37, tabObj qs) :: rest) (OutDM (a.fdiv b) (a.fmod b) rest) := by
  unfold Cn
  intro mg mb mean dp un gd cn cs ad ccd cl outer A₀ base h₀ L m s Q E B F X N T hk c1 c2 hd hu hret
  refine wpAny_call ?_
  k_dflt ktr_rel
  k_steps
  · exfalso; (first | lia | omega)
  · k_dflt (refine' cn_useE (d49 w a b _ _ rest ps qs T1 T2 ha ha1 hb hb1 hr) OutDM.el ?k1 ?k2 ?k3 ?k4 ?k5 ?k6 c1 c2 ?k7 ?k8 ?_)
    case k1 => k_asm
    case k2 => k_asm
    case k3 => k_asm
    case k4 => k_asm
    case k5 => k_asm
    case k6 => first | assumption | exact rfl
    case k7 => ktr_room
    case k8 => ktr_units
    intro D ps' qs' ex t u hx h9 tk9 F9 N9
    k_steps
    exact cn_end hret (by k_asm) (by k_asm) (OutDM.mk D ps' qs' ex t u rfl rfl hx)
theorem d56n (w : World) (a b : Int) (ta tb : Tok) (rest : Led) (ps qs : Array Value) (T1 : Tab 32 qual4 ps rest) (T2 : Tab 47 qual5 qs rest) (ha1 : a.natAbs < 2 ^ 190) (hb : 0 < b) (hb1 : b.natAbs < 2 ^ 190) (hr : ∀ p ∈ rest, @Ne Nat p.1 30 ∧ @Ne Nat p.1 37) :
    Cn w 56 330 8400 [.int a ta, .int b tb] ((30, tabObj ps) :: (37, tabObj qs) :: rest) (OutDM (a.fdiv b) (a.fmod b) rest) := by
  unfold Cn
  intro mg mb mean dp un gd cn cs ad ccd cl outer A₀ base h₀ L m s Q E B F X N T hk c1 c2 hd hu hret
  refine wpAny_call ?_
  k_dflt ktr_rel
  k_steps
  · exfalso; (first | lia | omega)
  · have hn := bitNot_eq a
    k_dflt (refine' cn_useE (d56p w (Builtin.bitNot a) b _ _ rest ps qs T1 T2 (by (first | lia | omega)) (by (first | lia | omega)) hb hb1 hr) OutDM.el ?k1 ?k2 ?k3 ?k4 ?k5 ?k6 c1 c2 ?k7 ?k8 ?_)
    case k1 => k_asm
    case k2 => k_asm
    case k3 => k_asm
    case k4 => k_asm
    case k5 => k_asm
    case k6 => first | assumption | exact rfl
    case k7 => ktr_room
    case k8 => ktr_units
    intro D ps' qs' ex t u hx h9 tk9 F9 N9
    k_steps
    rename_i kF kN _ _
    exact cn_end hret kF (dropD kN) (dm_end (dm_not hb).1 (dm_not hb).2 hx (by assumption))
  · k_dflt (refine' cn_useE (d49 w a b _ _ rest ps qs T1 T2 (by (first | lia | omega)) ha1 hb hb1 hr) OutDM.el ?k1 ?k2 ?k3 ?k4 ?k5 ?k6 c1 c2 ?k7 ?k8 ?_)
    case k1 => k_asm
    case k2 => k_asm
    case k3 => k_asm
    case k4 => k_asm
    case k5 => k_asm
    case k6 => first | assumption | exact rfl
    case k7 => ktr_room
    case k8 => ktr_units
    intro D ps' qs' ex t u hx h9 tk9 F9 N9
    k_steps
    exact cn_end hret (by k_asm) (by k_asm) (OutDM.mk D ps' qs' ex t u rfl rfl hx)
theorem d56 (w : World) (a b : Int) (ta tb : Tok) (rest : Led) (ps qs : Array Value) (T1 : Tab 32 qual4 ps rest) (T2 : Tab 47 qual5 qs rest) (ha1 : a.natAbs < 2 ^ 190) (hb : b ≠ 0) (hb1 : b.natAbs < 2 ^ 190) (hr : ∀ p ∈ rest, @Ne Nat p.1 30 ∧ @Ne Nat p.1 37) :
    Cn w 56 335 8600 [.int a ta, .int b tb] ((30, tabObj ps) :: (37, tabObj qs) :: rest) (OutDM (a.fdiv b) (a.fmod b) rest) := by
  unfold Cn
  intro mg mb mean dp un gd cn cs ad ccd cl outer A₀ base h₀ L m s Q E B F X N T hk c1 c2 hd hu hret
  refine wpAny_call ?_
  k_dflt ktr_rel
  k_steps
  · exfalso; (first | lia | omega)
  · k_dflt (refine' cn_useE (d56n w (-a) (-b) _ _ rest ps qs T1 T2 (by (first | lia | omega)) (by (first | lia | omega)) (by (first | lia | omega)) hr) OutDM.el ?k1 ?k2 ?k3 ?k4 ?k5 ?k6 c1 c2 ?k7 ?k8 ?_)
    case k1 => k_asm
    case k2 => k_asm
    case k3 => k_asm
    case k4 => k_asm
    case k5 => k_asm
    case k6 => first | assumption | exact rfl
    case k7 => ktr_room
    case k8 => ktr_units
    intro D ps' qs' ex t u hx h9 tk9 F9 N9
    k_steps
    rename_i kF kN _ _
    exact cn_end hret kF (dropD kN) (dm_end dm_neg.1 dm_neg.2 hx (by assumption))
  · have hn := bitNot_eq a
    k_dflt (refine' cn_useE (d56p w (Builtin.bitNot a) b _ _ rest ps qs T1 T2 (by (first | lia | omega)) (by (first | lia | omega)) (by (first | lia | omega)) hb1 hr) OutDM.el ?k1 ?k2 ?k3 ?k4 ?k5 ?k6 c1 c2 ?k7 ?k8 ?_)
    case k1 => k_asm
    case k2 => k_asm
    case k3 => k_asm
    case k4 => k_asm
    case k5 => k_asm
    case k6 => first | assumption | exact rfl
    case k7 => ktr_room
    case k8 => ktr_units
    intro D ps' qs' ex t u hx h9 tk9 F9 N9
    k_steps
    rename_i kF kN _ _
    exact cn_end hret kF (dropD kN) (dm_end (dm_not (by (first | lia | omega))).1 (dm_not (by (first | lia | omega))).2 hx (by assumption))
  · k_dflt (refine' cn_useE (d49 w a b _ _ rest ps qs T1 T2 (by (first | lia | omega)) ha1 (by (first | lia | omega)) hb1 hr) OutDM.el ?k1 ?k2 ?k3 ?k4 ?k5 ?k6 c1 c2 ?k7 ?k8 ?_)
    case k1 => k_asm
    case k2 => k_asm
    case k3 => k_asm
    case k4 => k_asm
    case k5 => k_asm
    case k6 => first | assumption | exact rfl
    case k7 => ktr_room
    case k8 => ktr_units
    intro D ps' qs' ex t u hx h9 tk9 F9 N9
    k_steps
    exact cn_end hret (by k_asm) (by k_asm) (OutDM.mk D ps' qs' ex t u rfl rfl hx)

end
section
set_option maxRecDepth 100000
set_option maxHeartbeats 8000000
theorem fill9 : (PySem.Challenge.rw_wb0084_01 = PySem.Challenge.rw_wb0084_01) ∧ K = K := by
  k_fill
  exact ⟨rfl, rfl⟩
theorem pow_small {p : Int} (h0 : 0 ≤ p) (h1 : p < 10) : (2 : Int) ^ p.toNat ≤ 512 ∧ 1 ≤ (2 : Int) ^ p.toNat := by
  have e : ((2 : Int) ^ p.toNat) = ((2 ^ p.toNat : Nat) : Int) := by simp
  have h2 := Nat.pow_le_pow_right (show 0 < 2 by decide) (show p.toNat ≤ 9 by omega)
  have h3 := Nat.pow_pos (n := p.toNat) (show 0 < 2 by decide)
  rw [e]
  omega
theorem tu_dm {tu a n : Int} (ht : tu = 1 ∨ tu = -1) : (tu * a).fdiv (tu * n) = a.fdiv n ∧ tu * ((tu * a).fmod (tu * n)) = a.fmod n := by
  rcases ht with rfl | rfl
  · simp
  · simp only [Int.neg_mul, Int.one_mul]; exact ⟨Int.neg_fdiv_neg a n, dm_neg.2⟩
noncomputable def OutI (v0 : Int) (rest : Led) (nw : Led) (v : Value) : Prop :=
  ∀ G : Led → Value → Prop, (∀ ps qs ex t, Tab 32 qual4 ps (ex ++ rest) → Tab 47 qual5 qs (ex ++ rest) → (∀ p ∈ ex, @LT.lt Nat _ 30 p.1 ∧ @LT.lt Nat _ 37 p.1 ∧ ∀ q ∈ rest, @LT.lt Nat _ q.1 p.1) → G ((30, tabObj ps) :: (37, tabObj qs) :: (ex ++ rest)) (.int v0 t)) → G nw v
theorem OutI.el {v0 : Int} {rest : Led} (G : Led → Value → Prop) (T : ∀ ps qs ex t, Tab 32 qual4 ps (ex ++ rest) → Tab 47 qual5 qs (ex ++ rest) → (∀ p ∈ ex, @LT.lt Nat _ 30 p.1 ∧ @LT.lt Nat _ 37 p.1 ∧ ∀ q ∈ rest, @LT.lt Nat _ q.1 p.1) → G ((30, tabObj ps) :: (37, tabObj qs) :: (ex ++ rest)) (.int v0 t)) (n : Led) (v : Value) (o : OutI v0 rest n v) : G n v := o G T
theorem OutI.mk {v0 : Int} {rest : Led} {n9 : Led} {v9 : Value} (ps : Array Value) (qs : Array Value) (ex : Led) (t : Tok) (hv : v9 = .int v0 t) (hn : n9 = (30, tabObj ps) :: (37, tabObj qs) :: (ex ++ rest)) (h0 : Tab 32 qual4 ps (ex ++ rest)) (h1 : Tab 47 qual5 qs (ex ++ rest)) (h2 : ∀ p ∈ ex, @LT.lt Nat _ 30 p.1 ∧ @LT.lt Nat _ 37 p.1 ∧ ∀ q ∈ rest, @LT.lt Nat _ q.1 p.1) : OutI v0 rest n9 v9 := by
  subst hv hn; exact fun G9 k9 => k9 ps qs ex t h0 h1 h2
theorem drop3 {g h : Heap} {L : Addr} {a b d x y : Addr × Obj} {r : Led} (N : News g L h (a :: b :: d :: x :: y :: r)) : News g L h (x :: y :: r) := fun p hp => N p (by
  simp only [List.mem_cons] at hp ⊢
  rcases hp with q | q | q <;> simp [q])
theorem d251 (w : World) (a p tu : Int) (ta tn tt : Tok) (rest : Led) (ps qs : Array Value) (T1 : Tab 32 qual4 ps rest) (T2 : Tab 47 qual5 qs rest) (h0 : -2 ^ 180 ≤ a) (h1 : a < 2 ^ 180) (hn : 0 ≤ p) (hn1 : p < 10) (ht : tu = 1 ∨ tu = -1) (hr : ∀ p ∈ rest, @Ne Nat p.1 30 ∧ @Ne Nat p.1 37) :
    Cn w 251 340 8800 [.int a ta, .int p tn, .int tu tt] ((30, tabObj ps) :: (37, tabObj qs) :: rest) (OutI (a.fmod (2 ^ p.toNat)) rest) := by
  unfold Cn
  intro mg mb mean dp un gd cn cs ad ccd cl outer A₀ base h₀ L m s Q E B F X N T hk c1 c2 hd hu hret
  have hp := pow_small hn hn1
  obtain ⟨p1, p0⟩ := hp
  have hb : tu * 2 ^ p.toNat ≠ 0 ∧ (tu * 2 ^ p.toNat).natAbs < 2 ^ 190 ∧ (tu * a).natAbs < 2 ^ 190 := by rcases ht with rfl | rfl <;> omega
  obtain ⟨e1, e2⟩ := tu_dm (a := a) (n := 2 ^ p.toNat) ht
  refine wpAny_call ?_
  k_dflt ktr_rel
  k_steps
  k_dflt (refine' cn_useE (d56 w _ _ _ _ rest ps qs T1 T2 hb.2.2 hb.1 hb.2.1 hr) OutDM.el6 ?k1 ?k2 ?k3 ?k4 ?k5 ?k6 c1 c2 ?k7 ?k8 ?_)
  case k1 => k_asm
  case k2 => k_asm
  case k3 => k_asm
  case k4 => k_asm
  case k5 => k_asm
  case k6 => first | assumption | exact rfl
  case k7 => ktr_room
  case k8 => ktr_units
  intro D ps' qs' ex t u x1 x2 x3 x4 x5 x6 h9 tk9 F9 N9
  k_steps
  · rename_i kF kN _ _
    exact cn_end hret kF (drop3 kN) (OutI.mk ps' qs' ex _ rfl rfl x1 x2 (fun p hp => ⟨(x3 p hp).1, (x3 p hp).2.1, (x3 p hp).2.2.2⟩))
  · rename_i hf _ _ _ _
    rw [e1, e2] at hf
    simp at hf

end
section
set_option maxRecDepth 100000
set_option maxHeartbeats 8000000
theorem fill10 : (PySem.Challenge.rw_wb0084_01 = PySem.Challenge.rw_wb0084_01) ∧ K = K := by
  k_fill
  exact ⟨rfl, rfl⟩
noncomputable def OutB (rest : Led) (nw : Led) (v : Value) : Prop :=
  ∀ G : Led → Value → Prop, (∀ ps qs ex, Tab 32 qual4 ps (ex ++ rest) → Tab 47 qual5 qs (ex ++ rest) → (∀ p ∈ ex, @LT.lt Nat _ 30 p.1 ∧ @LT.lt Nat _ 37 p.1 ∧ ∀ q ∈ rest, @LT.lt Nat _ q.1 p.1) → G ((30, tabObj ps) :: (37, tabObj qs) :: (ex ++ rest)) (.bool true)) → G nw v
theorem OutB.el {rest : Led} (G : Led → Value → Prop) (T : ∀ ps qs ex, Tab 32 qual4 ps (ex ++ rest) → Tab 47 qual5 qs (ex ++ rest) → (∀ p ∈ ex, @LT.lt Nat _ 30 p.1 ∧ @LT.lt Nat _ 37 p.1 ∧ ∀ q ∈ rest, @LT.lt Nat _ q.1 p.1) → G ((30, tabObj ps) :: (37, tabObj qs) :: (ex ++ rest)) (.bool true)) (n : Led) (v : Value) (o : OutB rest n v) : G n v := o G T
theorem OutB.mk {rest : Led} {n9 : Led} {v9 : Value} (ps : Array Value) (qs : Array Value) (ex : Led) (hv : v9 = .bool true) (hn : n9 = (30, tabObj ps) :: (37, tabObj qs) :: (ex ++ rest)) (h0 : Tab 32 qual4 ps (ex ++ rest)) (h1 : Tab 47 qual5 qs (ex ++ rest)) (h2 : ∀ p ∈ ex, @LT.lt Nat _ 30 p.1 ∧ @LT.lt Nat _ 37 p.1 ∧ ∀ q ∈ rest, @LT.lt Nat _ q.1 p.1) : OutB rest n9 v9 := by
  subst hv hn; exact fun G9 k9 => k9 ps qs ex h0 h1 h2
local macro_rules | `(tactic| walk_at "exec Raise some none") => `(tactic| (k_here; (with_reducible show wpAny _ _ (exec (Stmt.Raise (some (Expr.Name (Str.ofString "ZeroDivisionError") _)) none _) _) _ _ _); (with_reducible rename Fr _ _ _ _ => kF); k_dflt (refine' Raise_classB ?hh excClass_ZeroDivisionError ?hs ?hx ?_; (case hh => rfl); (case hs => (rw [isSubtype_type]; kernel_rfl)); (case hx => (refine' name_B kF ?k1 ?k2 ?k3 ?k4 ?k5 ?_; (case k1 | k2 => k_asm); (case k3 => k_is); (case k4 => boot_by_name); (case k5 => decide); exact ⟨rfl, rfl⟩))); intro h' e' hx'))
theorem fdiv_abs (a b : Int) : (a.fdiv b).natAbs ≤ a.natAbs := by
  rcases Int.lt_or_le b 0 with h | h
  · rw [← Int.neg_fdiv_neg, Int.fdiv_eq_ediv_of_nonneg _ (by omega), ← Int.natAbs_neg a]
    exact Int.natAbs_ediv_le_natAbs _ _
  · rw [Int.fdiv_eq_ediv_of_nonneg _ h]
    exact Int.natAbs_ediv_le_natAbs _ _
theorem fmod_sign {a b : Int} (hb : b ≠ 0) : (0 ≤ a.fmod b ∧ a.fmod b < b) ∨ (b < a.fmod b ∧ a.fmod b ≤ 0) := by
  rcases Int.lt_or_lt_of_ne hb with h | h
  · right
    rw [← dm_neg.2, Int.fmod_eq_emod_of_nonneg _ (by omega)]
    have := Int.emod_nonneg (-a) (show -b ≠ 0 by omega)
    have := Int.emod_lt_of_pos (-a) (show 0 < -b by omega)
    omega
  · left
    rw [Int.fmod_eq_emod_of_nonneg _ (by omega)]
    exact ⟨Int.emod_nonneg _ hb, Int.emod_lt_of_pos _ h⟩
local macro_rules | `(tactic| walk_at "binaryOp Mult int int") => `(tactic| (k_dflt (refine' PySem.mul_int ?_ ?hm; (case hm => assumption))))
theorem d258n (w : World) (a b : Int) (ta tn : Tok) (rest : Led) (ps qs : Array Value) (T1 : Tab 32 qual4 ps rest) (T2 : Tab 47 qual5 qs rest) (h0 : -2 ^ 180 ≤ a) (h1 : a < 2 ^ 180) (h2 : -2 ^ 180 ≤ b) (h3 : b < 2 ^ 180) (hb : b ≠ 0) (hr : ∀ p ∈ rest, @Ne Nat p.1 30 ∧ @Ne Nat p.1 37) :
    Cn w 258 340 8800 [.int a ta, .int b tn] ((30, tabObj ps) :: (37, tabObj qs) :: rest) (OutB rest) := by
  unfold Cn
  intro mg mb mean dp un gd cn cs ad ccd cl outer A₀ base h₀ L m s Q E B F X N T hk c1 c2 hd hu hret
  refine wpAny_call ?_
  k_dflt ktr_rel
  k_steps
  k_dflt (refine' cn_useE (d56 w _ _ _ _ rest ps qs T1 T2 ?p1 hb ?p2 hr) OutDM.el6 ?k1 ?k2 ?k3 ?k4 ?k5 ?k6 c1 c2 ?k7 ?k8 ?_)
  case p1 => omega
  case p2 => omega
  case k1 => k_asm
  case k2 => k_asm
  case k3 => k_asm
  case k4 => k_asm
  case k5 => k_asm
  case k6 => first | assumption | exact rfl
  case k7 => ktr_room
  case k8 => ktr_units
  intro D ps' qs' ex t u x1 x2 x3 x4 x5 x6 h9 tk9 F9 N9
  have f1 : a.fdiv b * b + a.fmod b = a := by rw [Int.mul_comm]; exact Int.mul_fdiv_add_fmod a b
  have f2 := fmod_sign (a := a) hb
  have hm9 : IntMulOk (a.fdiv b) b := PySem.IntMulOk.of_bits (Nat.le_trans (intBits_le_iff.mpr (Nat.lt_of_le_of_lt (fdiv_abs a b) (show a.natAbs < 2 ^ 181 by omega))) (by decide)) (Nat.le_trans (intBits_le_iff.mpr (show b.natAbs < 2 ^ 181 by omega)) (by decide))
  k_steps
  all_goals first
    | (exfalso; omega)
    | (rename_i kF kN _ _; exact cn_end hret kF (fun p hp => kN p (.tail _ hp)) (OutB.mk ps' qs' ex (congrArg Value.bool (decide_eq_true (by omega))) rfl x1 x2 (fun p hp => ⟨(x3 p hp).1, (x3 p hp).2.1, (x3 p hp).2.2.2⟩)))

end
section
set_option maxRecDepth 100000
set_option maxHeartbeats 8000000
theorem fill11 : (PySem.Challenge.rw_wb0084_01 = PySem.Challenge.rw_wb0084_01) ∧ K = K := by
  k_fill
  exact ⟨rfl, rfl⟩
theorem code_defZ {prog : Program} {w : World} {A A₀ : Around} {s : Shared} {K : Frag} {L : Addr} {h₀ base : Heap} {m mg mb : Str → Option Value} {news : List (Addr × Obj)} {p : Program} {loose : List Str} {mean : ExcName → Option Value}
    {env : Env} {R : Result → Shared → Prop} {name qual : Str} {params : Arguments} {body : List Stmt} {scope : Scope} {dV kV doc pm cdv ct oc : Value} {an od : Option Addr} {osl : Array (Option Value)} {f : Addr} {args : Args} {binds : List (Str × Value)}
    (B : Below A₀ base [] h₀) (F : Fr h₀ L s.heap m) (X₀ : K.In h₀) (N : News h₀ L s.heap news) (T : Top p loose mean mg mb h₀) (hA : A.frames = some [env]) (hf : env.frame = some L) (hke : env.scope.kind = .function)
    (ho : K.lookup f = some ⟨oc, od, .func (fnOf name qual params body scope dV kV doc pm an cdv ct), osl⟩) (hcd : codeIn K cdv qual = true) (hroom : A.depth < recursionLimit)
    (hbind : BindsTo s (fnOf name qual params body scope dV kV doc pm an cdv ct) args binds) (hloc : ∀ y ∈ binds, scope.names.lookup y.1 = some .local)
    (h : ∀ g L' h₁, Fr h₀ L g m → Fr g L' h₁ (fun y => binds.reverse.lookup y) → News g L' h₁ news → Below A base [env] g → K.In g → Top p loose mean mg mb g → KtsDicts ([env].filterMap (·.frame)) g → (∀ p ∈ news, p.1 < L') →
      wpAny (model prog w) (A.deeper (envOf qual scope L' f cdv)) (execs body (envOf qual scope L' f cdv))
        (fun fl s' => LeaveS0 ([env].filterMap (·.frame)) h₀ L m g R (match fl with | .ret v => v | _ => .none) s')
        (fun e s' => wpAny (model prog w) (A.deeper (envOf qual scope L' f cdv)) (leaving (envOf qual scope L' f cdv) e) (fun _ s'' => R (.error e) s'') (fun e' s'' => R (.error e') s'') s')
        { s with heap := h₁, toks := s.toks + binds.length })
    (hco : scope.isCoroutine = false) (hgen : scope.isGenerator = false) (hk : scope.kind = .function)
    (hcell : ∀ x ∈ scope.names, x.2 ≠ .cell) : codeAny (model prog w) A (.call (.ref f) args) R s := by
  obtain ⟨FG, BG, st, _⟩ := groundX (R := R) B F N hA hf hke
  obtain ⟨oL, es, ep, hLg, hLd, hLk, hLf⟩ := FG.ns
  have X := X₀.keeps F.keep
  have efs : [env].filterMap (·.frame) = [L] := by simp [hf]
  have nL₀ : h₀.get? L = none := kts_self F
  refine codeAny_call_def (fd := fnOf name qual params body scope dV kV doc pm an cdv ct) (body := body) (binds := binds) hroom (X _ _ ho) rfl (T.nolimit.keeps F.keep) (codeRec_of X hcd) rfl hbind hcell hloc (fun h₁ hns hk₁ => ?_) hco hgen hk
  refine wpAny_mono (h _ s.heap.objs.size h₁ FG ⟨hns, fun b o e => hk₁ b o (of_hideAll _ e), Nat.le_of_eq (hideAll_size _ _)⟩
    (fun p hp => ⟨hk₁ _ _ (N p hp).1, Nat.ne_of_lt (Heap.lt_size (N p hp).1), hideAll_none _ (List.mem_map_of_mem hp)⟩) BG (X₀.keeps st) (T.keeps st) (fun b hb => by
      rw [efs] at hb
      rw [List.mem_singleton.mp hb]
      exact ⟨oL, es, ep, hLg, hLd⟩) (fun p hp => Heap.lt_size (N p hp).1)) (fun fl s' hl => ?_) fun _ _ y => y
  obtain ⟨g', L', m', news', T', F', N', k⟩ := hl
  obtain ⟨sl, hs⟩ := T'.up hLg
  refine k ⟨⟨_, es, ep, F'.keep _ _ hs, hLd, hLk, hLf⟩, fun b o e => F'.keep b o (T'.other b o (st b o e) (fun q => by
    rw [efs] at q
    rw [List.mem_singleton.mp q, nL₀] at e
    cases e)), F.above⟩ fun p hp => ⟨(N' p hp).1, fun q => ?_, ?_⟩
  · have := (N' p hp).2.2
    rw [q, hs] at this
    cases this
  · cases q : h₀.get? p.1 with
    | none => rfl
    | some o =>
      obtain ⟨sl', hs'⟩ := T'.up (st _ _ q)
      have := (N' p hp).2.2
      rw [hs'] at this
      cases this

end
section
set_option maxRecDepth 100000
set_option maxHeartbeats 8000000
theorem fill12 : (PySem.Challenge.rw_wb0084_01 = PySem.Challenge.rw_wb0084_01) ∧ K = K := by
  k_fill
  exact ⟨rfl, rfl⟩
/-- a call's contract from the one frame of the law's body: the base's facts are at hand too -/
noncomputable def Cn0 (w : World) (f : Addr) (d u : Nat) (vs : List Value) (news : Led) (Out : Led → Value → Prop) : Prop :=
  ∀ (mg mb : Str → Option Value) (mean : Mt) (dp un : Nat) (gd : Option (List Code)) (cn : Str) (cs : Scope) (a : Addr) (ccd : Value) (cl : List (Str × Addr)) (A₀ : Around) (base h₀ : Heap) (L : Addr) (m : Str → Option Value) (s : Shared)
    (Q E : Value → Shared → Prop),
    Below A₀ base [] h₀ → Fr h₀ L s.heap m → (K w.params).In h₀ → News h₀ L s.heap news → TopV mg mb mean h₀ → (K w.params).In base → TopV mg mb mean base → cs.kind = .function → CodeHd base 34 30 → CodeHd base 41 37 → dp + d < recursionLimit → un + u < cLine →
    (∀ r news' h' tk', Fr h₀ L h' m → News h₀ L h' news' → Out news' r → Q r { s with heap := h', toks := tk' }) →
    wpAny (model pw w) (ktrTop dp un gd cn cs L a ccd cl []) (call (.ref f) vs) Q E s
local macro_rules | `(tactic| walk_at "exec Raise some none") => `(tactic| (k_here; (with_reducible show wpAny _ _ (exec (Stmt.Raise (some (Expr.Name (Str.ofString "ZeroDivisionError") _)) none _) _) _ _ _); (with_reducible rename Fr _ _ _ _ => kF); k_dflt (refine' Raise_classB ?hh excClass_ZeroDivisionError ?hs ?hx ?_; (case hh => rfl); (case hs => (rw [isSubtype_type]; kernel_rfl)); (case hx => (refine' name_B kF ?k1 ?k2 ?k3 ?k4 ?k5 ?_; (case k1 | k2 => k_asm); (case k3 => k_is); (case k4 => boot_by_name); (case k5 => decide); exact ⟨rfl, rfl⟩))); intro h' e' hx'))
local macro_rules | `(tactic| k_room) => `(tactic| ktr_room)
theorem d258z (w : World) (a : Int) (ta tn : Tok) (rest : Led) (ps qs : Array Value) (T1 : Tab 32 qual4 ps rest) (T2 : Tab 47 qual5 qs rest) :
    Cn0 w 258 340 8800 [.int a ta, .int 0 tn] ((30, tabObj ps) :: (37, tabObj qs) :: rest) (OutB rest) := by
  unfold Cn0
  intro mg mb mean dp un gd cn cs ad ccd cl A₀ base h₀ L m s Q E B F X N T XB TB hk c1 c2 hd hu hret
  refine wpAny_call ?_
  k_dflt (refine' code_defZ ?k1 ?k2 ?k3 ?k4 ?k5 ?kA ?kF ?kK ?k6 ?k7 ?k8 ?k9 ?kB ?_ ?c2 ?c3 ?c4 ?c5; (case kA => exact rfl); (case kF => exact rfl); (case kK => first | assumption | exact rfl); (case k1 => k_asm); (case k2 => k_asm); (case k3 => k_asm); (case k4 => k_asm); (case k5 => k_asm); (case k6 => k_is); (case k7 => k_is); (case k8 => ktr_room); (case k9 => exact BindsTo.of_eq rfl); (case c5 => decide); (case kB => exact locs rfl); (case c2 => exact rfl); (case c3 => exact rfl); (case c4 => exact rfl); k_whole; intro g' L' h' FG' F' N' B' X' T' D' l0; (have l1 := l0); (try k_lt l1); (try dsimp only); (try k_lift B'); (try k_fold))
  k_steps
  exact cn_end hret (by k_asm) (by k_asm) (OutB.mk ps qs [] rfl rfl T1 T2 (fun p hp => nomatch hp))

end
section
local macro_rules | `(tactic| walk_at "no such goal") => `(tactic| skip)
set_option maxRecDepth 100000
set_option maxHeartbeats 8000000
theorem fillE0 : (PySem.Challenge.rw_wb0084_01 = PySem.Challenge.rw_wb0084_01) ∧ K = K := by
  k_fill
  exact ⟨rfl, rfl⟩
/-- one sign -/
noncomputable abbrev ch (c : Nat) : Str := ⟨#[c]⟩
noncomputable def b1L : List Int := [173, 847, 6150, 6155, 6156, 6157, 8203, 8204, 8205, 8288, 65279, 65024, 65025, 65026, 65027, 65028, 65029, 65030, 65031, 65032, 65033, 65034, 65035, 65036, 65037, 65038, 65039]
noncomputable def isB1 (k : Int) : Bool := decide (k ∈ b1L)
noncomputable def isC7 (k : Int) : Bool := decide (12272 ≤ k ∧ k < 12284)
theorem hashInt_low {k : Int} (h0 : 0 ≤ k) (h1 : k < 100000000) : hashInt k = k := by
  have e : rawHash k = k := by
    unfold rawHash
    have e1 : ¬ k < 0 := by omega
    simp only [if_neg e1]
    have e2 : ((k.natAbs : Int) % ((2 ^ 61 - 1 : Nat) : Int)) = k := by
      rw [show ((2 ^ 61 - 1 : Nat) : Int) = 2305843009213693951 by decide]; omega
    rw [e2]
    have e3 : ¬ (k == -1) = true := by simp; omega
    rw [if_neg e3]
  unfold hashInt
  rw [e]
  have e3 : ¬ (k == -1) = true := by simp; omega
  rw [if_neg e3]
theorem setObj_low (w : World) {es : Array (Int × Value)} {ep : Nat} {t : SetTable} {S : Int → Bool} (hl : ∀ e ∈ es.toList, ∃ k u, e = (k, .int k u) ∧ 0 ≤ k ∧ k < 100000000) (hS : ∀ k, S k = true ↔ k ∈ es.toList.map (·.1)) (hf : t.fits es.size = true) :
    Obj.SetObjOf (intKind pw w) ⟨.type "set", none, .set es ep t, #[]⟩ S es.size := by
  refine ⟨⟨rfl, rfl, rfl⟩, es, ep, t, rfl, ?_, ?_, rfl, hf⟩
  · intro e he
    obtain ⟨k, u, rfl, h0, h1⟩ := hl e he
    exact ⟨⟨k, intKind_is pw w k u, (hashInt_low h0 h1).symm⟩, rfl⟩
  · intro k
    rw [hS k]
    constructor
    · intro h
      obtain ⟨e, he, hk⟩ := List.mem_map.mp h
      obtain ⟨k', u, rfl, _⟩ := hl e he
      exact ⟨_, he, by dsimp only at hk; subst hk; exact intKind_is pw w _ u⟩
    · rintro ⟨e, he, hk⟩
      obtain ⟨k', u, rfl, _⟩ := hl e he
      have e1 : k' = k := by have : (k' == k) = true := hk; simpa using this
      subst e1
      exact List.mem_map.mpr ⟨_, he, rfl⟩
noncomputable def okE : Int × Value → Bool
  | (k, .int k' _) => decide (k = k' ∧ 0 ≤ k' ∧ k' < 100000000)
  | _ => false
theorem okE_all {l : List (Int × Value)} (h : l.all okE = true) : ∀ e ∈ l, ∃ k u, e = (k, .int k u) ∧ 0 ≤ k ∧ k < 100000000 := fun e he => by
  have q := List.all_eq_true.mp h e he
  unfold okE at q
  split at q
  · have q' := of_decide_eq_true q
    exact ⟨_, _, by rw [q'.1], q'.2⟩
  · cases q
theorem set148 (w : World) : (o148 w.params).SetObjOf (intKind pw w) isB1 27 := by
  refine setObj_low w (S := isB1) (okE_all rfl) (fun k => ?_) rfl
  unfold isB1
  rw [decide_eq_true_eq]
  exact (show List.Perm b1L _ by decide).mem_iff
theorem set206 (w : World) : (o206 w.params).SetObjOf (intKind pw w) isC7 12 := by
  refine setObj_low w (S := isC7) (okE_all rfl) (fun k => ?_) rfl
  unfold isC7
  rw [decide_eq_true_eq]
  refine Iff.trans ?_ (show List.Perm ((List.range 12).map fun (i : Nat) => (12272 : Int) + (i : Int)) _ by decide).mem_iff
  rw [List.mem_map]
  exact ⟨fun q => ⟨(k - 12272).toNat, List.mem_range.mpr (show (k - 12272).toNat < 12 by omega), show (12272 : Int) + ((k - 12272).toNat : Int) = k by omega⟩, fun ⟨i, hi, q⟩ => by
    have := List.mem_range.mp hi
    have q' : (12272 : Int) + (i : Int) = k := q
    omega⟩
local macro_rules | `(tactic| walk_at "compareOp In int ref") => `(tactic| (k_dflt (first
  | (refine' in_argsetI ?F (set148 _) ?ho ?hb ?_; (case F => k_asm); (case ho => ((with_reducible rename Frag.In _ _ => kX); exact kX _ _ rfl)); (case hb => decide))
  | (refine' in_argsetI ?F (set206 _) ?ho ?hb ?_; (case F => k_asm); (case ho => ((with_reducible rename Frag.In _ _ => kX); exact kX _ _ rfl)); (case hb => decide)))))
noncomputable def OutSame (news : Led) (P : Value → Prop) (n : Led) (v : Value) : Prop := n = news ∧ P v
theorem OutSame.el {news : Led} {x : Value} (G : Led → Value → Prop) (T : G news x) (n : Led) (v : Value) (o : OutSame news (· = x) n v) : G n v := by
  obtain ⟨rfl, rfl⟩ := o; exact T
theorem OutSame.elT {news : Led} {f : Tok → Value} (G : Led → Value → Prop) (T : ∀ t, G news (f t)) (n : Led) (v : Value) (o : OutSame news (fun v => ∃ t, v = f t) n v) : G n v := by
  obtain ⟨rfl, t, rfl⟩ := o; exact T t
theorem d158 (w : World) (c : Nat) (hc : c < 1114112) (tc : Tok) (news : Led) : Cn w 158 2 100 [.str (ch c) tc] news (OutSame news (· = .bool (isB1 c))) := by
  unfold Cn
  intro mg mb mean dp un gd cn cs ad ccd cl outer A₀ base h₀ L m s Q E B F X N T hk c1 c2 hd hu hret
  refine wpAny_call ?_
  k_dflt ktr_rel
  k_steps
  exact cn_end hret (by k_asm) (by k_asm) ⟨rfl, rfl⟩
theorem d216 (w : World) (c : Nat) (hc : c < 1114112) (tc : Tok) (news : Led) : Cn w 216 2 100 [.str (ch c) tc] news (OutSame news (· = .bool (isC7 c))) := by
  unfold Cn
  intro mg mb mean dp un gd cn cs ad ccd cl outer A₀ base h₀ L m s Q E B F X N T hk c1 c2 hd hu hret
  refine wpAny_call ?_
  k_dflt ktr_rel
  k_steps
  exact cn_end hret (by k_asm) (by k_asm) ⟨rfl, rfl⟩

end
section
set_option maxRecDepth 100000
set_option maxHeartbeats 8000000
theorem fillE1 : (PySem.Challenge.rw_wb0084_01 = PySem.Challenge.rw_wb0084_01) ∧ K = K := by
  k_fill
  exact ⟨rfl, rfl⟩
noncomputable def b3get (k : Int) : Option Str := (b3P.find? fun p => p.1 == k).map (·.2)
/-- what map_table_b3 tells -/
noncomputable def foldC (c : Nat) : Str := (b3get c).getD (Txt.lower (ch c))
noncomputable def headsL : List Nat := [97, 65, 119808, 119860, 119912, 120016, 120172, 120224, 120276, 120328, 120380, 120432]
noncomputable def oddL : List Nat := [12271, 12284, 172, 8206, 65040]
theorem find_from (h k : Int) (hk : h ≤ k) : ∀ l : List (Int × Str), (l.find? fun p => p.1 == k) = ((l.dropWhile fun p => decide (p.1 < h)).find? fun p => p.1 == k)
  | [] => rfl
  | p :: r => by
    by_cases c : p.1 < h
    · have n : (p.1 == k) = false := beq_eq_false_iff_ne.mpr fun e => Int.not_le.mpr c (e ▸ hk)
      rw [List.find?_cons, n, List.dropWhile_cons, if_pos (decide_eq_true c)]
      exact find_from h k hk r
    · rw [List.dropWhile_cons, if_neg (by simpa using c)]
noncomputable def headsB : List Nat := [119808, 119860, 119912, 120016, 120172, 120224, 120276, 120328, 120380, 120432]
theorem fold_capB : headsB.all (fun h => (List.range 26).all fun l => decide (((((b3P.dropWhile fun p => decide (p.1 < ((h : Nat) : Int))).find? fun p => p.1 == ((h + l : Nat) : Int)).map (·.2)).getD (Txt.lower (ch (h + l)))) = ch (97 + l))) = true := by decide +kernel
theorem fold_capA : [97, 65].all (fun h => (List.range 26).all fun l => Nat.blt (h + l) 181 && decide (Txt.lower (ch (h + l)) = ch (97 + l))) = true := by decide +kernel
theorem b3_high : b3P.all (fun p => decide (181 ≤ p.1)) = true := by decide +kernel
theorem fold_letters : headsL.all (fun h => (List.range 26).all fun l => decide (foldC (h + l) = ch (97 + l))) = true := by
  refine List.all_eq_true.mpr fun h hh => List.all_eq_true.mpr fun l hl => decide_eq_true ?_
  rcases (List.mem_append (s := [97, 65]) (t := headsB)).mp hh with a | a
  · have x := Bool.and_eq_true_iff.mp (List.all_eq_true.mp (List.all_eq_true.mp fold_capA h a) l hl)
    have n : b3get ((h + l : Nat) : Int) = none := by
      unfold b3get
      rw [List.find?_eq_none.mpr]
      · rfl
      · intro p hp e
        have y : 181 ≤ p.1 := of_decide_eq_true (List.all_eq_true.mp b3_high p hp)
        have z : h + l < 181 := Nat.blt_eq.mp x.1
        rw [beq_iff_eq.mp e] at y
        exact Nat.not_lt.mpr (Int.ofNat_le.mp y) z
    unfold foldC
    rw [n]
    exact of_decide_eq_true x.2
  · have x := of_decide_eq_true (List.all_eq_true.mp (List.all_eq_true.mp fold_capB h a) l hl)
    unfold foldC b3get
    rw [find_from ((h : Nat) : Int) ((h + l : Nat) : Int) (Int.ofNat_le.mpr (Nat.le_add_right h l)) b3P]
    exact x
theorem fold_odd : oddL.all (fun c => decide (foldC c = ch c)) = true := by decide +kernel
theorem b3_all : b3P.all (fun p => decide (0 ≤ p.1 ∧ p.1 < 100000000)) = true := by decide +kernel
theorem entsA_find (k : Int) : ∀ (t : Nat) (ps : List (Int × Str)), (∃ u, ((entsA t ps).find? fun e => Value.isInt k e.key).map (·.val) = (((ps.find? fun p => p.1 == k).map (·.2)).map fun s => Value.str s u))
  | t, [] => ⟨0, rfl⟩
  | t, p :: r => by
    by_cases h : p.1 = k
    · refine ⟨t + 1, ?_⟩
      have e1 : (p.1 == k) = true := by simp [h]
      simp only [entsA, entE, List.find?_cons, Value.isInt, e1]
      rfl
    · obtain ⟨u, e⟩ := entsA_find k (t + 3) r
      refine ⟨u, ?_⟩
      have e1 : (p.1 == k) = false := by simp [h]
      simp only [entsA, entE, List.find?_cons, Value.isInt, e1]
      exact e
theorem entsB_find (k : Int) : ∀ (t : Nat) (ps : List (Int × Str)), (∃ u, ((entsB t ps).find? fun e => Value.isInt k e.key).map (·.val) = (((ps.find? fun p => p.1 == k).map (·.2)).map fun s => Value.str s u))
  | t, [] => ⟨0, rfl⟩
  | t, p :: r => by
    by_cases h : p.1 = k
    · refine ⟨t + 1, ?_⟩
      have e1 : (p.1 == k) = true := by simp [h]
      simp only [entsB, entE, List.find?_cons, Value.isInt, e1]
      rfl
    · obtain ⟨u, e⟩ := entsB_find k (t + 2) r
      refine ⟨u, ?_⟩
      have e1 : (p.1 == k) = false := by simp [h]
      simp only [entsB, entE, List.find?_cons, Value.isInt, e1]
      exact e
theorem entsA_keys : ∀ (t : Nat) (ps : List (Int × Str)), (∀ p ∈ ps, 0 ≤ p.1 ∧ p.1 < 100000000) → ∀ e ∈ entsA t ps, ∃ k u, e.key = .int k u ∧ e.hash = k ∧ 0 ≤ k ∧ k < 100000000
  | t, [], _, e, he => nomatch he
  | t, p :: r, h, e, he => by
    rcases List.mem_cons.mp he with rfl | he
    · exact ⟨_, _, rfl, rfl, h p (.head _)⟩
    · exact entsA_keys _ r (fun q hq => h q (.tail _ hq)) e he
theorem entsB_keys : ∀ (t : Nat) (ps : List (Int × Str)), (∀ p ∈ ps, 0 ≤ p.1 ∧ p.1 < 100000000) → ∀ e ∈ entsB t ps, ∃ k u, e.key = .int k u ∧ e.hash = k ∧ 0 ≤ k ∧ k < 100000000
  | t, [], _, e, he => nomatch he
  | t, p :: r, h, e, he => by
    rcases List.mem_cons.mp he with rfl | he
    · exact ⟨_, _, rfl, rfl, h p (.head _)⟩
    · exact entsB_keys _ r (fun q hq => h q (.tail _ hq)) e he
theorem split_b3 : b3P = (b3c ++ b3cs.flatten) ++ b3l := by kernel_rfl
theorem b3_mem {p : Int × Str} (h : p ∈ b3P) : 0 ≤ p.1 ∧ p.1 < 100000000 := by
  have := List.all_eq_true.mp b3_all p h
  simpa using this
theorem b3_find (k : Int) : ∃ u, (b3E.find? fun e => Value.isInt k e.key).map (·.val) = (b3get k).map fun s => Value.str s u := by
  unfold b3E b3get
  rw [split_b3, List.find?_append, List.find?_append]
  obtain ⟨u, e1⟩ := entsA_find k 434 (b3c ++ b3cs.flatten)
  obtain ⟨v, e2⟩ := entsB_find k (434 + 51 * (37 + 1)) b3l
  cases h1 : (List.find? (fun e => Value.isInt k e.key) (entsA 434 (b3c ++ b3cs.flatten))) with
  | some x =>
    rw [h1] at e1
    cases h2 : (List.find? (fun p => p.1 == k) (b3c ++ b3cs.flatten)) with
    | some y => rw [h2] at e1; exact ⟨u, e1⟩
    | none => rw [h2] at e1; cases e1
  | none =>
    rw [h1] at e1
    cases h2 : (List.find? (fun p => p.1 == k) (b3c ++ b3cs.flatten)) with
    | some y => rw [h2] at e1; cases e1
    | none => exact ⟨v, e2⟩
theorem b3_map {w : World} {h : Heap} (hg : h.get? 159 = some (oB 0 w.params)) (k : Int) : ∃ f u, h.MapOf (intKind pw w) 159 f ∧ f k = (b3get k).map fun s => Value.str s u := by
  obtain ⟨u, e⟩ := b3_find k
  refine ⟨fun k => findBy Value.isInt b3E.toArray k, u, ⟨oB 0 w.params, b3E.toArray, 17 * (37 + 1) + 4, hg, ⟨rfl, rfl, rfl⟩, rfl, ?_, fun _ => rfl⟩, ?_⟩
  · intro x hx
    have hx' : x ∈ b3E := by simpa using hx
    have : ∃ k u, x.key = .int k u ∧ x.hash = k ∧ 0 ≤ k ∧ k < 100000000 := by
      rcases List.mem_append.mp hx' with h | h
      · exact entsA_keys _ _ (fun p hp => b3_mem (by rw [split_b3]; exact List.mem_append_left _ hp)) x h
      · exact entsB_keys _ _ (fun p hp => b3_mem (by rw [split_b3]; exact List.mem_append_right _ hp)) x h
    obtain ⟨k, u, h1, h2, h3, h4⟩ := this
    exact ⟨k, by rw [h1]; exact intKind_is pw w k u, by rw [h2]; exact (hashInt_low h3 h4).symm⟩
  · show (List.toArray b3E |>.find? _).map _ = _
    rw [List.find?_toArray]
    exact e
theorem get159_some {w : World} {A : Around} {E : Value → Shared → Prop} {s : Shared} {k : Int} {t : Tok} {x : Str} {Q : Value → Shared → Prop} (hg : s.heap.get? 159 = some (oB 0 w.params)) (hb : b3get k = some x) (h : ∀ u, Q (.str x u) { s with toks := s.toks + 1 }) :
    wpAny (model pw w) A (call (.builtin "dict.get") [.ref 159, .int k t]) Q E s := by
  obtain ⟨f, u, hm, hf⟩ := b3_map hg k
  refine call_meetsIn (T := "dict") PySem.F.slot_dict_get ⟨_, hg, rfl⟩ PySem.F.entry_dict_get (PySem.F.args_dict_get_2 _ _) (meets_dict_get (intKind pw _) 159 (intKind_is _ _ _ _) (by decide)) ⟨f, hm, ?_⟩
  rw [hf, hb]
  exact h u
theorem get159_none {w : World} {A : Around} {E : Value → Shared → Prop} {s : Shared} {k : Int} {t : Tok} {Q : Value → Shared → Prop} (hg : s.heap.get? 159 = some (oB 0 w.params)) (hb : b3get k = none) (h : Q .none { s with toks := s.toks + 1 }) :
    wpAny (model pw w) A (call (.builtin "dict.get") [.ref 159, .int k t]) Q E s := by
  obtain ⟨f, u, hm, hf⟩ := b3_map hg k
  refine call_meetsIn (T := "dict") PySem.F.slot_dict_get ⟨_, hg, rfl⟩ PySem.F.entry_dict_get (PySem.F.args_dict_get_2 _ _) (meets_dict_get (intKind pw _) 159 (intKind_is _ _ _ _) (by decide)) ⟨f, hm, ?_⟩
  rw [hf, hb]
  exact h
local macro_rules | `(tactic| walk_at "getMethod ref") => `(tactic| (k_dflt (refine' getMethod_builtin (T := "dict") ?hT PySem.F.plainAttrs_dict PySem.F.slot_dict_get PySem.F.type_dict_get ?hd ?_; (case hT => ((with_reducible rename Frag.In _ _ => kX); (with_reducible rename Fr _ _ _ _ => kF); exact ⟨_, kF.keep _ _ (kX 159 _ rfl), rfl⟩)); (case hd => ((with_reducible rename Frag.In _ _ => kX); (with_reducible rename Fr _ _ _ _ => kF); intro b9 e9; injection e9 with e9; subst e9; exact ⟨_, kF.keep _ _ (kX 159 _ rfl), rfl⟩)))))
local macro_rules | `(tactic| walk_at "call builtin:dict.get") => `(tactic| (k_dflt (first
  | (refine' get159_some ?hT ?hb ?_; (case hT => ((with_reducible rename Frag.In _ _ => kX); (with_reducible rename Fr _ _ _ _ => kF); exact kF.keep _ _ (kX 159 _ rfl))); (case hb => assumption); intro u9)
  | (refine' get159_none ?hT ?hb ?_; (case hT => ((with_reducible rename Frag.In _ _ => kX); (with_reducible rename Fr _ _ _ _ => kF); exact kF.keep _ _ (kX 159 _ rfl))); (case hb => assumption)))))
local macro_rules | `(tactic| walk_at "call builtin:str.lower") => `(tactic| (k_dflt (refine' SC.lower ?hT ?_; (case hT => assumption))))
theorem d204 (w : World) (c : Nat) (hc : c < 1114112) (tc : Tok) (news : Led) (hf : (foldC c).length ≤ 100) : Cn w 204 2 100 [.str (ch c) tc] news (OutSame news (fun v => ∃ t, v = .str (foldC c) t)) := by
  unfold Cn
  intro mg mb mean dp un gd cn cs ad ccd cl outer A₀ base h₀ L m s Q E B F X N T hk c1 c2 hd hu hret
  cases hb : b3get c with
  | some x =>
    have e : foldC c = x := by unfold foldC; rw [hb]; rfl
    rw [e] at hret
    refine wpAny_call ?_
    k_dflt ktr_rel
    k_steps
    exact cn_end hret (by k_asm) (by k_asm) ⟨rfl, _, rfl⟩
  | none =>
    have e : foldC c = Txt.lower (ch c) := by unfold foldC; rw [hb]; rfl
    rw [e] at hret hf
    have hl : Builtin.Str.tooLong (Txt.lower (ch c)).length = false := by
      unfold Builtin.Str.tooLong
      simp
      exact Nat.le_trans hf (by decide)
    refine wpAny_call ?_
    k_dflt ktr_rel
    k_steps
    exact cn_end hret (by k_asm) (by k_asm) ⟨rfl, _, rfl⟩

end
section
set_option maxRecDepth 100000
set_option maxHeartbeats 8000000
noncomputable def GSt {σ ρ : Type} (Ld : σ → Led) (mp : σ → List (Str × Value)) (x : Str) (opt : List Str) (m₀ : Str → Option Value) (P : ρ → σ → Prop) (r : ρ) (m : Str → Option Value) (nx : Led) : Prop :=
  ∃ c : σ, nx = Ld c ∧ (∀ p ∈ mp c, m p.1 = some p.2) ∧ (∀ z, z ≠ x → (∀ p ∈ mp c, z ≠ p.1) → opt.contains z = false → m z = m₀ z) ∧ P r c
section
variable {prog : Program} {w : World} {A : Around} {E : Value → Shared → Prop} {s : Shared} {env : Env} {h₀ : Heap} {x : Str} {body : List Stmt} {Q : Flow → Shared → Prop}
theorem str_inv {I : Addr} (J : List Str → (Str → Option Value) → Led → Prop)
    (turn : ∀ v r m news u it h tk, J (v :: r) m news → Fr h₀ env.locals h (fun y => if y = x then some (.str v u) else m y) → News h₀ env.locals h ((I, it) :: news) →
      wpAny (model prog w) A (execs body env) (UnrPost h₀ env.locals { s with heap := h, toks := tk } I it (fun m' n' => J r m' n') Q) E { s with heap := h, toks := tk })
    (done : ∀ m news h tk, J [] m news → Fr h₀ env.locals h m → News h₀ env.locals h news → Q .next { s with heap := h, toks := tk }) :
    ∀ l m news, J l m news → StrRest prog w A E h₀ env x body Q s I l m news
  | [], m, news, j => StrRest.zero fun h tk F N => done m news h tk j F N
  | v :: r, m, news, j => StrRest.succ fun u it h tk F N =>
    wpAny_mono (turn v r m news u it h tk j F N) (fun f s₂ u => unr_mono (fun m' n' z => str_inv J turn done r m' n' z) u) fun _ _ e => e
theorem str_loop {σ : Type} {tx : Str} {t : Tok} {m₀ : Str → Option Value} (Ld : σ → Led) (mp : σ → List (Str × Value)) (opt : List Str) (P : List Str → σ → Prop) (c₀ : σ)
    (hh : A.handled = none) (F : Fr h₀ env.locals s.heap m₀) (N : News h₀ env.locals s.heap (Ld c₀))
    (hk : ∀ p ∈ mp c₀, m₀ p.1 = some p.2) (hp : P (tx.cps.toList.map (fun c => (⟨#[c]⟩ : Str))) c₀)
    (turn : ∀ I, (∀ p ∈ Ld c₀, @LT.lt Nat _ p.1 I) → ∀ c v r t' (u : Str → Option Value) it h tk, P (v :: r) c → Fr h₀ env.locals h (fun y => if y = x then some (.str v t') else kstB (fun z => if opt.contains z then u z else m₀ z) (mp c) y) → News h₀ env.locals h ((I, it) :: Ld c) →
      wpAny (model prog w) A (execs body env) (UnrPost h₀ env.locals { s with heap := h, toks := tk } I it (fun m' n' => GSt Ld mp x opt m₀ P r m' n') Q) E { s with heap := h, toks := tk })
    (done : ∀ c (u : Str → Option Value) h tk, P [] c → Fr h₀ env.locals h (fun y => if y = x then u y else kstB (fun z => if opt.contains z then u z else m₀ z) (mp c) y) → News h₀ env.locals h (Ld c) → Q .next { s with heap := h, toks := tk }) :
    wpAny (model prog w) A (pyIter (.str tx t)) (fun it s₂ => LoopAtV prog w A h₀ env x body Q E it s₂) E s := by
  refine iter_strUnr hh F N rfl fun I hI => ?_
  refine str_inv (GSt Ld mp x opt m₀ P) ?_ ?_ _ _ _ ⟨c₀, rfl, hk, fun _ _ _ _ => rfl, hp⟩
  · rintro v r m news t' it h tk ⟨c, rfl, h1, h2, hp'⟩ F₁ N₁
    exact turn I hI c v r t' m it h tk hp' (kst_fr h1 h2 F₁) N₁
  · rintro m news h tk ⟨c, rfl, h1, h2, hp'⟩ F₁ N₁
    exact done c m h tk hp' (kst_frOut h1 h2 F₁) N₁
theorem range_inv {I : Addr} {a : Int} {n : Nat} (J : Nat → (Str → Option Value) → Led → Prop)
    (turn : ∀ i m news t h tk, i < n → J i m news → Fr h₀ env.locals h (fun y => if y = x then some (.int (a + (i : Int)) t) else m y) → News h₀ env.locals h ((I, itR (a + ((i + 1 : Nat) : Int)) ((n : Int) - ((i + 1 : Nat) : Int))) :: news) →
      wpAny (model prog w) A (execs body env) (UnrPost h₀ env.locals { s with heap := h, toks := tk } I (itR (a + ((i + 1 : Nat) : Int)) ((n : Int) - ((i + 1 : Nat) : Int))) (fun m' n' => J (i + 1) m' n') Q) E { s with heap := h, toks := tk })
    (done : ∀ m news h tk, J n m news → Fr h₀ env.locals h m → News h₀ env.locals h news → Q .next { s with heap := h, toks := tk }) :
    ∀ k i m news, i + k = n → J i m news → RangeRest prog w A E h₀ env x body Q s I a n k i m news
  | 0, i, m, news, e, j => RangeRest.zero fun h tk F N => done m news h tk (by have : i = n := e; rw [← this]; exact j) F N
  | k + 1, i, m, news, e, j => RangeRest.succ fun t h tk F N =>
    wpAny_mono (turn i m news t h tk (by (first | lia | omega)) j F N) (fun f s₂ u => unr_mono (fun m' n' z => range_inv J turn done k (i + 1) m' n' (by (first | lia | omega)) z) u) fun _ _ e => e
theorem range_loop {σ : Type} {r : Addr} {a₀ b₀ : Int} {t₀ u₀ v₀ : Tok} {n : Nat} {m₀ : Str → Option Value} (Ld : σ → Led) (mp : σ → List (Str × Value)) (opt : List Str) (P : Nat → σ → Prop) (c₀ : σ)
    (hh : A.handled = none) (hr : IsRange s.heap r a₀ b₀ 1 t₀ u₀ v₀) (hsmall : Builtin.Range.small a₀ b₀ 1 = true) (hn : Builtin.Range.rangeSize a₀ b₀ 1 = (n : Int)) (F : Fr h₀ env.locals s.heap m₀) (N : News h₀ env.locals s.heap (Ld c₀))
    (hk : ∀ p ∈ mp c₀, m₀ p.1 = some p.2) (hp : P 0 c₀)
    (turn : ∀ I, (∀ p ∈ Ld c₀, @LT.lt Nat _ p.1 I) → ∀ i c t' (u : Str → Option Value) h tk, i < n → P i c → Fr h₀ env.locals h (fun y => if y = x then some (.int (a₀ + (i : Int)) t') else kstB (fun z => if opt.contains z then u z else m₀ z) (mp c) y) → News h₀ env.locals h ((I, itR (a₀ + ((i + 1 : Nat) : Int)) ((n : Int) - ((i + 1 : Nat) : Int))) :: Ld c) →
      wpAny (model prog w) A (execs body env) (UnrPost h₀ env.locals { s with heap := h, toks := tk } I (itR (a₀ + ((i + 1 : Nat) : Int)) ((n : Int) - ((i + 1 : Nat) : Int))) (fun m' n' => GSt Ld mp x opt m₀ P (i + 1) m' n') Q) E { s with heap := h, toks := tk })
    (done : ∀ c (u : Str → Option Value) h tk, P n c → Fr h₀ env.locals h (fun y => if y = x then u y else kstB (fun z => if opt.contains z then u z else m₀ z) (mp c) y) → News h₀ env.locals h (Ld c) → Q .next { s with heap := h, toks := tk }) :
    wpAny (model prog w) A (pyIter (.ref r)) (fun it s₂ => LoopAtV prog w A h₀ env x body Q E it s₂) E s := by
  refine iter_rangeUnr (n := n) hh hr hsmall hn F N fun I hI => ?_
  refine range_inv (GSt Ld mp x opt m₀ P) ?_ ?_ n 0 _ _ (by (first | lia | omega)) ⟨c₀, rfl, hk, fun _ _ _ _ => rfl, hp⟩
  · rintro i m news t' h tk hi ⟨c, rfl, h1, h2, hp'⟩ F₁ N₁
    exact turn I hI i c t' m h tk hi hp' (kst_fr h1 h2 F₁) N₁
  · rintro m news h tk ⟨c, rfl, h1, h2, hp'⟩ F₁ N₁
    exact done c m h tk hp' (kst_frOut h1 h2 F₁) N₁
theorem unrW_mono {L : Addr} {s₁ s₂ : Shared} {its : Led} {R R' : (Str → Option Value) → Led → Prop} {f : Flow} (h : ∀ m n, R m n → R' m n) (u : UnrPostW h₀ L s₁ its R Q f s₂) : UnrPostW h₀ L s₁ its R' Q f s₂ := by
  have e : UnrEndW h₀ L s₁ its R s₂ → UnrEndW h₀ L s₁ its R' s₂ := by
    rintro ⟨h', tk, m', news', e, F', N', ho, r⟩
    exact ⟨h', tk, m', news', e, F', N', ho, h _ _ r⟩
  cases f with
  | ret v => exact u
  | brk => exact u
  | next => exact e u
  | cont => exact e u
theorem enum_inv {elts : List Expr} {kk : Nat} {pos : Pos} {I : Addr} {lp : Addr × Obj} (J : Nat → List Value → (Str → Option Value) → Led → Prop)
    (turn : ∀ i v r m news T t h tk o1 o2, J i (v :: r) m news → IsTup h T #[.int (i : Int) t, v] → Fr h₀ env.locals h m → News h₀ env.locals h ((I + 1, o1) :: (I, o2) :: news) → o1.cls = .type "enumerate" → o2.cls = .type "list_iterator" →
      wpAny (model prog w) A (assign (.Tuple elts kk pos) env (.ref T)) (fun _ s₂ => wpAny (model prog w) A (execs body env) (UnrPostW h₀ env.locals { s with heap := h, toks := tk } [(I + 1, o1), (I, o2)] (fun m' n' => lp ∈ n' ∧ J (i + 1) r m' n') Q) E s₂) E { s with heap := h, toks := tk })
    (done : ∀ i m news h tk, J i [] m news → Fr h₀ env.locals h m → News h₀ env.locals h news → Q .next { s with heap := h, toks := tk }) :
    ∀ vs i m news, J i vs m news → ItemsRest prog w A E h₀ env (.Tuple elts kk pos) body Q s [(I + 1, "enumerate"), (I, "list_iterator")] [lp] (enumItems i vs) m news
  | [], i, m, news, j => ItemsRest.zero fun h tk F N => done i m news h tk j F N
  | v :: r, i, m, news, j => ItemsRest.pair fun T t h tk hT F => AllObj.cons fun o1 h1 => AllObj.cons fun o2 h2 => AllObj.nil fun N =>
    wpAny_mono (turn i v r m news T t h tk o1 o2 j hT F N h1 h2) (fun _ s₂ u => wpAny_mono u (fun f s₃ u => unrW_mono (fun m' n' z => ⟨⟨z.1, trivial⟩, enum_inv J turn done r (i + 1) m' n' z.2⟩) u) fun _ _ e => e) fun _ _ e => e
theorem enum_loop {σ : Type} {elts : List Expr} {kk : Nat} {pos : Pos} {l : Addr} {lo : Obj} {vs : List Value} {n : Nat} {m₀ : Str → Option Value} (Ld : σ → Led) (mp : σ → List (Str × Value)) (opt : List Str) (P : Nat → List Value → σ → Prop) (c₀ : σ)
    (hh : A.handled = none) (F : Fr h₀ env.locals s.heap m₀) (N : News h₀ env.locals s.heap (Ld c₀)) (hm : (l, lo) ∈ Ld c₀) (hc : lo.cls = .type "list") (hd : lo.data = .seq vs.toArray n)
    (hk : ∀ p ∈ mp c₀, m₀ p.1 = some p.2) (hp : P 0 vs c₀)
    (turn : ∀ I, (∀ p ∈ Ld c₀, @LT.lt Nat _ p.1 I) → ∀ i v r c T t (u : Str → Option Value) h tk o1 o2, P i (v :: r) c → IsTup h T #[.int (i : Int) t, v] → Fr h₀ env.locals h (fun y => if y = x then u y else kstB (fun z => if opt.contains z then u z else m₀ z) (mp c) y) → News h₀ env.locals h ((I + 1, o1) :: (I, o2) :: Ld c) → o1.cls = .type "enumerate" → o2.cls = .type "list_iterator" →
      wpAny (model prog w) A (assign (.Tuple elts kk pos) env (.ref T)) (fun _ s₂ => wpAny (model prog w) A (execs body env) (UnrPostW h₀ env.locals { s with heap := h, toks := tk } [(I + 1, o1), (I, o2)] (fun m' n' => (l, lo) ∈ n' ∧ GSt Ld mp x opt m₀ (P (i + 1)) r m' n') Q) E s₂) E { s with heap := h, toks := tk })
    (done : ∀ i c (u : Str → Option Value) h tk, P i [] c → Fr h₀ env.locals h (fun y => if y = x then u y else kstB (fun z => if opt.contains z then u z else m₀ z) (mp c) y) → News h₀ env.locals h (Ld c) → Q .next { s with heap := h, toks := tk }) :
    wpAny (model prog w) A (call (.type "enumerate") [.ref l]) (fun xv s₁ => wpAny (model prog w) A (pyIter xv) (fun it s₂ => TurnsAt prog w A h₀ env (.Tuple elts kk pos) body Q E it s₂) E s₁) E s := by
  refine ktu_enum (xs := enumItems 0 vs) hh F N hm hc hd rfl fun I hI => ?_
  refine enum_inv (fun i r => GSt Ld mp x opt m₀ (P i) r) ?_ ?_ _ _ _ _ ⟨c₀, rfl, hk, fun _ _ _ _ => rfl, hp⟩
  · rintro i v r m news T t h tk o1 o2 ⟨c, rfl, h1, h2, hp'⟩ hT F₁ N₁ hc1 hc2
    exact turn I hI i v r c T t m h tk o1 o2 hp' hT (kst_frOut h1 h2 F₁) N₁ hc1 hc2
  · rintro i m news h tk ⟨c, rfl, h1, h2, hp'⟩ F₁ N₁
    exact done i c m h tk hp' (kst_frOut h1 h2 F₁) N₁
end

end
section
set_option maxRecDepth 100000
set_option maxHeartbeats 8000000
/-- a goal at which the walk stands still -/
structure Halt (p : Prop) : Prop where
  go : p
section
variable {prog : Program} {w : World} {A : Around} {E : Value → Shared → Prop} {s : Shared} {env : Env} {h₀ : Heap} {L : Addr} {x : Str} {Q : Flow → Shared → Prop}
/-- what a statement leaves: the frame's names and the ledger by a state c -/
noncomputable def CutR {σ : Type} (h₀ : Heap) (L : Addr) (s : Shared) (Ld : σ → Led) (mp : σ → List (Str × Value)) (x : Str) (opt : List Str) (m₀ : Str → Option Value) (P : σ → Prop) (s' : Shared) : Prop :=
  ∃ h' tk m' n', s' = { s with heap := h', toks := tk } ∧ Fr h₀ L h' m' ∧ News h₀ L h' n' ∧ GSt Ld mp x opt m₀ (fun (_ : Unit) c => P c) () m' n'
theorem CutR.mk' {σ : Type} {Ld : σ → Led} {mp : σ → List (Str × Value)} {opt : List Str} {m₀ m' : Str → Option Value} {P : σ → Prop} {h' : Heap} {tk : Nat} {n : Led} (c : σ) (F' : Fr h₀ L h' m') (N' : News h₀ L h' n) (sub : ∀ p ∈ Ld c, p ∈ n)
    (k1 : ∀ p ∈ mp c, m' p.1 = some p.2) (k2 : ∀ z, z ≠ x → (∀ p ∈ mp c, z ≠ p.1) → opt.contains z = false → m' z = m₀ z) (hp : P c) : CutR h₀ L s Ld mp x opt m₀ P { s with heap := h', toks := tk } :=
  ⟨h', tk, m', Ld c, rfl, F', fun p hp => N' p (sub p hp), c, rfl, k1, k2, hp⟩
theorem unr_end {I : Addr} {it : Obj} {lp : Addr × Obj} {σ : Type} {h' : Heap} {Ld : σ → Led} {mp : σ → List (Str × Value)} {opt : List Str} {m₀ m' : Str → Option Value} {P : List Value → σ → Prop} {r : List Value} {tk : Nat} {n : Led} (c : σ)
    (F : Fr h₀ L h' m') (N : News h₀ L h' n) (hI : (I, it) ∈ n) (sub : ∀ p ∈ Ld c, p ∈ n) (off : ∀ p ∈ Ld c, @Ne Nat p.1 I) (hax : lp ∈ Ld c) (k1 : ∀ p ∈ mp c, m' p.1 = some p.2) (k2 : ∀ z, z ≠ x → (∀ p ∈ mp c, z ≠ p.1) → opt.contains z = false → m' z = m₀ z) (hp : P r c) :
    UnrEnd h₀ L s I it (fun m' n' => lp ∈ n' ∧ RSt Ld mp x opt m₀ P r m' n') { s with heap := h', toks := tk } :=
  ⟨h', tk, m', Ld c, rfl, F, fun p hp => by
    rcases List.mem_cons.mp hp with rfl | hp
    · exact N _ hI
    · exact N _ (sub p hp), off, hax, c, rfl, k1, k2, hp⟩
theorem unr_endG {ρ : Type} {I : Addr} {it : Obj} {σ : Type} {h' : Heap} {Ld : σ → Led} {mp : σ → List (Str × Value)} {opt : List Str} {m₀ m' : Str → Option Value} {P : ρ → σ → Prop} {r : ρ} {tk : Nat} {n : Led} (c : σ)
    (F : Fr h₀ L h' m') (N : News h₀ L h' n) (hI : (I, it) ∈ n) (sub : ∀ p ∈ Ld c, p ∈ n) (off : ∀ p ∈ Ld c, @Ne Nat p.1 I) (k1 : ∀ p ∈ mp c, m' p.1 = some p.2) (k2 : ∀ z, z ≠ x → (∀ p ∈ mp c, z ≠ p.1) → opt.contains z = false → m' z = m₀ z) (hp : P r c) :
    UnrEnd h₀ L s I it (fun m' n' => GSt Ld mp x opt m₀ P r m' n') { s with heap := h', toks := tk } :=
  ⟨h', tk, m', Ld c, rfl, F, fun p hp => by
    rcases List.mem_cons.mp hp with rfl | hp
    · exact N _ hI
    · exact N _ (sub p hp), off, c, rfl, k1, k2, hp⟩
end
theorem someInt {a b : Int} {t : Tok} (h : a = b) : some (Value.int a t) = some (.int b t) := by rw [h]
theorem someStr {a b : Str} {t : Tok} (h : a = b) : some (Value.str a t) = some (.str b t) := by rw [h]
theorem cat3 (a b c : List Nat) : (⟨a.toArray⟩ : Str) ++ ((⟨b.toArray⟩ : Str) ++ (⟨c.toArray⟩ : Str)) = ⟨(a ++ (b ++ c)).toArray⟩ := by
  show (⟨a.toArray ++ (b.toArray ++ c.toArray)⟩ : Str) = _
  simp

end
section
set_option maxRecDepth 100000
set_option maxHeartbeats 8000000
theorem contains_ne {l : List Str} {z a : Str} (h : l.contains z = false) (ha : a ∈ l) : z ≠ a := by
  rintro rfl
  have := List.contains_iff_mem.mpr ha
  rw [h] at this
  cases this
theorem cut_stmt2 {prog : Program} {w : World} {A : Around} {E : Value → Shared → Prop} {env : Env} {h₀ : Heap} {L : Addr} {Q : Flow → Shared → Prop} {σ : Type} {st : Stmt} {rest : List Stmt} {m₀ : Str → Option Value} {H : Heap} {g d : _} {tk0 : Nat} {o : _} (Ld : σ → Led) (mp : σ → List (Str × Value)) (x : Str) (opt : List Str) (P : σ → Prop) (F : Fr h₀ L H m₀)
    (h1 : ∀ t0 (Q' : Flow → Shared → Prop) (E' : Value → Shared → Prop), (∀ s', CutR h₀ L ⟨H, g, d, t0, o⟩ Ld mp x opt m₀ P s' → Q' .next s') → wpAny (model prog w) A (exec st env) Q' E' ⟨H, g, d, t0, o⟩)
    (h2 : ∀ c (r : Str → Option Value) h' tk, P c → (∀ z, z ≠ x → (∀ p ∈ mp c, z ≠ p.1) → opt.contains z = false → r z = m₀ z) → Fr h₀ L h' (fun y => kstB r (mp c) y) → News h₀ L h' (Ld c) → wpAny (model prog w) A (execs rest env) Q E ⟨h', g, d, tk, o⟩) :
    wpAny (model prog w) A (execs (st :: rest) env) Q E ⟨H, g, d, tk0, o⟩ := by
  refine wpAny_execs_cons (wpAny_mono (h1 tk0 (fun f s' => f = .next ∧ CutR h₀ L ⟨H, g, d, tk0, o⟩ Ld mp x opt m₀ P s') E fun s' h => ⟨rfl, h⟩) ?_ fun _ _ e => e)
  rintro f s' ⟨rfl, h', tk, m', n', rfl, F', N', c, rfl, k1, k2, hp⟩
  refine h2 c m' h' tk hp k2 ?_ N'
  have em : (fun y => kstB m' (mp c) y) = m' := funext fun y => kstB_eq k1 fun _ => rfl
  rw [em]
  exact F'
/-- what comes after, and what an exception would meet, as names -/
theorem any_QE {M : Model} {A : Around} {α : Type} {t : Sem α} {Q : α → Shared → Prop} {E : Value → Shared → Prop} {s : Shared}
    (h : ∀ (Q' : α → Shared → Prop) (E' : Value → Shared → Prop), (∀ f s', Q f s' → Q' f s') → wpAny M A t Q' E' s) : wpAny M A t Q E s := h Q E fun _ _ q => q
theorem if_join {prog : Program} {w : World} {A : Around} {E : Value → Shared → Prop} {env : Env} {Q : Flow → Shared → Prop} {test : Expr} {body orelse : List Stmt} {pos : Pos} {H : Heap} {g d : _} {tk0 : Nat} {o : _}
    (hE : ∀ t0, wpAny (model prog w) A (execs orelse env) Q E ⟨H, g, d, t0, o⟩)
    (h : (∀ t0, wpAny (model prog w) A (execs orelse env) Q E ⟨H, g, d, t0, o⟩) → wpAny (model prog w) A (exec (.If test body orelse pos) env) Q E ⟨H, g, d, tk0, o⟩) :
    wpAny (model prog w) A (exec (.If test body orelse pos) env) Q E ⟨H, g, d, tk0, o⟩ := h hE

end
section
set_option maxRecDepth 100000
set_option maxHeartbeats 8000000
/-- a sign of the drawn formula: a joint, or a sign that stands for itself -/
inductive Tk
  | J (n : Nat)
  | S (c : Nat)
noncomputable def Tk.Is : Tk → Value → Prop
  | .J n, v => ∃ t, v = .int (n : Int) t
  | .S c, v => ∃ t, v = .str (ch c) t
inductive TkAre : List Value → List Tk → Prop
  | nil : TkAre [] []
  | cons {v : Value} {a : Tk} {vs : List Value} {as : List Tk} : a.Is v → TkAre vs as → TkAre (v :: vs) (a :: as)
theorem TkAre.append {vs ws : List Value} {as bs : List Tk} (h : TkAre vs as) (g : TkAre ws bs) : TkAre (vs ++ ws) (as ++ bs) := by
  induction h with
  | nil => exact g
  | cons a _ ih => exact .cons a ih
theorem TkAre.snoc {vs : List Value} {w : Value} {as : List Tk} {b : Tk} (h : TkAre vs as) (g : b.Is w) : TkAre (vs ++ [w]) (as ++ [b]) := h.append (.cons g .nil)
theorem TkAre.length {vs : List Value} {as : List Tk} (h : TkAre vs as) : vs.length = as.length := by
  induction h with
  | nil => rfl
  | cons _ _ ih => simp [ih]
theorem TkAre.reverse {vs : List Value} {as : List Tk} (h : TkAre vs as) : TkAre vs.reverse as.reverse := by
  induction h with
  | nil => exact .nil
  | cons a _ ih => simpa using ih.append (.cons a .nil)
noncomputable def ar (j : Nat) : Nat := if j = 2 ∨ j = 3 then 3 else 2
noncomputable def okS (c : Nat) : Prop := (97 ≤ c ∧ c < 123) ∨ c ∈ oddL
/-- a row of signs that tells n formulas -/
noncomputable def WF : Nat → List Tk → Prop
  | n, [] => n = 0
  | 0, _ :: _ => False
  | n + 1, .S c :: r => okS c ∧ WF n r
  | n + 1, .J j :: r => j < 12 ∧ WF (n + ar j) r
/-- the text's signs tell the tokens -/
inductive Rd : List Nat → List Tk → Prop
  | nil : Rd [] []
  | skip {c : Nat} {r : List Nat} {ts : List Tk} : c < 1114112 → isB1 c = true → isC7 c = false → Rd r ts → Rd (c :: r) ts
  | joint {c j : Nat} {r : List Nat} {ts : List Tk} : c = 12272 + j → j < 12 → isB1 c = false → Rd r ts → Rd (c :: r) (.J j :: ts)
  | sign {c s : Nat} {r : List Nat} {ts : List Tk} : c < 1114112 → isB1 c = false → isC7 c = false → foldC c = ch s → Rd r ts → Rd (c :: r) (.S s :: ts)
theorem Rd.append {a b : List Nat} {x y : List Tk} (h : Rd a x) (g : Rd b y) : Rd (a ++ b) (x ++ y) := by
  induction h with
  | nil => exact g
  | skip h1 h2 h3 _ ih => exact .skip h1 h2 h3 ih
  | joint h1 h2 h3 _ ih => exact .joint h1 h2 h3 ih
  | sign h1 h2 h3 h4 _ ih => exact .sign h1 h2 h3 h4 ih
theorem Rd.len {a : List Nat} {x : List Tk} (h : Rd a x) : x.length ≤ a.length := by
  induction h <;> simp <;> omega
theorem WF.okS_mem : ∀ {n : Nat} {l : List Tk}, WF n l → ∀ c, Tk.S c ∈ l → okS c
  | n, [], _, c, h => nomatch h
  | 0, _ :: _, w, _, _ => w.elim
  | n + 1, .S d :: r, w, c, h => by
    rcases List.mem_cons.mp h with h | h
    · cases h; exact w.1
    · exact WF.okS_mem w.2 c h
  | n + 1, .J j :: r, w, c, h => by
    rcases List.mem_cons.mp h with h | h
    · cases h
    · exact WF.okS_mem w.2 c h
/-- more formulas wanted: the rest of the row -/
noncomputable def Wants (n : Nat) (D : List Tk) : Prop := ∀ L, WF n L → WF 1 (D ++ L)
theorem Wants.init : Wants 1 [] := fun L h => h
theorem Wants.sign {n c : Nat} {D : List Tk} (h : Wants (n + 1) D) (hc : okS c) : Wants n (D ++ [.S c]) := fun L w => by
  rw [List.append_assoc]
  exact h _ ⟨hc, w⟩
theorem Wants.joint {n j : Nat} {D : List Tk} (h : Wants (n + 1) D) (hj : j < 12) : Wants (n + ar j) (D ++ [.J j]) := fun L w => by
  rw [List.append_assoc]
  exact h _ ⟨hj, w⟩
theorem Wants.done {D : List Tk} (h : Wants 0 D) : WF 1 D := by
  have := h [] rfl
  rwa [List.append_nil] at this
theorem TkAre.el {v : Value} {r : List Value} {Lr : List Tk} (h : TkAre (v :: r) Lr) {G : Value → Prop} (kS : ∀ c t Lr', TkAre r Lr' → Lr = .S c :: Lr' → G (.str (ch c) t)) (kJ : ∀ j t Lr', TkAre r Lr' → Lr = .J j :: Lr' → G (.int (j : Int) t)) : G v := by
  cases h with
  | @cons _ tt _ Lr' hv hr =>
    cases tt with
    | S c => obtain ⟨t, rfl⟩ := hv; exact kS c t Lr' hr rfl
    | J j => obtain ⟨t, rfl⟩ := hv; exact kJ j t Lr' hr rfl

end
section
set_option maxRecDepth 100000
set_option maxHeartbeats 8000000
/-- what a joint tells of its parts -/
noncomputable def opv (j : Nat) (a b c : Int) : Int :=
  match j with
  | 0 => a + b | 1 => a - b
  | 2 => Builtin.bitOr (Builtin.bitAnd a b) (Builtin.bitAnd (Builtin.bitNot a) c)
  | 3 => a * b - c | 4 => a * b
  | 5 => Builtin.bitAnd a b | 6 => Builtin.bitOr a b | 7 => Builtin.bitXor a b
  | 8 => 2 * a + b | 9 => a + b | 10 => a * b | _ => Builtin.bitXor a b
/-- the pile after the signs, read from the last one; its top is the head -/
noncomputable def run (x : Int) : List Tk → List Int
  | [] => []
  | .S c :: r => (if c = 120 then x else (c : Int) - 110) :: run x r
  | .J j :: r => match run x r with
    | a :: b :: q => if j = 2 ∨ j = 3 then (match q with | c :: q' => opv j a b c :: q' | [] => []) else opv j a b 0 :: q
    | _ => []
theorem run_len (x : Int) : ∀ {n : Nat} {l : List Tk}, WF n l → (run x l).length = n
  | n, [], h => by cases h; rfl
  | 0, _ :: _, h => h.elim
  | n + 1, .S c :: r, h => by simp [run, run_len x h.2]
  | n + 1, .J j :: r, h => by
    have ih := run_len x h.2
    unfold run
    unfold ar at ih
    by_cases hj : j = 2 ∨ j = 3
    · rw [if_pos hj] at ih
      cases hr : run x r with
      | nil => rw [hr] at ih; simp at ih
      | cons a t =>
        cases t with
        | nil => rw [hr] at ih; simp at ih
        | cons b q =>
          cases q with
          | nil => rw [hr] at ih; simp at ih
          | cons c q => rw [hr] at ih; simp at ih ⊢; rw [if_pos hj]; simp; omega
    · rw [if_neg hj] at ih
      cases hr : run x r with
      | nil => rw [hr] at ih; simp at ih
      | cons a t =>
        cases t with
        | nil => rw [hr] at ih; simp at ih
        | cons b q => rw [hr] at ih; simp at ih ⊢; rw [if_neg hj]; simp; omega
/-- bounded by its signs -/
noncomputable def Bd (v : Int) (l : Nat) : Prop := 1 ≤ l ∧ -(2 ^ (17 * l) : Nat) ≤ v ∧ v < (2 ^ (17 * l) : Nat)
noncomputable def BdP : List Int → Nat → Prop
  | [], _ => True
  | v :: r, m => ∃ l, l ≤ m ∧ Bd v l ∧ BdP r (m - l)

end
section
set_option maxRecDepth 100000
set_option maxHeartbeats 8000000
theorem WF.tail : ∀ {n : Nat} {a b : List Tk}, WF n (a ++ b) → ∃ m, WF m b
  | n, [], b, h => ⟨n, h⟩
  | 0, _ :: _, b, h => h.elim
  | n + 1, .S c :: a, b, h => WF.tail (a := a) h.2
  | n + 1, .J j :: a, b, h => WF.tail (a := a) h.2
theorem ar_ge (j : Nat) : 2 ≤ ar j := by unfold ar; split <;> omega
theorem pile2 {x : Int} {m j : Nat} {td : List Tk} (h : WF m (.J j :: td)) : ∃ a b q, run x td = a :: b :: q := by
  cases m with
  | zero => exact h.elim
  | succ n =>
    have e := run_len x h.2
    have := ar_ge j
    cases hr : run x td with
    | nil => rw [hr] at e; simp at e; omega
    | cons a t =>
      cases t with
      | nil => rw [hr] at e; simp at e; omega
      | cons b q => exact ⟨a, b, q, rfl⟩
theorem pile3 {x : Int} {m j : Nat} {td : List Tk} (h : WF m (.J j :: td)) (hj : j = 2 ∨ j = 3) : ∃ a b c q, run x td = a :: b :: c :: q := by
  cases m with
  | zero => exact h.elim
  | succ n =>
    have e := run_len x h.2
    have h3 : ar j = 3 := by unfold ar; rw [if_pos hj]
    rw [h3] at e
    cases hr : run x td with
    | nil => rw [hr] at e; simp at e
    | cons a t =>
      cases t with
      | nil => rw [hr] at e; simp at e
      | cons b q =>
        cases q with
        | nil => rw [hr] at e; simp at e
        | cons c q => exact ⟨a, b, c, q, rfl⟩
theorem ints_rev2 {vs : List Value} {a b : Int} {q : List Int} (h : IntsAre vs (a :: b :: q).reverse) : ∃ qv ta tb, vs = qv ++ [.int b tb] ++ [.int a ta] ∧ IntsAre qv q.reverse := by
  have h' := h.reverse
  rw [List.reverse_reverse] at h'
  obtain ⟨ta, v1, e1, h1⟩ := h'.cons_inv
  obtain ⟨tb, v2, e2, h2⟩ := h1.cons_inv
  refine ⟨v2.reverse, ta, tb, ?_, h2.reverse⟩
  have : vs = vs.reverse.reverse := (List.reverse_reverse vs).symm
  rw [this, e1, e2]
  simp
theorem ints_snoc {vs : List Value} {a : Int} {t : Tok} {q : List Int} (h : IntsAre vs q.reverse) : IntsAre (vs ++ [.int a t]) (a :: q).reverse := by
  rw [List.reverse_cons]
  exact h.append (.cons _ _ .nil)

end
section
set_option maxRecDepth 100000
set_option maxHeartbeats 8000000
theorem and_range : ∀ (n : Nat) (x y : Int), -((2 ^ n : Nat) : Int) ≤ x → x < ((2 ^ n : Nat) : Int) → -((2 ^ n : Nat) : Int) ≤ y → y < ((2 ^ n : Nat) : Int) → -((2 ^ n : Nat) : Int) ≤ Builtin.bitAnd x y ∧ Builtin.bitAnd x y < ((2 ^ n : Nat) : Int)
  | 0, x, y, a, b, c, d => by
    have hx : x = 0 ∨ x = -1 := by simp at a b; omega
    have hy : y = 0 ∨ y = -1 := by simp at c d; omega
    rcases hx with rfl | rfl <;> rcases hy with rfl | rfl <;> decide
  | n + 1, x, y, a, b, c, d => by
    have e : ((2 ^ (n + 1) : Nat) : Int) = 2 * ((2 ^ n : Nat) : Int) := by rw [Nat.pow_succ]; omega
    rw [e] at a b c d ⊢
    have ih := and_range n (x / 2) (y / 2) (by omega) (by omega) (by omega) (by omega)
    rw [kbt_halves]
    split <;> omega
theorem or_range {n : Nat} {x y : Int} (a : -((2 ^ n : Nat) : Int) ≤ x) (b : x < ((2 ^ n : Nat) : Int)) (c : -((2 ^ n : Nat) : Int) ≤ y) (d : y < ((2 ^ n : Nat) : Int)) : -((2 ^ n : Nat) : Int) ≤ Builtin.bitOr x y ∧ Builtin.bitOr x y < ((2 ^ n : Nat) : Int) := by
  have h := and_range n (Builtin.bitNot x) (Builtin.bitNot y) (by unfold Builtin.bitNot; omega) (by unfold Builtin.bitNot; omega) (by unfold Builtin.bitNot; omega) (by unfold Builtin.bitNot; omega)
  unfold Builtin.bitOr
  generalize Builtin.bitAnd (Builtin.bitNot x) (Builtin.bitNot y) = z at h
  unfold Builtin.bitNot
  omega
theorem xor_range {n : Nat} {x y : Int} (a : -((2 ^ n : Nat) : Int) ≤ x) (b : x < ((2 ^ n : Nat) : Int)) (c : -((2 ^ n : Nat) : Int) ≤ y) (d : y < ((2 ^ n : Nat) : Int)) : -((2 ^ (n + 1) : Nat) : Int) ≤ Builtin.bitXor x y ∧ Builtin.bitXor x y < ((2 ^ (n + 1) : Nat) : Int) := by
  have h := and_range n x y a b c d
  have h2 := or_range a b c d
  have e : ((2 ^ (n + 1) : Nat) : Int) = 2 * ((2 ^ n : Nat) : Int) := by rw [Nat.pow_succ]; omega
  unfold Builtin.bitXor
  rw [e]
  omega
/-- bounded by l signs -/
noncomputable def Bnd (v : Int) (l : Nat) : Prop := 1 ≤ l ∧ v.natAbs ≤ 2 ^ (17 * l)
theorem mul_big {X Y : Nat} (hX : 131072 ≤ X) (hY : 131072 ≤ Y) : 4 * X + 4 * Y ≤ X * Y := by
  have h1 : X * 131072 ≤ X * Y := Nat.mul_le_mul_left _ hY
  have h2 : 131072 * Y ≤ X * Y := Nat.mul_le_mul_right _ hX
  omega
theorem pow_big {l : Nat} (h : 1 ≤ l) : 131072 ≤ 2 ^ (17 * l) := by
  have := Nat.pow_le_pow_right (show 0 < 2 by decide) (show 17 ≤ 17 * l by omega)
  have e : (2 : Nat) ^ 17 = 131072 := by decide
  omega
theorem pow_sum (a b : Nat) : 2 ^ (17 * (a + b)) = 2 ^ (17 * a) * 2 ^ (17 * b) := by rw [Nat.mul_add, Nat.pow_add]
theorem bnd_up {v : Int} {l m : Nat} (h : Bnd v l) (hm : l ≤ m) : v.natAbs ≤ 2 ^ (17 * m) := Nat.le_trans h.2 (Nat.pow_le_pow_right (by decide) (by omega))
theorem natAbs_in {v : Int} {n : Nat} (h : v.natAbs ≤ 2 ^ n) : -((2 ^ (n + 1) : Nat) : Int) ≤ v ∧ v < ((2 ^ (n + 1) : Nat) : Int) := by
  have e : ((2 ^ (n + 1) : Nat) : Int) = 2 * ((2 ^ n : Nat) : Int) := by rw [Nat.pow_succ]; omega
  have p : 0 < 2 ^ n := Nat.pow_pos (by decide)
  rw [e]
  omega
theorem in_natAbs {v : Int} {n m : Nat} (h : -((2 ^ n : Nat) : Int) ≤ v ∧ v < ((2 ^ n : Nat) : Int)) (hm : n ≤ m) : v.natAbs ≤ 2 ^ m := by
  have p : 2 ^ n ≤ 2 ^ m := Nat.pow_le_pow_right (by decide) hm
  generalize 2 ^ m = M at *
  generalize 2 ^ n = N at *
  omega
theorem mul_in {a b : Int} {X Y : Nat} (ha : a.natAbs ≤ X) (hb : b.natAbs ≤ Y) : (a * b).natAbs ≤ X * Y := by rw [Int.natAbs_mul]; exact Nat.mul_le_mul ha hb
theorem add_in {a b : Int} {X Y P : Nat} (ha : a.natAbs ≤ X) (hb : b.natAbs ≤ Y) (h : 4 * X + 4 * Y ≤ P) : (a + b).natAbs ≤ P := by omega
theorem sub_in {a b : Int} {X Y P : Nat} (ha : a.natAbs ≤ X) (hb : b.natAbs ≤ Y) (h : 4 * X + 4 * Y ≤ P) : (a - b).natAbs ≤ P := by
  rw [Int.sub_eq_add_neg]; exact add_in ha (by rw [Int.natAbs_neg]; exact hb) h
theorem dbl_in {a b : Int} {X Y P : Nat} (ha : a.natAbs ≤ X) (hb : b.natAbs ≤ Y) (h : 4 * X + 4 * Y ≤ P) : (2 * a + b).natAbs ≤ P := by omega
/-- a value of l signs lies well within k signs, when k is more than l -/
theorem bnd_in {v : Int} {l k : Nat} (h : Bnd v l) (hk : l < k) : -((2 ^ (17 * k - 2) : Nat) : Int) ≤ v ∧ v < ((2 ^ (17 * k - 2) : Nat) : Int) := by
  have q := natAbs_in (Nat.le_trans h.2 (Nat.pow_le_pow_right (n := 2) (by decide) (show 17 * l ≤ 17 * k - 3 by omega)))
  rwa [show 17 * k - 3 + 1 = 17 * k - 2 by omega] at q
theorem in_bnd {v : Int} {k : Nat} (h : -((2 ^ (17 * k - 2) : Nat) : Int) ≤ v ∧ v < ((2 ^ (17 * k - 2) : Nat) : Int)) : v.natAbs ≤ 2 ^ (17 * k) := in_natAbs h (Nat.sub_le _ _)
theorem in_bndX {v : Int} {k : Nat} (h : -((2 ^ (17 * k - 2 + 1) : Nat) : Int) ≤ v ∧ v < ((2 ^ (17 * k - 2 + 1) : Nat) : Int)) (hk : 0 < k) : v.natAbs ≤ 2 ^ (17 * k) := in_natAbs h (by omega)
theorem not_in {v : Int} {n : Nat} (h : -((2 ^ n : Nat) : Int) ≤ v ∧ v < ((2 ^ n : Nat) : Int)) : -((2 ^ n : Nat) : Int) ≤ Builtin.bitNot v ∧ Builtin.bitNot v < ((2 ^ n : Nat) : Int) := by unfold Builtin.bitNot; omega
theorem bnd2 {a b : Int} {l m j : Nat} (ha : Bnd a l) (hb : Bnd b m) (hj : ¬(j = 2 ∨ j = 3)) : Bnd (opv j a b 0) (l + m) := by
  have hl : l < l + m := Nat.lt_add_of_pos_right hb.1
  have hm : m < l + m := Nat.lt_add_of_pos_left ha.1
  refine ⟨Nat.le_trans ha.1 (Nat.le_of_lt hl), ?_⟩
  have B := mul_big (pow_big ha.1) (pow_big hb.1)
  rw [← pow_sum] at B
  have hmul := mul_in ha.2 hb.2
  rw [← pow_sum] at hmul
  have ra := bnd_in ha hl
  have rb := bnd_in hb hm
  have h0 : 0 < l + m := Nat.lt_of_le_of_lt (Nat.zero_le _) hl
  unfold opv
  split
  · exact add_in ha.2 hb.2 B
  · exact sub_in ha.2 hb.2 B
  · exact absurd (.inl rfl) hj
  · exact absurd (.inr rfl) hj
  · exact hmul
  · exact in_bnd (and_range _ _ _ ra.1 ra.2 rb.1 rb.2)
  · exact in_bnd (or_range ra.1 ra.2 rb.1 rb.2)
  · exact in_bndX (xor_range ra.1 ra.2 rb.1 rb.2) h0
  · exact dbl_in ha.2 hb.2 B
  · exact add_in ha.2 hb.2 B
  · exact hmul
  · exact in_bndX (xor_range ra.1 ra.2 rb.1 rb.2) h0
theorem bnd3 {a b c : Int} {l m n j : Nat} (ha : Bnd a l) (hb : Bnd b m) (hc : Bnd c n) (hj : j = 2 ∨ j = 3) : Bnd (opv j a b c) (l + m + n) := by
  have hn : n < l + m + n := Nat.lt_add_of_pos_left (Nat.lt_of_lt_of_le ha.1 (Nat.le_add_right _ _))
  have hlm : l + m < l + m + n := Nat.lt_add_of_pos_right hc.1
  have hl : l < l + m + n := Nat.lt_of_le_of_lt (Nat.le_add_right _ _) hlm
  have hm : m < l + m + n := Nat.lt_of_le_of_lt (Nat.le_add_left _ _) hlm
  refine ⟨Nat.le_trans ha.1 (Nat.le_of_lt hl), ?_⟩
  rcases hj with rfl | rfl
  · have ra := bnd_in ha hl
    have rb := bnd_in hb hm
    have rc := bnd_in hc hn
    have rd := not_in ra
    have r1 := and_range _ _ _ ra.1 ra.2 rb.1 rb.2
    have r2 := and_range _ (Builtin.bitNot a) c rd.1 rd.2 rc.1 rc.2
    exact in_bnd (or_range r1.1 r1.2 r2.1 r2.2)
  · have X := pow_big ha.1
    have hXY := pow_big (Nat.le_trans ha.1 (Nat.le_add_right l m))
    have B := mul_big hXY (pow_big hc.1)
    have hmul := mul_in ha.2 hb.2
    show (a * b - c).natAbs ≤ _
    rw [← pow_sum] at B hmul
    exact sub_in hmul hc.2 B
/-- the pile bounded -/
noncomputable def BndP : List Int → Nat → Prop
  | [], _ => True
  | v :: r, m => ∃ l, l ≤ m ∧ Bnd v l ∧ BndP r (m - l)
theorem BndP.mono : ∀ {l : List Int} {m m' : Nat}, BndP l m → m ≤ m' → BndP l m'
  | [], _, _, _, _ => trivial
  | v :: r, m, m', ⟨l, h1, h2, h3⟩, h => ⟨l, by omega, h2, h3.mono (by omega)⟩
theorem okS_bnd {c : Nat} (h : okS c) : Bnd ((c : Int) - 110) 1 := by
  refine ⟨Nat.le_refl _, ?_⟩
  have e : (2 : Nat) ^ (17 * 1) = 131072 := by decide
  rw [e]
  rcases h with h | h
  · omega
  · have : c ≤ 65040 := by
      simp [oddL] at h
      omega
    omega
theorem run_bnd {x : Int} (hx : x.natAbs ≤ 2 ^ 17) : ∀ {n : Nat} {td : List Tk}, WF n td → BndP (run x td) td.length
  | n, [], _ => trivial
  | 0, _ :: _, h => h.elim
  | n + 1, .S c :: r, h => by
    have ih := run_bnd hx h.2
    refine ⟨1, by simp, ?_, by simpa using ih⟩
    split
    · exact ⟨Nat.le_refl _, by simpa using hx⟩
    · exact okS_bnd h.1
  | n + 1, .J j :: r, h => by
    have ih := run_bnd hx h.2
    by_cases hj : j = 2 ∨ j = 3
    · obtain ⟨a, b, c, q, hq⟩ := pile3 (x := x) (m := n + 1) h hj
      rw [hq] at ih
      obtain ⟨l1, i1, i2, l2, i3, i4, l3, i5, i6, i7⟩ := ih
      have e : run x (.J j :: r) = opv j a b c :: q := by unfold run; rw [hq]; simp [hj]
      rw [e]
      exact ⟨l1 + l2 + l3, by simp; omega, bnd3 i2 i4 i6 hj, i7.mono (by simp; omega)⟩
    · obtain ⟨a, b, q, hq⟩ := pile2 (x := x) (m := n + 1) h
      rw [hq] at ih
      obtain ⟨l1, i1, i2, l2, i3, i4, i5⟩ := ih
      have e : run x (.J j :: r) = opv j a b 0 :: q := by unfold run; rw [hq]; simp [hj]
      rw [e]
      exact ⟨l1 + l2, by simp; omega, bnd2 i2 i4 hj, i5.mono (by simp; omega)⟩
theorem runJ2 {x a b : Int} {q : List Int} {td : List Tk} {j : Nat} (hq : run x td = a :: b :: q) (hj : ¬(j = 2 ∨ j = 3)) : run x (.J j :: td) = opv j a b 0 :: q := by unfold run; rw [hq]; simp [hj]
theorem runJ3 {x a b c : Int} {q : List Int} {td : List Tk} {j : Nat} (hq : run x td = a :: b :: c :: q) (hj : j = 2 ∨ j = 3) : run x (.J j :: td) = opv j a b c :: q := by unfold run; rw [hq]; simp [hj]
theorem Bnd.bits {v : Int} {l : Nat} (h : Bnd v l) (hl : l ≤ 9) : v.natAbs < 2 ^ 154 := by
  have h1 := bnd_up h hl
  have h2 : (2 : Nat) ^ (17 * 9) < 2 ^ 154 := Nat.pow_lt_pow_right (by decide) (by decide)
  omega

end
section
set_option maxRecDepth 100000
set_option maxHeartbeats 8000000
noncomputable def bitK (k a : Int) : Int := Builtin.bitAnd (a.fdiv (2 ^ k.toNat)) 1
/-- the calculus of the flips -/
noncomputable def opf (j : Nat) (k a b c p q r : Int) : Int :=
  match j with
  | 0 => Builtin.bitXor p q
  | 1 => Builtin.bitXor p q
  | 2 => Builtin.bitXor (if Builtin.bitXor (bitK k a) p = 0 then Builtin.bitXor (bitK k c) r else Builtin.bitXor (bitK k b) q) (if bitK k a = 0 then bitK k c else bitK k b)
  | 3 => (p * b + q * a + (if k = 0 then p * q else 0) + r).fmod 2
  | 4 => (p * b + q * a + (if k = 0 then p * q else 0) + r).fmod 2
  | 5 => Builtin.bitXor (Builtin.bitAnd (Builtin.bitXor (bitK k a) p) (Builtin.bitXor (bitK k b) q)) (Builtin.bitAnd (bitK k a) (bitK k b))
  | 6 => Builtin.bitXor (Builtin.bitOr (Builtin.bitXor (bitK k a) p) (Builtin.bitXor (bitK k b) q)) (Builtin.bitOr (bitK k a) (bitK k b))
  | 7 => Builtin.bitXor p q
  | 8 => q
  | 9 => Builtin.bitXor p q
  | 10 => (p * b + q * a + (if k = 0 then p * q else 0) + r).fmod 2
  | _ => Builtin.bitXor p q
noncomputable def runP (x k : Int) : List Tk → List (Int × Int)
  | [] => []
  | .S c :: r => (if c = 120 then (x, 1) else ((c : Int) - 110, 0)) :: runP x k r
  | .J j :: r => match runP x k r with
    | (a, p) :: (b, q) :: s => if j = 2 ∨ j = 3 then (match s with | (c, t) :: s' => (opv j a b c, opf j k a b c p q t) :: s' | [] => []) else (opv j a b 0, opf j k a b 0 p q 0) :: s
    | _ => []
theorem runP_fst (x k : Int) : ∀ td, (runP x k td).map (·.1) = run x td
  | [] => rfl
  | .S c :: r => by
    unfold runP run
    rw [List.map_cons, runP_fst x k r]
    split <;> rfl
  | .J j :: r => by
    have ih := runP_fst x k r
    unfold runP run
    rw [← ih]
    cases h : runP x k r with
    | nil => rfl
    | cons y t =>
      obtain ⟨a, p⟩ := y
      cases t with
      | nil => rfl
      | cons z s =>
        obtain ⟨b, q⟩ := z
        by_cases hj : j = 2 ∨ j = 3
        · simp only [List.map_cons, if_pos hj]
          cases s with
          | nil => rfl
          | cons w s => obtain ⟨c, t⟩ := w; rfl
        · simp only [List.map_cons, if_neg hj]
theorem runPJ2 {x k a b p q : Int} {s : List (Int × Int)} {td : List Tk} {j : Nat} (hq : runP x k td = (a, p) :: (b, q) :: s) (hj : ¬(j = 2 ∨ j = 3)) : runP x k (.J j :: td) = (opv j a b 0, opf j k a b 0 p q 0) :: s := by unfold runP; rw [hq]; simp only [if_neg hj]
theorem runPJ3 {x k a b c p q r : Int} {s : List (Int × Int)} {td : List Tk} {j : Nat} (hq : runP x k td = (a, p) :: (b, q) :: (c, r) :: s) (hj : j = 2 ∨ j = 3) : runP x k (.J j :: td) = (opv j a b c, opf j k a b c p q r) :: s := by unfold runP; rw [hq]; simp only [if_pos hj]
theorem runP_len {x k : Int} {n : Nat} {l : List Tk} (h : WF n l) : (runP x k l).length = n := by
  have := congrArg List.length (runP_fst x k l)
  rw [List.length_map, run_len x h] at this
  exact this
noncomputable def B01 (f : Int) : Prop := f = 0 ∨ f = 1
theorem xor01 {a b : Int} (ha : B01 a) (hb : B01 b) : B01 (Builtin.bitXor a b) := by
  rcases ha with rfl | rfl <;> rcases hb with rfl | rfl
  · exact .inl (by decide)
  · exact .inr (by decide)
  · exact .inr (by decide)
  · exact .inl (by decide)
theorem and01 {a b : Int} (ha : B01 a) (hb : B01 b) : B01 (Builtin.bitAnd a b) := by
  rcases ha with rfl | rfl <;> rcases hb with rfl | rfl
  · exact .inl (by decide)
  · exact .inl (by decide)
  · exact .inl (by decide)
  · exact .inr (by decide)
theorem or01 {a b : Int} (ha : B01 a) (hb : B01 b) : B01 (Builtin.bitOr a b) := by
  rcases ha with rfl | rfl <;> rcases hb with rfl | rfl
  · exact .inl (by decide)
  · exact .inr (by decide)
  · exact .inr (by decide)
  · exact .inr (by decide)
theorem bit01 (k a : Int) : B01 (bitK k a) := by
  unfold bitK
  rw [bitAnd_m1]
  unfold B01
  omega
theorem fmod01 (z : Int) : B01 (z.fmod 2) := by
  have h0 : 0 ≤ z.fmod 2 := Int.fmod_nonneg_of_pos z (by decide)
  have h1 : z.fmod 2 < 2 := Int.fmod_lt_of_pos z (by decide)
  unfold B01
  omega
theorem opf01 (j : Nat) (k a b c : Int) {p q r : Int} (hp : B01 p) (hq : B01 q) (hr : B01 r) : B01 (opf j k a b c p q r) := by
  have i1 := bit01 k a
  have i2 := bit01 k b
  have i3 := bit01 k c
  unfold opf
  split
  · exact xor01 hp hq
  · exact xor01 hp hq
  · refine xor01 ?_ ?_
    · split
      · exact xor01 i3 hr
      · exact xor01 i2 hq
    · split
      · exact i3
      · exact i2
  · exact fmod01 _
  · exact fmod01 _
  · exact xor01 (and01 (xor01 i1 hp) (xor01 i2 hq)) (and01 i1 i2)
  · exact xor01 (or01 (xor01 i1 hp) (xor01 i2 hq)) (or01 i1 i2)
  · exact xor01 hp hq
  · exact hq
  · exact xor01 hp hq
  · exact fmod01 _
  · exact xor01 hp hq
theorem runP01 (x k : Int) : ∀ td, ∀ e ∈ runP x k td, B01 e.2
  | [], e, h => nomatch h
  | .S c :: r, e, h => by
    rcases List.mem_cons.mp h with rfl | h
    · split
      · exact .inr rfl
      · exact .inl rfl
    · exact runP01 x k r e h
  | .J j :: r, e, h => by
    have ih := runP01 x k r
    unfold runP at h
    cases hr : runP x k r with
    | nil => rw [hr] at h; exact nomatch h
    | cons y t =>
      obtain ⟨a, p⟩ := y
      cases t with
      | nil => rw [hr] at h; exact nomatch h
      | cons z s =>
        obtain ⟨b, q⟩ := z
        rw [hr] at h ih
        have hp : B01 p := ih (a, p) (.head _)
        have hq : B01 q := ih (b, q) (.tail _ (.head _))
        dsimp only at h
        by_cases hj : j = 2 ∨ j = 3
        · rw [if_pos hj] at h
          cases s with
          | nil => exact nomatch h
          | cons w s =>
            obtain ⟨c, t⟩ := w
            have ht : B01 t := ih (c, t) (.tail _ (.tail _ (.head _)))
            rcases List.mem_cons.mp h with rfl | h
            · exact opf01 j k a b c hp hq ht
            · exact ih e (.tail _ (.tail _ (.tail _ h)))
        · rw [if_neg hj] at h
          rcases List.mem_cons.mp h with rfl | h
          · exact opf01 j k a b 0 hp hq (.inl rfl)
          · exact ih e (.tail _ (.tail _ h))
theorem pileP2 {x k : Int} {m j : Nat} {td : List Tk} (h : WF m (.J j :: td)) : ∃ a b q, runP x k td = a :: b :: q := by
  obtain ⟨a, b, q, e⟩ := pile2 (x := x) h
  have := runP_fst x k td
  rw [e] at this
  cases hr : runP x k td with
  | nil => rw [hr] at this; cases this
  | cons y t => cases t with
    | nil => rw [hr] at this; simp at this
    | cons z s => exact ⟨y, z, s, rfl⟩
theorem pileP3 {x k : Int} {m j : Nat} {td : List Tk} (h : WF m (.J j :: td)) (hj : j = 2 ∨ j = 3) : ∃ a b c q, runP x k td = a :: b :: c :: q := by
  obtain ⟨a, b, c, q, e⟩ := pile3 (x := x) h hj
  have := runP_fst x k td
  rw [e] at this
  cases hr : runP x k td with
  | nil => rw [hr] at this; cases this
  | cons y t => cases t with
    | nil => rw [hr] at this; simp at this
    | cons z s => cases s with
      | nil => rw [hr] at this; simp at this
      | cons w s => exact ⟨y, z, w, s, rfl⟩
theorem rev_split2 {α β : Type} {f : α → β} {es : List α} {y z : β} {s : List β} (h : (es.map f).reverse = y :: z :: s) : ∃ qe eb ea, es = qe ++ [eb] ++ [ea] ∧ f ea = y ∧ f eb = z ∧ (qe.map f).reverse = s := by
  rw [← List.map_reverse] at h
  cases hr : es.reverse with
  | nil => rw [hr] at h; cases h
  | cons ea t =>
    rw [hr, List.map_cons] at h
    cases t with
    | nil => cases h
    | cons eb t =>
      rw [List.map_cons] at h
      injection h with h1 h2
      injection h2 with h2 h3
      refine ⟨t.reverse, eb, ea, ?_, h1, h2, ?_⟩
      · have : es = es.reverse.reverse := (List.reverse_reverse es).symm
        rw [this, hr]; simp
      · rw [List.map_reverse, List.reverse_reverse]; exact h3
/-- an entry of the pile: a pair (value, flips) -/
structure En where
  (ad : Addr) (v : Int) (t : Tok) (f : Int) (u : Tok)
noncomputable abbrev En.pr (e : En) : Addr × Obj := (e.ad, { cls := .type "tuple", data := .seq #[.int e.v e.t, .int e.f e.u] })
noncomputable abbrev En.rf (e : En) : Value := .ref e.ad
noncomputable def En.vf (e : En) : Int × Int := (e.v, e.f)
theorem vf_snoc (qe : List En) (e : En) : ((qe ++ [e]).map En.vf).reverse = (e.v, e.f) :: (qe.map En.vf).reverse := by simp [En.vf]
theorem sub_en {n : List (Addr × Obj)} {PL : Addr} {cn : Nat} {TLo : Addr × Obj} {qe : List En} {e : En} {rest : List (Addr × Obj)} (h1 : (PL, W.listOf (qe.map En.rf ++ [Value.ref e.ad]).toArray cn) ∈ n) (h2 : TLo ∈ n) (h3 : e.pr ∈ n) (h4 : ∀ p ∈ qe.map En.pr ++ rest, p ∈ n) :
    ∀ p ∈ (PL, W.listOf ((qe ++ [e]).map En.rf).toArray cn) :: TLo :: ((qe ++ [e]).map En.pr ++ rest), p ∈ n := by
  intro p hp
  rw [List.map_append, List.map_append] at hp
  rcases List.mem_cons.mp hp with rfl | hp
  · exact h1
  rcases List.mem_cons.mp hp with rfl | hp
  · exact h2
  rcases List.mem_append.mp hp with hp | hp
  · rcases List.mem_append.mp hp with hp | hp
    · exact h4 p (List.mem_append_left _ hp)
    · rw [List.mem_singleton.mp hp]; exact h3
  · exact h4 p (List.mem_append_right _ hp)
theorem off_en {I PL TL : Addr} {o o2 : Obj} {es : List En} {rest : List (Addr × Obj)} (h1 : @LT.lt Nat _ PL I) (h2 : @LT.lt Nat _ TL I) (h3 : ∀ e ∈ es, @LT.lt Nat _ I e.ad) (h4 : ∀ p ∈ rest, @LT.lt Nat _ p.1 I) :
    ∀ p ∈ (PL, o) :: (TL, o2) :: (es.map En.pr ++ rest), @Ne Nat p.1 I := by
  intro p hp
  rcases List.mem_cons.mp hp with rfl | hp
  · exact Nat.ne_of_lt h1
  rcases List.mem_cons.mp hp with rfl | hp
  · exact Nat.ne_of_lt h2
  rcases List.mem_append.mp hp with hp | hp
  · obtain ⟨e, he, rfl⟩ := List.mem_map.mp hp
    exact (Nat.ne_of_lt (h3 e he)).symm
  · exact Nat.ne_of_lt (h4 p hp)
theorem ne_en {I PL : Addr} {es : List En} {rest : List (Addr × Obj)} (h1 : @LT.lt Nat _ PL I) (h3 : ∀ e ∈ es, @LT.lt Nat _ I e.ad) (h4 : ∀ p ∈ rest, @Ne Nat p.1 PL) : ∀ p ∈ es.map En.pr ++ rest, @Ne Nat p.1 PL := by
  intro p hp
  rcases List.mem_append.mp hp with hp | hp
  · obtain ⟨e, he, rfl⟩ := List.mem_map.mp hp
    exact (Nat.ne_of_lt (Nat.lt_trans h1 (h3 e he))).symm
  · exact h4 p hp
theorem snoc_gt {I : Addr} {qe : List En} {e : En} (h : ∀ e ∈ qe, @LT.lt Nat _ I e.ad) (he : @LT.lt Nat _ I e.ad) : ∀ x ∈ qe ++ [e], @LT.lt Nat _ I x.ad := by
  intro x hx
  rcases List.mem_append.mp hx with hx | hx
  · exact h x hx
  · rw [List.mem_singleton.mp hx]; exact he

end
section
set_option maxRecDepth 100000
set_option maxHeartbeats 8000000
/-- a' is a with the figure at place n turned if p is 1, by 2 ^ (n + 1) -/
noncomputable def Rel : Nat → Int → Int → Int → Prop
  | 0, p, a, a' => a' % 2 = (a + p) % 2
  | n + 1, p, a, a' => a' % 2 = a % 2 ∧ Rel n p (a / 2) (a' / 2)
noncomputable def bt : Nat → Int → Int
  | 0, a => a % 2
  | n + 1, a => bt n (a / 2)
theorem pow_s (n : Nat) : (2 : Int) ^ (n + 1) = 2 * 2 ^ n := by rw [Int.pow_succ]; (first | lia | omega)
theorem bt_eq : ∀ (n : Nat) (a : Int), bt n a = a / 2 ^ n % 2
  | 0, a => by simp [bt]
  | n + 1, a => by
    rw [bt, bt_eq n, pow_s, Int.ediv_ediv_of_nonneg (by decide)]
theorem rel_iff : ∀ (n : Nat) (p a a' : Int), Rel n p a a' ↔ ∃ t : Int, a' = a + p * 2 ^ n + 2 ^ (n + 1) * t
  | 0, p, a, a' => by
    simp only [Rel]
    constructor
    · intro h
      refine ⟨(a' - a - p) / 2, ?_⟩
      simp
      (first | lia | omega)
    · rintro ⟨t, e⟩
      simp at e
      (first | lia | omega)
  | n + 1, p, a, a' => by
    simp only [Rel]
    rw [rel_iff n]
    constructor
    · rintro ⟨h0, t, e⟩
      refine ⟨t, ?_⟩
      rw [pow_s (n + 1), pow_s n]
      rw [pow_s n] at e
      have h1 : p * (2 * 2 ^ n) = 2 * (p * 2 ^ n) := Int.mul_left_comm _ _ _
      have h2 : 2 * (2 * 2 ^ n) * t = 2 * (2 * 2 ^ n * t) := Int.mul_assoc _ _ _
      rw [h1, h2]
      (first | lia | omega)
    · rintro ⟨t, e⟩
      rw [pow_s (n + 1), pow_s n] at e
      have h1 : p * (2 * 2 ^ n) = 2 * (p * 2 ^ n) := Int.mul_left_comm _ _ _
      have h2 : 2 * (2 * 2 ^ n) * t = 2 * (2 * 2 ^ n * t) := Int.mul_assoc _ _ _
      rw [h1, h2] at e
      refine ⟨by (first | lia | omega), t, ?_⟩
      rw [pow_s n]
      (first | lia | omega)
theorem and_half (x y : Int) : Builtin.bitAnd x y / 2 = Builtin.bitAnd (x / 2) (y / 2) ∧ Builtin.bitAnd x y % 2 = Builtin.bitAnd (x % 2) (y % 2) := by
  have h := kbt_halves x y
  have hx : x % 2 = 0 ∨ x % 2 = 1 := by (first | lia | omega)
  have hy : y % 2 = 0 ∨ y % 2 = 1 := by (first | lia | omega)
  rcases hx with hx | hx <;> rcases hy with hy | hy <;> rw [hx, hy] at h ⊢
  · simp at h; refine ⟨by (first | lia | omega), ?_⟩; rw [show Builtin.bitAnd 0 0 = 0 by decide]; (first | lia | omega)
  · simp at h; refine ⟨by (first | lia | omega), ?_⟩; rw [show Builtin.bitAnd 0 1 = 0 by decide]; (first | lia | omega)
  · simp at h; refine ⟨by (first | lia | omega), ?_⟩; rw [show Builtin.bitAnd 1 0 = 0 by decide]; (first | lia | omega)
  · simp at h; refine ⟨by (first | lia | omega), ?_⟩; rw [show Builtin.bitAnd 1 1 = 1 by decide]; (first | lia | omega)
theorem bt01 (n : Nat) (a : Int) : bt n a = 0 ∨ bt n a = 1 := by
  rw [bt_eq]; (first | lia | omega)
theorem mod01 {p : Int} (h : B01 p) (a : Int) : (a + p) % 2 = 0 ∨ (a + p) % 2 = 1 := by (first | lia | omega)
/-- the figure of a' -/
theorem rel_bt : ∀ {n : Nat} {p a a' : Int}, B01 p → Rel n p a a' → bt n a' = Builtin.bitXor (bt n a) p
  | 0, p, a, a', hp, h => by
    simp only [Rel] at h
    simp only [bt]
    have ha : a % 2 = 0 ∨ a % 2 = 1 := by (first | lia | omega)
    rcases hp with rfl | rfl <;> rcases ha with ha | ha <;> rw [ha]
    · rw [show Builtin.bitXor 0 0 = 0 by decide]; (first | lia | omega)
    · rw [show Builtin.bitXor 1 0 = 1 by decide]; (first | lia | omega)
    · rw [show Builtin.bitXor 0 1 = 1 by decide]; (first | lia | omega)
    · rw [show Builtin.bitXor 1 1 = 0 by decide]; (first | lia | omega)
  | n + 1, p, a, a', hp, h => rel_bt (n := n) hp h.2
theorem rel_and : ∀ {n : Nat} {p q a a' b b' : Int}, B01 p → B01 q → Rel n p a a' → Rel n q b b' →
    Rel n (Builtin.bitXor (Builtin.bitAnd (Builtin.bitXor (bt n a) p) (Builtin.bitXor (bt n b) q)) (Builtin.bitAnd (bt n a) (bt n b))) (Builtin.bitAnd a b) (Builtin.bitAnd a' b')
  | 0, p, q, a, a', b, b', hp, hq, h1, h2 => by
    have e1 := rel_bt hp h1
    have e2 := rel_bt hq h2
    simp only [bt] at e1 e2
    simp only [Rel, bt]
    rw [← e1, ← e2, (and_half a' b').2]
    have h3 := (and_half a b).2
    have i1 : a' % 2 = 0 ∨ a' % 2 = 1 := by (first | lia | omega)
    have i2 : b' % 2 = 0 ∨ b' % 2 = 1 := by (first | lia | omega)
    have i3 : a % 2 = 0 ∨ a % 2 = 1 := by (first | lia | omega)
    have i4 : b % 2 = 0 ∨ b % 2 = 1 := by (first | lia | omega)
    have key : ∀ u v x y z : Int, (u = 0 ∨ u = 1) → (v = 0 ∨ v = 1) → (x = 0 ∨ x = 1) → (y = 0 ∨ y = 1) → z % 2 = Builtin.bitAnd x y → Builtin.bitAnd u v = (z + Builtin.bitXor (Builtin.bitAnd u v) (Builtin.bitAnd x y)) % 2 := by
      intro u v x y z hu hv hx hy hz
      have w1 := and01 hu hv
      have w2 := and01 hx hy
      generalize Builtin.bitAnd u v = g at *
      generalize Builtin.bitAnd x y = k at *
      rcases w1 with rfl | rfl <;> rcases w2 with rfl | rfl
      · rw [show Builtin.bitXor 0 0 = 0 by decide]; (first | lia | omega)
      · rw [show Builtin.bitXor 0 1 = 1 by decide]; (first | lia | omega)
      · rw [show Builtin.bitXor 1 0 = 1 by decide]; (first | lia | omega)
      · rw [show Builtin.bitXor 1 1 = 0 by decide]; (first | lia | omega)
    exact key _ _ _ _ _ i1 i2 i3 i4 h3
  | n + 1, p, q, a, a', b, b', hp, hq, h1, h2 => by
    simp only [Rel] at h1 h2 ⊢
    refine ⟨?_, ?_⟩
    · rw [(and_half a' b').2, (and_half a b).2, h1.1, h2.1]
    · rw [(and_half a' b').1, (and_half a b).1]
      exact rel_and (n := n) hp hq h1.2 h2.2
theorem rel_not : ∀ {n : Nat} {p a a' : Int}, B01 p → Rel n p a a' → Rel n p (Builtin.bitNot a) (Builtin.bitNot a')
  | 0, p, a, a', hp, h => by
    simp only [Rel] at h ⊢
    unfold Builtin.bitNot
    rcases hp with rfl | rfl <;> (first | lia | omega)
  | n + 1, p, a, a', hp, h => by
    simp only [Rel] at h ⊢
    have e : ∀ z : Int, Builtin.bitNot z / 2 = Builtin.bitNot (z / 2) := by intro z; unfold Builtin.bitNot; (first | lia | omega)
    rw [e, e]
    refine ⟨?_, rel_not (n := n) hp h.2⟩
    unfold Builtin.bitNot
    (first | lia | omega)
theorem bt_not : ∀ (n : Nat) (a : Int), bt n (Builtin.bitNot a) = 1 - bt n a
  | 0, a => by simp only [bt]; unfold Builtin.bitNot; (first | lia | omega)
  | n + 1, a => by
    simp only [bt]
    have e : Builtin.bitNot a / 2 = Builtin.bitNot (a / 2) := by unfold Builtin.bitNot; (first | lia | omega)
    rw [e, bt_not n]
theorem bt_and : ∀ (n : Nat) (a b : Int), bt n (Builtin.bitAnd a b) = Builtin.bitAnd (bt n a) (bt n b)
  | 0, a, b => (and_half a b).2
  | n + 1, a, b => by
    simp only [bt]
    rw [(and_half a b).1, bt_and n]

end
section
set_option maxRecDepth 100000
set_option maxHeartbeats 8000000
theorem bitK_bt (n : Nat) (a : Int) : bitK (n : Int) a = bt n a := by
  unfold bitK
  rw [bitAnd_m1, bt_eq, Int.toNat_natCast, Int.fdiv_eq_ediv_of_nonneg _ (Int.le_of_lt (kbt_pos n))]
theorem rel_par {n : Nat} {z a a' t : Int} (e : a' = a + z * 2 ^ n + 2 ^ (n + 1) * t) : Rel n (z.fmod 2) a a' := by
  rw [rel_iff]
  have h : z = z.fmod 2 + 2 * z.fdiv 2 := by have := Int.fmod_add_mul_fdiv z 2; (first | lia | omega)
  refine ⟨z.fdiv 2 + t, ?_⟩
  rw [pow_s] at e ⊢
  generalize z.fdiv 2 = y at h
  generalize z.fmod 2 = x at h
  subst h
  rw [e]
  grind
theorem fmod_xor {p q : Int} (hp : B01 p) (hq : B01 q) : (p + q).fmod 2 = Builtin.bitXor p q := by
  rcases hp with rfl | rfl <;> rcases hq with rfl | rfl <;> decide
theorem rel_add {n : Nat} {p q a a' b b' : Int} (hp : B01 p) (hq : B01 q) (h1 : Rel n p a a') (h2 : Rel n q b b') : Rel n (Builtin.bitXor p q) (a + b) (a' + b') := by
  obtain ⟨t, e1⟩ := (rel_iff _ _ _ _).mp h1
  obtain ⟨u, e2⟩ := (rel_iff _ _ _ _).mp h2
  rw [← fmod_xor hp hq]
  refine rel_par (t := t + u) ?_
  rw [e1, e2]
  grind
theorem fmod_xor' {p q : Int} (hp : B01 p) (hq : B01 q) : (p - q).fmod 2 = Builtin.bitXor p q := by
  rcases hp with rfl | rfl <;> rcases hq with rfl | rfl <;> decide
theorem rel_sub {n : Nat} {p q a a' b b' : Int} (hp : B01 p) (hq : B01 q) (h1 : Rel n p a a') (h2 : Rel n q b b') : Rel n (Builtin.bitXor p q) (a - b) (a' - b') := by
  obtain ⟨t, e1⟩ := (rel_iff _ _ _ _).mp h1
  obtain ⟨u, e2⟩ := (rel_iff _ _ _ _).mp h2
  rw [← fmod_xor' hp hq]
  refine rel_par (t := t - u) ?_
  rw [e1, e2]
  grind
theorem rel_dbl {n : Nat} {p q a a' b b' : Int} (hq : B01 q) (h1 : Rel n p a a') (h2 : Rel n q b b') : Rel n q (2 * a + b) (2 * a' + b') := by
  obtain ⟨t, e1⟩ := (rel_iff _ _ _ _).mp h1
  obtain ⟨u, e2⟩ := (rel_iff _ _ _ _).mp h2
  rw [rel_iff]
  refine ⟨p + 2 * t + u, ?_⟩
  rw [e1, e2, pow_s]
  grind
theorem rel_mul {n : Nat} {p q r a a' b b' c c' : Int} (h1 : Rel n p a a') (h2 : Rel n q b b') (h3 : Rel n r c c') :
    Rel n ((p * b + q * a + (if (n : Int) = 0 then p * q else 0) + r).fmod 2) (a * b - c) (a' * b' - c') := by
  obtain ⟨t, e1⟩ := (rel_iff _ _ _ _).mp h1
  obtain ⟨u, e2⟩ := (rel_iff _ _ _ _).mp h2
  obtain ⟨v, e3⟩ := (rel_iff _ _ _ _).mp h3
  cases n with
  | zero =>
    refine rel_par (t := a * u + t * b + p * u + t * q + 2 * t * u - v - r) ?_
    rw [e1, e2, e3]
    simp
    grind
  | succ n =>
    have hn : ¬ ((n + 1 : Nat) : Int) = 0 := by (first | lia | omega)
    rw [if_neg hn]
    refine rel_par (t := a * u + t * b + p * (2 ^ (n + 1)) * u + t * q * (2 ^ (n + 1)) + 2 * (2 ^ (n + 1)) * t * u - v - r + p * q * 2 ^ n) ?_
    rw [e1, e2, e3]
    have h2 := pow_s n
    have h3 := pow_s (n + 1)
    generalize (2 : Int) ^ (n + 1 + 1) = M2 at *
    generalize (2 : Int) ^ (n + 1) = M1 at *
    generalize (2 : Int) ^ n = M at *
    subst h3
    subst h2
    grind
theorem mem01 {x : Int} (h : B01 x) : x ∈ [(0 : Int), 1] := h.elim (fun e => e ▸ List.mem_cons_self) (fun e => e ▸ List.mem_cons_of_mem _ List.mem_cons_self)
theorem or_flip {p q i j : Int} (hp : B01 p) (hq : B01 q) (hi : B01 i) (hj : B01 j) :
    Builtin.bitXor (Builtin.bitAnd (Builtin.bitXor (1 - i) p) (Builtin.bitXor (1 - j) q)) (Builtin.bitAnd (1 - i) (1 - j)) = Builtin.bitXor (Builtin.bitOr (Builtin.bitXor i p) (Builtin.bitXor j q)) (Builtin.bitOr i j) :=
  (by decide +kernel : ∀ p ∈ [(0 : Int), 1], ∀ q ∈ [(0 : Int), 1], ∀ i ∈ [(0 : Int), 1], ∀ j ∈ [(0 : Int), 1], Builtin.bitXor (Builtin.bitAnd (Builtin.bitXor (1 - i) p) (Builtin.bitXor (1 - j) q)) (Builtin.bitAnd (1 - i) (1 - j)) = Builtin.bitXor (Builtin.bitOr (Builtin.bitXor i p) (Builtin.bitXor j q)) (Builtin.bitOr i j)) _ (mem01 hp) _ (mem01 hq) _ (mem01 hi) _ (mem01 hj)
theorem rel_or {n : Nat} {p q a a' b b' : Int} (hp : B01 p) (hq : B01 q) (h1 : Rel n p a a') (h2 : Rel n q b b') :
    Rel n (Builtin.bitXor (Builtin.bitOr (Builtin.bitXor (bt n a) p) (Builtin.bitXor (bt n b) q)) (Builtin.bitOr (bt n a) (bt n b))) (Builtin.bitOr a b) (Builtin.bitOr a' b') := by
  have h3 := rel_and hp hq (rel_not hp h1) (rel_not hq h2)
  rw [bt_not, bt_not, or_flip hp hq (bt01 n a) (bt01 n b)] at h3
  exact rel_not (xor01 (or01 (xor01 (bt01 n a) hp) (xor01 (bt01 n b) hq)) (or01 (bt01 n a) (bt01 n b))) h3
theorem rel_xor {n : Nat} {p q a a' b b' : Int} (hp : B01 p) (hq : B01 q) (h1 : Rel n p a a') (h2 : Rel n q b b') : Rel n (Builtin.bitXor p q) (Builtin.bitXor a b) (Builtin.bitXor a' b') := by
  have h3 := rel_and hp hq h1 h2
  generalize Builtin.bitXor (Builtin.bitAnd (Builtin.bitXor (bt n a) p) (Builtin.bitXor (bt n b) q)) (Builtin.bitAnd (bt n a) (bt n b)) = f at h3
  obtain ⟨t, e1⟩ := (rel_iff _ _ _ _).mp h1
  obtain ⟨u, e2⟩ := (rel_iff _ _ _ _).mp h2
  obtain ⟨v, e3⟩ := (rel_iff _ _ _ _).mp h3
  rw [bitXor_and a b, bitXor_and a' b', ← fmod_xor hp hq]
  generalize Builtin.bitAnd a b = z at *
  generalize Builtin.bitAnd a' b' = z' at *
  refine rel_par (t := t + u - f - 2 * v) ?_
  rw [e1, e2, e3, pow_s]
  grind
theorem sel_flip {p q r i j m : Int} (hp : B01 p) (hq : B01 q) (hr : B01 r) (hi : B01 i) (hj : B01 j) (hm : B01 m) :
    Builtin.bitXor (Builtin.bitOr (Builtin.bitXor (Builtin.bitAnd i j) (Builtin.bitXor (Builtin.bitAnd (Builtin.bitXor i p) (Builtin.bitXor j q)) (Builtin.bitAnd i j))) (Builtin.bitXor (Builtin.bitAnd (1 - i) m) (Builtin.bitXor (Builtin.bitAnd (Builtin.bitXor (1 - i) p) (Builtin.bitXor m r)) (Builtin.bitAnd (1 - i) m)))) (Builtin.bitOr (Builtin.bitAnd i j) (Builtin.bitAnd (1 - i) m))
     = Builtin.bitXor (if Builtin.bitXor i p = 0 then Builtin.bitXor m r else Builtin.bitXor j q) (if i = 0 then m else j) :=
  (by decide +kernel : ∀ p ∈ [(0 : Int), 1], ∀ q ∈ [(0 : Int), 1], ∀ r ∈ [(0 : Int), 1], ∀ i ∈ [(0 : Int), 1], ∀ j ∈ [(0 : Int), 1], ∀ m ∈ [(0 : Int), 1], Builtin.bitXor (Builtin.bitOr (Builtin.bitXor (Builtin.bitAnd i j) (Builtin.bitXor (Builtin.bitAnd (Builtin.bitXor i p) (Builtin.bitXor j q)) (Builtin.bitAnd i j))) (Builtin.bitXor (Builtin.bitAnd (1 - i) m) (Builtin.bitXor (Builtin.bitAnd (Builtin.bitXor (1 - i) p) (Builtin.bitXor m r)) (Builtin.bitAnd (1 - i) m)))) (Builtin.bitOr (Builtin.bitAnd i j) (Builtin.bitAnd (1 - i) m))
     = Builtin.bitXor (if Builtin.bitXor i p = 0 then Builtin.bitXor m r else Builtin.bitXor j q) (if i = 0 then m else j)) _ (mem01 hp) _ (mem01 hq) _ (mem01 hr) _ (mem01 hi) _ (mem01 hj) _ (mem01 hm)
theorem rel_sel {n : Nat} {p q r a a' b b' c c' : Int} (hp : B01 p) (hq : B01 q) (hr : B01 r) (h1 : Rel n p a a') (h2 : Rel n q b b') (h3 : Rel n r c c') :
    Rel n (Builtin.bitXor (if Builtin.bitXor (bt n a) p = 0 then Builtin.bitXor (bt n c) r else Builtin.bitXor (bt n b) q) (if bt n a = 0 then bt n c else bt n b))
      (Builtin.bitOr (Builtin.bitAnd a b) (Builtin.bitAnd (Builtin.bitNot a) c)) (Builtin.bitOr (Builtin.bitAnd a' b') (Builtin.bitAnd (Builtin.bitNot a') c')) := by
  have i1 := bt01 n a
  have i2 := bt01 n b
  have i3 := bt01 n c
  have g1 := rel_and hp hq h1 h2
  have g2 := rel_and hp hr (rel_not hp h1) h3
  rw [bt_not] at g2
  have n1 : B01 (1 - bt n a) := by unfold B01; (first | lia | omega)
  have g3 := rel_or (xor01 (and01 (xor01 i1 hp) (xor01 i2 hq)) (and01 i1 i2)) (xor01 (and01 (xor01 n1 hp) (xor01 i3 hr)) (and01 n1 i3)) g1 g2
  rw [bt_and, bt_and, bt_not] at g3
  rw [sel_flip hp hq hr i1 i2 i3] at g3
  exact g3
/-- the calculus is right, joint by joint -/
theorem rel_step (n : Nat) (j : Nat) (hj : j < 12) {p q r a a' b b' c c' : Int} (hp : B01 p) (hq : B01 q) (hr : B01 r) (h1 : Rel n p a a') (h2 : Rel n q b b') (h3 : Rel n r c c') (h30 : j = 4 ∨ j = 10 → r = 0 ∧ c = 0 ∧ c' = 0) :
    Rel n (opf j (n : Int) a b c p q r) (opv j a b c) (opv j a' b' c') := by
  unfold opf opv
  rw [bitK_bt, bitK_bt, bitK_bt]
  have hj' : j = 0 ∨ j = 1 ∨ j = 2 ∨ j = 3 ∨ j = 4 ∨ j = 5 ∨ j = 6 ∨ j = 7 ∨ j = 8 ∨ j = 9 ∨ j = 10 ∨ j = 11 := by (first | lia | omega)
  rcases hj' with rfl | rfl | rfl | rfl | rfl | rfl | rfl | rfl | rfl | rfl | rfl | rfl
  · exact rel_add hp hq h1 h2
  · exact rel_sub hp hq h1 h2
  · exact rel_sel hp hq hr h1 h2 h3
  · exact rel_mul h1 h2 h3
  · obtain ⟨rfl, rfl, rfl⟩ := h30 (.inl rfl)
    have := rel_mul h1 h2 h3
    rw [Int.sub_zero, Int.sub_zero] at this
    exact this
  · exact rel_and hp hq h1 h2
  · exact rel_or hp hq h1 h2
  · exact rel_xor hp hq h1 h2
  · exact rel_dbl hq h1 h2
  · exact rel_add hp hq h1 h2
  · obtain ⟨rfl, rfl, rfl⟩ := h30 (.inr rfl)
    have := rel_mul h1 h2 h3
    rw [Int.sub_zero, Int.sub_zero] at this
    exact this
  · exact rel_xor hp hq h1 h2
/-- two piles, entry by entry -/
inductive RelP (n : Nat) : List (Int × Int) → List Int → Prop
  | nil : RelP n [] []
  | cons {a p a' : Int} {s : List (Int × Int)} {s' : List Int} : B01 p → Rel n p a a' → RelP n s s' → RelP n ((a, p) :: s) (a' :: s')
theorem rel_zero (n : Nat) : Rel n 0 0 0 := by rw [rel_iff]; exact ⟨0, by simp⟩
theorem rel_refl (n : Nat) (a : Int) : Rel n 0 a a := by rw [rel_iff]; exact ⟨0, by simp⟩
theorem rel_run (n : Nat) {x y : Int} (h : Rel n 1 x y) : ∀ {m : Nat} {td : List Tk}, WF m td → RelP n (runP x (n : Int) td) (run y td)
  | m, [], _ => .nil
  | 0, _ :: _, w => w.elim
  | m + 1, .S c :: r, w => by
    have ih := rel_run n h w.2
    unfold runP run
    split
    · exact .cons (.inr rfl) h ih
    · exact .cons (.inl rfl) (rel_refl n _) ih
  | m + 1, .J j :: r, w => by
    have ih := rel_run n h w.2
    have hj := w.1
    by_cases h3 : j = 2 ∨ j = 3
    · obtain ⟨a, b, c, q, e⟩ := pile3 (x := y) (m := m + 1) w h3
      rw [runJ3 e h3]
      rw [e] at ih
      generalize hP : runP x (n : Int) r = P at ih
      cases ih with
      | cons pa ra ih =>
      cases ih with
      | cons pb rb ih =>
      cases ih with
      | cons pc rc ih =>
      rw [runPJ3 hP h3]
      exact .cons (opf01 _ _ _ _ _ pa pb pc) (rel_step n j hj pa pb pc ra rb rc (by (first | lia | omega))) ih
    · obtain ⟨a, b, q, e⟩ := pile2 (x := y) (m := m + 1) w
      rw [runJ2 e h3]
      rw [e] at ih
      generalize hP : runP x (n : Int) r = P at ih
      cases ih with
      | cons pa ra ih =>
      cases ih with
      | cons pb rb ih =>
      rw [runPJ2 hP h3]
      exact .cons (opf01 _ _ _ _ _ pa pb (.inl rfl)) (rel_step n j hj pa pb (.inl rfl) ra rb (rel_zero n) fun _ => ⟨rfl, rfl, rfl⟩) ih
/-- values and flips of a whole formula -/
theorem rel_top (n : Nat) {x y : Int} (h : Rel n 1 x y) {td : List Tk} (w : WF 1 td) : B01 ((runP x (n : Int) td).headD (0, 0)).2 ∧ Rel n ((runP x (n : Int) td).headD (0, 0)).2 ((run x td).headD 0) ((run y td).headD 0) := by
  have hr := rel_run n h w
  have hl := run_len y w
  have hf := runP_fst x (n : Int) td
  rw [← hf]
  generalize runP x (n : Int) td = P at hr ⊢
  generalize run y td = R at hr hl ⊢
  cases hr with
  | nil => cases hl
  | @cons a p a' s s' hp hrel hrest => exact ⟨hp, hrel⟩
theorem opf0 (j : Nat) (k a b c : Int) : opf j k a b c 0 0 0 = 0 := by
  have i1 := bit01 k a
  have i2 := bit01 k b
  have i3 := bit01 k c
  have hx : ∀ z, B01 z → Builtin.bitXor z 0 = z := fun z _ => bitXor_zero z
  unfold opf
  split
  · decide
  · decide
  · rw [hx _ i1, hx _ i2, hx _ i3]; split <;> exact bitXor_self _
  · simp
  · simp
  · rw [hx _ i1, hx _ i2]; exact bitXor_self _
  · rw [hx _ i1, hx _ i2]; exact bitXor_self _
  · decide
  · rfl
  · decide
  · simp
  · decide
inductive RelL (n : Nat) : List Int → List Int → Prop
  | nil : RelL n [] []
  | cons {a a' : Int} {s s' : List Int} : Rel n 0 a a' → RelL n s s' → RelL n (a :: s) (a' :: s')
theorem rel_runL (n : Nat) {x y : Int} (h : Rel n 0 x y) : ∀ {m : Nat} {td : List Tk}, WF m td → RelL n (run x td) (run y td)
  | m, [], _ => .nil
  | 0, _ :: _, w => w.elim
  | m + 1, .S c :: r, w => by
    have ih := rel_runL n h w.2
    unfold run
    split
    · exact .cons h ih
    · exact .cons (rel_refl n _) ih
  | m + 1, .J j :: r, w => by
    have ih := rel_runL n h w.2
    have hj := w.1
    by_cases h3 : j = 2 ∨ j = 3
    · obtain ⟨a, b, c, q, e⟩ := pile3 (x := y) (m := m + 1) w h3
      rw [runJ3 e h3]
      rw [e] at ih
      generalize hP : run x r = P at ih
      cases ih with
      | cons ra ih =>
      cases ih with
      | cons rb ih =>
      cases ih with
      | cons rc ih =>
      rw [runJ3 hP h3]
      have := rel_step n j hj (.inl rfl) (.inl rfl) (.inl rfl) ra rb rc (by (first | lia | omega))
      rw [opf0] at this
      exact .cons this ih
    · obtain ⟨a, b, q, e⟩ := pile2 (x := y) (m := m + 1) w
      rw [runJ2 e h3]
      rw [e] at ih
      generalize hP : run x r = P at ih
      cases ih with
      | cons ra ih =>
      cases ih with
      | cons rb ih =>
      rw [runJ2 hP h3]
      have := rel_step n j hj (.inl rfl) (.inl rfl) (.inl rfl) ra rb (rel_zero n) fun _ => ⟨rfl, rfl, rfl⟩
      rw [opf0] at this
      exact .cons this ih
theorem rel_topL (n : Nat) {x y : Int} (h : Rel n 0 x y) {td : List Tk} (w : WF 1 td) : Rel n 0 ((run x td).headD 0) ((run y td).headD 0) := by
  have hr := rel_runL n h w
  generalize run x td = P at hr ⊢
  generalize run y td = R at hr ⊢
  cases hr with
  | nil => exact rel_zero n
  | cons ra _ => exact ra
theorem rel_mod {n : Nat} {a a' : Int} (h : Rel n 0 a a') : a'.fmod (2 ^ (n + 1)) = a.fmod (2 ^ (n + 1)) := by
  obtain ⟨t, e⟩ := (rel_iff _ _ _ _).mp h
  rw [e, Int.zero_mul, Int.add_zero, Int.add_mul_fmod_self_left]
theorem and_lift : ∀ (n : Nat) (h : Int), 0 ≤ h → h < 2 ^ n → Builtin.bitAnd h (h + 2 ^ n) = h
  | 0, h, h0, h1 => by
    have : h = 0 := by simp at h1; (first | lia | omega)
    subst this
    decide
  | n + 1, h, h0, h1 => by
    rw [pow_s] at h1 ⊢
    have ih := and_lift n (h / 2) (by (first | lia | omega)) (by (first | lia | omega))
    rw [kbt_halves]
    have e1 : (h + 2 * 2 ^ n) / 2 = h / 2 + 2 ^ n := by (first | lia | omega)
    have e2 : (h + 2 * 2 ^ n) % 2 = h % 2 := by (first | lia | omega)
    rw [e1, e2, ih]
    split <;> (first | lia | omega)
theorem rel_xorM {n : Nat} {f a a' : Int} (hf : B01 f) (h : Rel n f a a') : Builtin.bitXor (a.fmod (2 ^ (n + 1))) (a'.fmod (2 ^ (n + 1))) = f * 2 ^ n := by
  have hpos := kbt_pos (n + 1)
  have hpn := kbt_pos n
  rcases hf with rfl | rfl
  · rw [rel_mod h, bitXor_self]; simp
  · obtain ⟨t, e⟩ := (rel_iff _ _ _ _).mp h
    rw [Int.one_mul] at e ⊢
    have ha0 : 0 ≤ a.fmod (2 ^ (n + 1)) := Int.fmod_nonneg_of_pos _ hpos
    have ha1 : a.fmod (2 ^ (n + 1)) < 2 ^ (n + 1) := Int.fmod_lt_of_pos _ hpos
    have hd := Int.fmod_add_mul_fdiv a (2 ^ (n + 1))
    by_cases hl : a.fmod (2 ^ (n + 1)) < 2 ^ n
    · have e2 : a'.fmod (2 ^ (n + 1)) = a.fmod (2 ^ (n + 1)) + 2 ^ n := by
        have e3 : a' = (a.fmod (2 ^ (n + 1)) + 2 ^ n) + 2 ^ (n + 1) * (a.fdiv (2 ^ (n + 1)) + t) := by
          rw [e, Int.mul_add]; (first | lia | omega)
        rw [e3, Int.add_mul_fmod_self_left, Int.fmod_eq_emod_of_nonneg _ (Int.le_of_lt hpos), Int.emod_eq_of_lt (by (first | lia | omega)) (by have := pow_s n; (first | lia | omega))]
      rw [e2, bitXor_and, and_lift n _ ha0 hl]
      (first | lia | omega)
    · have e2 : a'.fmod (2 ^ (n + 1)) = a.fmod (2 ^ (n + 1)) - 2 ^ n := by
        have e3 : a' = (a.fmod (2 ^ (n + 1)) - 2 ^ n) + 2 ^ (n + 1) * (a.fdiv (2 ^ (n + 1)) + t + 1) := by
          rw [e, Int.mul_add, Int.mul_add]; have := pow_s n; (first | lia | omega)
        rw [e3, Int.add_mul_fmod_self_left, Int.fmod_eq_emod_of_nonneg _ (Int.le_of_lt hpos), Int.emod_eq_of_lt (by (first | lia | omega)) (by have := pow_s n; (first | lia | omega))]
      rw [e2, bitXor_and]
      have e4 := and_lift n (a.fmod (2 ^ (n + 1)) - 2 ^ n) (by (first | lia | omega)) (by have := pow_s n; (first | lia | omega))
      rw [show a.fmod (2 ^ (n + 1)) - 2 ^ n + 2 ^ n = a.fmod (2 ^ (n + 1)) by (first | lia | omega), bitAnd_comm] at e4
      rw [e4]
      (first | lia | omega)
theorem rel_near (n : Nat) (x : Int) : Rel n 1 x (Builtin.bitXor x (2 ^ n)) := by
  rw [rel_iff]
  refine ⟨-(x / 2 ^ n % 2), ?_⟩
  rw [bitXor_and, kbt_bit, pow_s]
  generalize x / 2 ^ n % 2 = b
  grind
theorem rel_away (n : Nat) (x z : Int) : Rel n 0 x (x + z * 2 ^ (n + 1)) := by
  rw [rel_iff]
  refine ⟨z, ?_⟩
  grind

end
section
set_option maxRecDepth 100000
theorem rel_mod2 {f v v' : Int} (h : Rel 0 f v v') : (v' - v - f) % 2 = 0 := by
  obtain ⟨t, e⟩ := (rel_iff _ _ _ _).mp h
  simp at e
  omega
theorem rel_mod4 {f v v' : Int} (h : Rel 1 f v v') : (v' - v - 2 * f) % 4 = 0 := by
  obtain ⟨t, e⟩ := (rel_iff _ _ _ _).mp h
  simp at e
  omega
theorem rel_mod8 {f v v' : Int} (h : Rel 2 f v v') : (v' - v - 4 * f) % 8 = 0 := by
  obtain ⟨t, e⟩ := (rel_iff _ _ _ _).mp h
  simp at e
  omega
theorem pair8 {u v c : Int} (hc : B01 c) (e : (v - u - 4 * c) % 8 = 0) : v % 8 ≠ u % 8 ↔ c = 1 := by
  rcases hc with rfl | rfl <;> lia
theorem two4 {v0 v2 v4 v6 : Int} (e2 : (v2 - v0) % 4 = 0) (e4 : (v4 - v0 - 4) % 8 = 0) : v2 % 8 = v0 % 8 ∨ v2 % 8 = v4 % 8 := by omega
theorem four0 {v0 v1 v2 : Int} (e1 : (v1 - v0) % 2 = 0) (e2 : (v2 - v0 - 2) % 4 = 0) : (v1 - v0) % 4 = 0 ∨ (v1 - v2) % 4 = 0 := by omega
theorem four2 {v0 v1 v2 v4 v6 : Int} (e1 : (v1 - v0) % 2 = 0) (e2 : (v2 - v0 - 2) % 4 = 0) (e4 : (v4 - v0 - 4) % 8 = 0) (e6 : (v6 - v2 - 4) % 8 = 0) : v1 % 8 = v0 % 8 ∨ v1 % 8 = v2 % 8 ∨ v1 % 8 = v4 % 8 ∨ v1 % 8 = v6 % 8 := by
  rcases four0 e1 e2 with q | q
  · rcases two4 (v6 := 0) q e4 with q | q
    · exact .inl q
    · exact .inr (.inr (.inl q))
  · rcases two4 (v6 := 0) q e6 with q | q
    · exact .inr (.inl q)
    · exact .inr (.inr (.inr q))
theorem odd_ne {u v : Int} (h : (v - u - 1) % 2 = 0) : u % 8 ≠ v % 8 := by omega
theorem two_ne {u v : Int} (h : (v - u - 2) % 4 = 0) : u % 8 ≠ v % 8 := by omega
theorem four_ne {u v : Int} (h : (v - u - 4) % 8 = 0) : u % 8 ≠ v % 8 := by omega
theorem od2 {u v w : Int} (h : (v - u - 1) % 2 = 0) (g : (w - v - 2) % 4 = 0) : (w - u - 1) % 2 = 0 := by omega
theorem od4 {u v w : Int} (h : (v - u - 1) % 2 = 0) (g : (w - v - 4) % 8 = 0) : (w - u - 1) % 2 = 0 := by omega
theorem do2 {u v w : Int} (h : (v - u - 1) % 2 = 0) (g : (w - u - 2) % 4 = 0) : (v - w - 1) % 2 = 0 := by omega
theorem do4 {u v w : Int} (h : (v - u - 1) % 2 = 0) (g : (w - u - 4) % 8 = 0) : (v - w - 1) % 2 = 0 := by omega
theorem tw4 {u v w : Int} (h : (v - u - 2) % 4 = 0) (g : (w - v - 4) % 8 = 0) : (w - u - 2) % 4 = 0 := by omega
theorem wt4 {u v w : Int} (h : (v - u - 2) % 4 = 0) (g : (w - u - 4) % 8 = 0) : (v - w - 2) % 4 = 0 := by omega
theorem eight_if {v0 v1 v2 v3 v4 v5 v6 v7 : Int} (e1 : (v1 - v0 - 1) % 2 = 0) (e2 : (v2 - v0 - 2) % 4 = 0) (e3 : (v3 - v1 - 2) % 4 = 0)
    (e4 : (v4 - v0 - 4) % 8 = 0) (e5 : (v5 - v1 - 4) % 8 = 0) (e6 : (v6 - v2 - 4) % 8 = 0) (e7 : (v7 - v3 - 4) % 8 = 0) :
    [v0 % 8, v1 % 8, v2 % 8, v3 % 8, v4 % 8, v5 % 8, v6 % 8, v7 % 8].Nodup := by
  have o03 := od2 e1 e3
  have o05 := od4 e1 e5
  have o07 := od4 o03 e7
  have t06 := tw4 e2 e6
  have t17 := tw4 e3 e7
  simp only [List.nodup_cons, List.mem_cons, List.not_mem_nil, or_false, not_or, not_false_eq_true, List.nodup_nil, and_true]
  exact ⟨⟨odd_ne e1, two_ne e2, odd_ne o03, four_ne e4, odd_ne o05, two_ne t06, odd_ne o07⟩,
    ⟨(odd_ne (do2 e1 e2)).symm, two_ne e3, (odd_ne (do4 e1 e4)).symm, four_ne e5, (odd_ne (do2 e1 t06)).symm, two_ne t17⟩,
    ⟨odd_ne (do2 o03 e2), (two_ne (wt4 e2 e4)).symm, odd_ne (do2 o05 e2), four_ne e6, odd_ne (do2 o07 e2)⟩,
    ⟨(odd_ne (do4 o03 e4)).symm, (two_ne (wt4 e3 e5)).symm, (odd_ne (do2 o03 t06)).symm, four_ne e7⟩,
    ⟨odd_ne (do4 o05 e4), two_ne (wt4 t06 e4), odd_ne (do4 o07 e4)⟩,
    ⟨(odd_ne (do2 o05 t06)).symm, two_ne (wt4 t17 e5)⟩, odd_ne (do2 o07 t06)⟩
theorem eight_only {v0 v1 v2 v3 v4 v5 v6 v7 a b0 b1 c0 c1 c2 c3 : Int} (ha : B01 a) (hb0 : B01 b0) (hb1 : B01 b1) (hc0 : B01 c0) (hc1 : B01 c1) (hc2 : B01 c2) (hc3 : B01 c3)
    (e1 : (v1 - v0 - a) % 2 = 0) (e2 : (v2 - v0 - 2 * b0) % 4 = 0) (e3 : (v3 - v1 - 2 * b1) % 4 = 0)
    (e4 : (v4 - v0 - 4 * c0) % 8 = 0) (e5 : (v5 - v1 - 4 * c1) % 8 = 0) (e6 : (v6 - v2 - 4 * c2) % 8 = 0) (e7 : (v7 - v3 - 4 * c3) % 8 = 0)
    (h : [v0 % 8, v1 % 8, v2 % 8, v3 % 8, v4 % 8, v5 % 8, v6 % 8, v7 % 8].Nodup) : a = 1 ∧ b0 = 1 ∧ b1 = 1 ∧ c0 = 1 ∧ c1 = 1 ∧ c2 = 1 ∧ c3 = 1 := by
  simp only [List.nodup_cons, List.mem_cons, List.not_mem_nil, or_false, not_or, not_false_eq_true, List.nodup_nil, and_true] at h
  obtain ⟨⟨h01, h02, h03, h04, h05, h06, h07⟩, ⟨h12, h13, h14, h15, h16, h17⟩, ⟨h23, h24, h25, h26, h27⟩, ⟨h34, h35, h36, h37⟩, ⟨h45, h46, h47⟩, ⟨h56, h57⟩, h67⟩ := h
  have k0 := (pair8 hc0 e4).mp (Ne.symm h04)
  have k1 := (pair8 hc1 e5).mp (Ne.symm h15)
  have k2 := (pair8 hc2 e6).mp (Ne.symm h26)
  have k3 := (pair8 hc3 e7).mp (Ne.symm h37)
  subst k0 k1 k2 k3
  have m0 : b0 = 1 := by
    rcases hb0 with rfl | rfl
    · rcases two4 (v6 := 0) (by simpa using e2) e4 with q | q
      · exact absurd q.symm h02
      · exact absurd q h24
    · rfl
  have m1 : b1 = 1 := by
    rcases hb1 with rfl | rfl
    · rcases two4 (v6 := 0) (by simpa using e3) e5 with q | q
      · exact absurd q.symm h13
      · exact absurd q h35
    · rfl
  subst m0 m1
  refine ⟨?_, rfl, rfl, rfl, rfl, rfl, rfl⟩
  rcases ha with rfl | rfl
  · rcases four2 (by simpa using e1) e2 e4 e6 with q | q | q | q
    · exact absurd q.symm h01
    · exact absurd q h12
    · exact absurd q h14
    · exact absurd q h16
  · rfl

end
section
set_option maxRecDepth 100000
theorem step8 {a b c d e f g h : Int} (h0 : 0 ≤ a) (h8 : h < 8) (h1 : a < b) (h2 : b < c) (h3 : c < d) (h4 : d < e) (h5 : e < f) (h6 : f < g) (h7 : g < h) : a = 0 ∧ b = 1 ∧ c = 2 ∧ d = 3 ∧ e = 4 ∧ f = 5 ∧ g = 6 ∧ h = 7 := by (first | lia | omega)
theorem lt_of {a b : Int} (h : a ≤ b) (g : a ≠ b) : a < b := by (first | lia | omega)
theorem sorted_lit : ∀ {l : List Int}, l.length = 8 → l.Pairwise (· ≤ ·) → l.Nodup → (∀ r ∈ l, 0 ≤ r ∧ r < 8) → l = [0, 1, 2, 3, 4, 5, 6, 7]
  | [a, b, c, d, e, f, g, h], _, hs, hn, hb => by
    have hs' := hs
    rw [List.nodup_iff_pairwise_ne] at hn
    have hst := List.Pairwise.imp₂ (fun x y (p : x ≤ y) (q : x ≠ y) => lt_of p q) hs' hn
    simp only [List.pairwise_cons, List.mem_cons, List.not_mem_nil, or_false, forall_eq_or_imp, forall_eq] at hst
    have h0 := (hb a (.head _)).1
    have h8 := (hb h (by simp)).2
    obtain ⟨p1, p2, p3, p4, p5, p6, p7, _⟩ := hst
    obtain ⟨rfl, rfl, rfl, rfl, rfl, rfl, rfl, rfl⟩ := step8 h0 h8 p1.1 p2.1 p3.1 p4.1 p5.1 p6.1 p7
    rfl
theorem sorted_eight {l R : List Int} (hp : l.Perm R) (hs : l.Pairwise (· ≤ ·)) (hl : R.length = 8) (hb : ∀ r ∈ R, 0 ≤ r ∧ r < 8) : l = [0, 1, 2, 3, 4, 5, 6, 7] ↔ R.Nodup := by
  constructor
  · intro e
    subst e
    exact hp.nodup_iff.mp (by decide)
  · intro h
    exact sorted_lit (hp.length_eq.trans hl) hs (hp.nodup_iff.mpr h) fun r hr => hb r (hp.mem_iff.mp hr)

end
section
set_option maxRecDepth 100000
noncomputable def r8 (dts : List Tk) (y : Int) : Int := ((run y dts).headD 0).fmod 8
noncomputable def flp (dts : List Tk) (k y : Int) : Int := ((runP y k dts).headD (0, 0)).2
theorem no0 {l : List Int} (h : ∀ f ∈ l, B01 f) : (0 : Int) ∉ l ↔ ∀ f ∈ l, f = 1 := by
  constructor
  · intro h0 f hf
    rcases h f hf with rfl | rfl
    · exact absurd hf h0
    · rfl
  · intro h1 h0
    exact absurd (h1 0 h0) (by decide)
theorem eight_law {dts : List Tk} (w : WF 1 dts) :
    [r8 dts 0, r8 dts 1, r8 dts 2, r8 dts 3, r8 dts 4, r8 dts 5, r8 dts 6, r8 dts 7].Nodup ↔ (0 : Int) ∉ [flp dts 0 0, flp dts 1 0, flp dts 1 1, flp dts 2 0, flp dts 2 1, flp dts 2 2, flp dts 2 3] := by
  obtain ⟨b0, q0⟩ := rel_top 0 (x := 0) (y := 1) ((rel_iff _ _ _ _).mpr ⟨0, by decide⟩) w
  obtain ⟨b1, q1⟩ := rel_top 1 (x := 0) (y := 2) ((rel_iff _ _ _ _).mpr ⟨0, by decide⟩) w
  obtain ⟨b2, q2⟩ := rel_top 1 (x := 1) (y := 3) ((rel_iff _ _ _ _).mpr ⟨0, by decide⟩) w
  obtain ⟨b3, q3⟩ := rel_top 2 (x := 0) (y := 4) ((rel_iff _ _ _ _).mpr ⟨0, by decide⟩) w
  obtain ⟨b4, q4⟩ := rel_top 2 (x := 1) (y := 5) ((rel_iff _ _ _ _).mpr ⟨0, by decide⟩) w
  obtain ⟨b5, q5⟩ := rel_top 2 (x := 2) (y := 6) ((rel_iff _ _ _ _).mpr ⟨0, by decide⟩) w
  obtain ⟨b6, q6⟩ := rel_top 2 (x := 3) (y := 7) ((rel_iff _ _ _ _).mpr ⟨0, by decide⟩) w
  replace q0 := rel_mod2 q0
  replace q1 := rel_mod4 q1
  replace q2 := rel_mod4 q2
  replace q3 := rel_mod8 q3
  replace q4 := rel_mod8 q4
  replace q5 := rel_mod8 q5
  replace q6 := rel_mod8 q6
  have e : ∀ y, r8 dts y = ((run y dts).headD 0) % 8 := fun y => Int.fmod_eq_emod_of_nonneg _ (by decide)
  simp only [e]
  rw [no0 (by
    intro f hf
    simp only [List.mem_cons, List.not_mem_nil, or_false] at hf
    rcases hf with rfl | rfl | rfl | rfl | rfl | rfl | rfl
    · exact b0
    · exact b1
    · exact b2
    · exact b3
    · exact b4
    · exact b5
    · exact b6)]
  constructor
  · intro h
    obtain ⟨a0, a1, a2, a3, a4, a5, a6⟩ := eight_only b0 b1 b2 b3 b4 b5 b6 q0 q1 q2 q3 q4 q5 q6 h
    intro f hf
    simp only [List.mem_cons, List.not_mem_nil, or_false] at hf
    rcases hf with rfl | rfl | rfl | rfl | rfl | rfl | rfl
    · exact a0
    · exact a1
    · exact a2
    · exact a3
    · exact a4
    · exact a5
    · exact a6
  · intro h
    have h0 : ((runP 0 ((0 : Nat) : Int) dts).headD (0, 0)).2 = 1 := h _ (by simp [flp])
    have h1 : ((runP 0 ((1 : Nat) : Int) dts).headD (0, 0)).2 = 1 := h _ (by simp [flp])
    have h2 : ((runP 1 ((1 : Nat) : Int) dts).headD (0, 0)).2 = 1 := h _ (by simp [flp])
    have h3 : ((runP 0 ((2 : Nat) : Int) dts).headD (0, 0)).2 = 1 := h _ (by simp [flp])
    have h4 : ((runP 1 ((2 : Nat) : Int) dts).headD (0, 0)).2 = 1 := h _ (by simp [flp])
    have h5 : ((runP 2 ((2 : Nat) : Int) dts).headD (0, 0)).2 = 1 := h _ (by simp [flp])
    have h6 : ((runP 3 ((2 : Nat) : Int) dts).headD (0, 0)).2 = 1 := h _ (by simp [flp])
    rw [h0] at q0
    rw [h1] at q1
    rw [h2] at q2
    rw [h3] at q3
    rw [h4] at q4
    rw [h5] at q5
    rw [h6] at q6
    exact eight_if q0 (by simpa using q1) (by simpa using q2) (by simpa using q3) (by simpa using q4) (by simpa using q5) (by simpa using q6)
theorem r8_in (dts : List Tk) (y : Int) : 0 ≤ r8 dts y ∧ r8 dts y < 8 := by
  rw [r8, Int.fmod_eq_emod_of_nonneg _ (by decide)]
  (first | lia | omega)
noncomputable def R8 (dts : List Tk) : List Int := [r8 dts 0, r8 dts 1, r8 dts 2, r8 dts 3, r8 dts 4, r8 dts 5, r8 dts 6, r8 dts 7]
noncomputable def F7 (dts : List Tk) : List Int := [flp dts 0 0, flp dts 1 0, flp dts 1 1, flp dts 2 0, flp dts 2 1, flp dts 2 2, flp dts 2 3]
theorem R8_in (dts : List Tk) : ∀ r ∈ R8 dts, 0 ≤ r ∧ r < 8 := by
  intro r hr
  simp only [R8, List.mem_cons, List.not_mem_nil, or_false] at hr
  rcases hr with rfl | rfl | rfl | rfl | rfl | rfl | rfl | rfl <;> exact r8_in _ _
/-- the law's last line -/
theorem last_law {dts : List Tk} (w : WF 1 dts) {l : List Int} (hp : l.Perm (R8 dts)) (hs : l.Pairwise (· ≤ ·)) : l = [0, 1, 2, 3, 4, 5, 6, 7] ↔ (0 : Int) ∉ F7 dts :=
  (sorted_eight hp hs rfl (R8_in dts)).trans (eight_law w)

end
section
set_option maxRecDepth 100000
theorem head_fst {l : List (Int × Int)} : (l.headD (0, 0)).1 = (l.map (·.1)).headD 0 := by cases l <;> rfl
theorem law_facts {x k z : Int} {dts : List Tk} (w : WF 1 dts) (bk0 : 0 ≤ k) :
    B01 ((runP x k dts).headD (0, 0)).2 ∧ ((runP x k dts).headD (0, 0)).1 = (run x dts).headD 0 ∧
    ((run (x + z * 2 ^ (k + 1).toNat) dts).headD 0).fmod (2 ^ (k + 1).toNat) = ((run x dts).headD 0).fmod (2 ^ (k + 1).toNat) ∧
    Builtin.bitXor (((run x dts).headD 0).fmod (2 ^ (k + 1).toNat)) (((run (Builtin.bitXor x (2 ^ k.toNat)) dts).headD 0).fmod (2 ^ (k + 1).toNat)) = ((runP x k dts).headD (0, 0)).2 * 2 ^ k.toNat := by
  obtain ⟨n, rfl⟩ := Int.eq_ofNat_of_zero_le bk0
  have e1 : ((n : Int) + 1).toNat = n + 1 := by (first | lia | omega)
  have e0 : ((n : Int)).toNat = n := by (first | lia | omega)
  rw [e1, e0]
  obtain ⟨b, r⟩ := rel_top n (rel_near n x) w
  exact ⟨b, head_fst.trans (by rw [runP_fst]), rel_mod (rel_topL n (rel_away n x z) w), rel_xorM b r⟩
theorem near_bnd {x k : Int} (bx0 : -2048 ≤ x) (bx1 : x < 2048) (bk0 : 0 ≤ k) (bk1 : k < 6) : -2 ^ 17 ≤ Builtin.bitXor x (2 ^ k.toNat) ∧ Builtin.bitXor x (2 ^ k.toNat) < 2 ^ 17 := by
  have hk : (0 : Int) ≤ 2 ^ k.toNat ∧ (2 : Int) ^ k.toNat ≤ 32 := by
    obtain ⟨n, rfl⟩ := Int.eq_ofNat_of_zero_le bk0
    rw [Int.toNat_natCast]
    have : n = 0 ∨ n = 1 ∨ n = 2 ∨ n = 3 ∨ n = 4 ∨ n = 5 := by (first | lia | omega)
    rcases this with rfl | rfl | rfl | rfl | rfl | rfl <;> decide
  have e : ((2 ^ 16 : Nat) : Int) = 65536 := by decide
  have e' : ((2 ^ (16 + 1) : Nat) : Int) = 131072 := by decide
  have h := xor_range (n := 16) (x := x) (y := 2 ^ k.toNat) (by rw [e]; (first | lia | omega)) (by rw [e]; (first | lia | omega)) (by rw [e]; (first | lia | omega)) (by rw [e]; (first | lia | omega))
  rw [e'] at h
  (first | lia | omega)
theorem away_bnd {x k z : Int} (bx0 : -2048 ≤ x) (bx1 : x < 2048) (bk0 : 0 ≤ k) (bk1 : k < 6) (bz0 : -1000 ≤ z) (bz1 : z ≤ 1000) : -2 ^ 17 ≤ x + z * 2 ^ (k + 1).toNat ∧ x + z * 2 ^ (k + 1).toNat < 2 ^ 17 := by
  have hk : (2 : Int) ^ (k + 1).toNat = 2 ∨ (2 : Int) ^ (k + 1).toNat = 4 ∨ (2 : Int) ^ (k + 1).toNat = 8 ∨ (2 : Int) ^ (k + 1).toNat = 16 ∨ (2 : Int) ^ (k + 1).toNat = 32 ∨ (2 : Int) ^ (k + 1).toNat = 64 := by
    obtain ⟨n, rfl⟩ := Int.eq_ofNat_of_zero_le bk0
    have e1 : ((n : Int) + 1).toNat = n + 1 := by (first | lia | omega)
    rw [e1]
    have : n = 0 ∨ n = 1 ∨ n = 2 ∨ n = 3 ∨ n = 4 ∨ n = 5 := by (first | lia | omega)
    rcases this with rfl | rfl | rfl | rfl | rfl | rfl <;> decide
  rcases hk with e | e | e | e | e | e <;> rw [e] <;> (first | lia | omega)

end
local macro_rules | `(tactic| walk_at "binaryOp Mult int int") => `(tactic| (k_dflt (refine' PySem.mul_int ?_ ?hm; (case hm => assumption))))
local macro_rules | `(tactic| walk_at "inplaceOp Mult int int") => `(tactic| (k_dflt (refine' PySem.imul_int ?_ ?hm; (case hm => assumption))))
section
set_option maxRecDepth 100000
set_option maxHeartbeats 8000000
theorem fillO1 : (PySem.Challenge.rw_wb0084_01 = PySem.Challenge.rw_wb0084_01) ∧ K = K := by
  k_fill
  exact ⟨rfl, rfl⟩
noncomputable def OutN (v0 : Int) (news : Led) (n : Led) (v : Value) : Prop := n = news ∧ ∃ t, v = .int v0 t
theorem OutN.el {v0 : Int} {news : Led} (G : Led → Value → Prop) (T : ∀ t, G news (.int v0 t)) (n : Led) (v : Value) (o : OutN v0 news n v) : G n v := by
  obtain ⟨rfl, t, rfl⟩ := o; exact T t
theorem d63 (w : World) (a b : Int) (ta tb : Tok) (news : Led) : Cn w 63 2 100 [.int a ta, .int b tb] news (OutN (a + b) news) := by
  unfold Cn
  intro mg mb mean dp un gd cn cs ad ccd cl outer A₀ base h₀ L m s Q E B F X N T hk c1 c2 hd hu hret
  refine wpAny_call ?_
  k_dflt ktr_rel
  k_steps
  exact cn_end hret (by k_asm) (by k_asm) ⟨rfl, _, rfl⟩
theorem d70 (w : World) (a b : Int) (ta tb : Tok) (news : Led) : Cn w 70 2 100 [.int a ta, .int b tb] news (OutN (Builtin.bitAnd a b) news) := by
  unfold Cn
  intro mg mb mean dp un gd cn cs ad ccd cl outer A₀ base h₀ L m s Q E B F X N T hk c1 c2 hd hu hret
  refine wpAny_call ?_
  k_dflt ktr_rel
  k_steps
  exact cn_end hret (by k_asm) (by k_asm) ⟨rfl, _, rfl⟩
theorem d77 (w : World) (a : Int) (ta : Tok) (news : Led) : Cn w 77 2 100 [.int a ta] news (OutN (Builtin.bitNot a) news) := by
  unfold Cn
  intro mg mb mean dp un gd cn cs ad ccd cl outer A₀ base h₀ L m s Q E B F X N T hk c1 c2 hd hu hret
  refine wpAny_call ?_
  k_dflt ktr_rel
  k_steps
  exact cn_end hret (by k_asm) (by k_asm) ⟨rfl, _, rfl⟩
theorem d98 (w : World) (a : Int) (ta : Tok) (news : Led) : Cn w 98 2 100 [.int a ta] news (OutN (-a) news) := by
  unfold Cn
  intro mg mb mean dp un gd cn cs ad ccd cl outer A₀ base h₀ L m s Q E B F X N T hk c1 c2 hd hu hret
  refine wpAny_call ?_
  k_dflt ktr_rel
  k_steps
  exact cn_end hret (by k_asm) (by k_asm) ⟨rfl, _, rfl⟩
theorem d105 (w : World) (a b : Int) (ta tb : Tok) (news : Led) : Cn w 105 2 100 [.int a ta, .int b tb] news (OutN (Builtin.bitOr a b) news) := by
  unfold Cn
  intro mg mb mean dp un gd cn cs ad ccd cl outer A₀ base h₀ L m s Q E B F X N T hk c1 c2 hd hu hret
  refine wpAny_call ?_
  k_dflt ktr_rel
  k_steps
  exact cn_end hret (by k_asm) (by k_asm) ⟨rfl, _, rfl⟩
theorem d112 (w : World) (a b : Int) (ta tb : Tok) (news : Led) : Cn w 112 2 100 [.int a ta, .int b tb] news (OutN (a - b) news) := by
  unfold Cn
  intro mg mb mean dp un gd cn cs ad ccd cl outer A₀ base h₀ L m s Q E B F X N T hk c1 c2 hd hu hret
  refine wpAny_call ?_
  k_dflt ktr_rel
  k_steps
  exact cn_end hret (by k_asm) (by k_asm) ⟨rfl, _, rfl⟩
theorem d119 (w : World) (a b : Int) (ta tb : Tok) (news : Led) : Cn w 119 2 100 [.int a ta, .int b tb] news (OutN (Builtin.bitXor a b) news) := by
  unfold Cn
  intro mg mb mean dp un gd cn cs ad ccd cl outer A₀ base h₀ L m s Q E B F X N T hk c1 c2 hd hu hret
  refine wpAny_call ?_
  k_dflt ktr_rel
  k_steps
  exact cn_end hret (by k_asm) (by k_asm) ⟨rfl, _, rfl⟩
theorem d126 (w : World) (a b : Int) (ta tb : Tok) (news : Led) : Cn w 126 2 100 [.int a ta, .int b tb] news (OutN (a + b) news) := by
  unfold Cn
  intro mg mb mean dp un gd cn cs ad ccd cl outer A₀ base h₀ L m s Q E B F X N T hk c1 c2 hd hu hret
  refine wpAny_call ?_
  k_dflt ktr_rel
  k_steps
  exact cn_end hret (by k_asm) (by k_asm) ⟨rfl, _, rfl⟩
theorem d140 (w : World) (a b : Int) (ta tb : Tok) (news : Led) : Cn w 140 2 100 [.int a ta, .int b tb] news (OutN (Builtin.bitXor a b) news) := by
  unfold Cn
  intro mg mb mean dp un gd cn cs ad ccd cl outer A₀ base h₀ L m s Q E B F X N T hk c1 c2 hd hu hret
  refine wpAny_call ?_
  k_dflt ktr_rel
  k_steps
  exact cn_end hret (by k_asm) (by k_asm) ⟨rfl, _, rfl⟩
theorem d84 (w : World) (a b : Int) (ta tb : Tok) (news : Led) (h0 : 0 ≤ b) (h1 : (↑(Builtin.Int.intBits a) : Int) + b ≤ 2 ^ 27) : Cn w 84 2 100 [.int a ta, .int b tb] news (OutN (a * 2 ^ b.toNat) news) := by
  unfold Cn
  intro mg mb mean dp un gd cn cs ad ccd cl outer A₀ base h₀ L m s Q E B F X N T hk c1 c2 hd hu hret
  refine wpAny_call ?_
  k_dflt ktr_rel
  k_steps
  exact cn_end hret (by k_asm) (by k_asm) ⟨rfl, _, rfl⟩
theorem d91 (w : World) (a b : Int) (ta tb : Tok) (news : Led) (hq : IntMulOk a b) : Cn w 91 2 100 [.int a ta, .int b tb] news (OutN (a * b) news) := by
  unfold Cn
  intro mg mb mean dp un gd cn cs ad ccd cl outer A₀ base h₀ L m s Q E B F X N T hk c1 c2 hd hu hret
  refine wpAny_call ?_
  k_dflt ktr_rel
  k_steps
  exact cn_end hret (by k_asm) (by k_asm) ⟨rfl, _, rfl⟩
theorem d133 (w : World) (a b : Int) (ta tb : Tok) (news : Led) (hq : IntMulOk a b) : Cn w 133 2 100 [.int a ta, .int b tb] news (OutN (a * b) news) := by
  unfold Cn
  intro mg mb mean dp un gd cn cs ad ccd cl outer A₀ base h₀ L m s Q E B F X N T hk c1 c2 hd hu hret
  refine wpAny_call ?_
  k_dflt ktr_rel
  k_steps
  exact cn_end hret (by k_asm) (by k_asm) ⟨rfl, _, rfl⟩

end
local macro_rules | `(tactic| walk_at "call builtin:list.append") => `(tactic| (k_here; (with_reducible show wpAny _ _ (call (Value.builtin _) [Value.ref _, _]) _ _ _); k_dflt (refine' append_K ?k1 ?k2 ?k3 ?_ ?z; (case k1 | k2 => k_asm); (case k3 => k_upd); (case z => assumption); k_whole); intro h' F' N'; (try simp only [List.push_toArray] at N'); (try k_sweep)))
local macro_rules | `(tactic| walk_at "exec For Name Name cons nil") => `(tactic| (k_here; (rename Fr _ _ _ _ => lF'); (with_unfolding_all refine' For_invVF lF' ?k1 ?k2 ?_; (case k1 | k2 => exact rfl); k_whole)))
local macro_rules | `(tactic| walk_at "exec For Name Call cons nil") => `(tactic| (k_here; (rename Fr _ _ _ _ => lF'); (with_unfolding_all refine' For_invVF lF' ?k1 ?k2 ?_; (case k1 | k2 => exact rfl); k_whole)))
local macro_rules | `(tactic| walk_at "pyIter str") => `(tactic| ((with_reducible show wpAny _ _ (pyIter _) (fun it s₂ => LoopAtV _ _ _ _ _ _ _ _ _ it s₂) _ _); refine Halt.go ?_))
local macro_rules | `(tactic| walk_at "pyIter ref") => `(tactic| ((with_reducible show wpAny _ _ (pyIter _) (fun it s₂ => LoopAtV _ _ _ _ _ _ _ _ _ it s₂) _ _); refine Halt.go ?_))
local macro_rules | `(tactic| walk_at "UnrEnd") => `(tactic| refine Halt.go ?_)
local macro_rules | `(tactic| walk_at "UnrEndW") => `(tactic| refine Halt.go ?_)
section
set_option maxRecDepth 100000
set_option maxHeartbeats 8000000
theorem fillE2 : (PySem.Challenge.rw_wb0084_01 = PySem.Challenge.rw_wb0084_01) ∧ K = K := by
  k_fill
  exact ⟨rfl, rfl⟩
noncomputable def OutToks (ts : List Tk) (news : Led) (nw : Led) (v : Value) : Prop :=
  ∀ G : Led → Value → Prop, (∀ D vs n, TkAre vs ts → (∀ p ∈ news, @LT.lt Nat _ p.1 D) → G ((D, W.listOf vs.toArray n) :: news) (.ref D)) → G nw v
theorem OutToks.el {ts : List Tk} {news : Led} (G : Led → Value → Prop) (T : ∀ D vs n, TkAre vs ts → (∀ p ∈ news, @LT.lt Nat _ p.1 D) → G ((D, W.listOf vs.toArray n) :: news) (.ref D)) (nw : Led) (v : Value) (o : OutToks ts news nw v) : G nw v := o G T
theorem OutToks.mk {ts : List Tk} {news : Led} {n9 : Led} {v9 : Value} (D : Addr) (vs : List Value) (n : Nat) (hv : v9 = .ref D) (hn : n9 = (D, W.listOf vs.toArray n) :: news) (h0 : TkAre vs ts) (h1 : ∀ p ∈ news, @LT.lt Nat _ p.1 D) : OutToks ts news n9 v9 := by
  subst hv hn; exact fun G9 k9 => k9 D vs n h0 h1
theorem TkAre.snocJ {vs : List Value} {as : List Tk} {i : Int} {j : Nat} {t : Tok} (h : TkAre vs as) (e : i = (j : Int)) : TkAre (vs ++ [.int i t]) (as ++ [.J j]) := h.snoc (b := .J j) ⟨t, by rw [e]⟩
theorem TkAre.snocS {vs : List Value} {as : List Tk} {c : Nat} {t : Tok} (h : TkAre vs as) : TkAre (vs ++ [.str (ch c) t]) (as ++ [.S c]) := h.snoc (b := .S c) ⟨t, rfl⟩
theorem rd_el {v : Str} {r : List Str} {cr : List Nat} {tr : List Tk} (h : Rd cr tr) (e : v :: r = cr.map ch) {G : Str → Prop}
    (r1z : ∀ (c : Nat) (cr' : List Nat), c < 1114112 → isB1 c = true → isC7 c = false → Rd cr' tr → r = cr'.map ch → G (ch c))
    (r2z : ∀ (c j : Nat) (cr' : List Nat) (ts' : List Tk), c = 12272 + j → j < 12 → isB1 c = false → Rd cr' ts' → r = cr'.map ch → tr = .J j :: ts' → G (ch c))
    (r3z : ∀ (c s' : Nat) (cr' : List Nat) (ts' : List Tk), c < 1114112 → isB1 c = false → isC7 c = false → foldC c = ch s' → Rd cr' ts' → r = cr'.map ch → tr = .S s' :: ts' → G (ch c)) : G v := by
  cases h with
  | nil => cases e
  | skip h1 h2 h3 h4 => cases e; exact r1z _ _ h1 h2 h3 h4 rfl
  | joint h1 h2 h3 h4 => cases e; exact r2z _ _ _ _ h1 h2 h3 h4 rfl rfl
  | sign h1 h2 h3 h4 h5 => cases e; exact r3z _ _ _ _ h1 h2 h3 h4 h5 rfl rfl
theorem d158b (w : World) (c : Nat) (hc : c < 1114112) (tc : Tok) (news : Led) {b : Bool} (hb : isB1 c = b) : Cn w 158 2 100 [.str (ch c) tc] news (OutSame news (· = .bool b)) := hb ▸ d158 w c hc tc news
theorem d216b (w : World) (c : Nat) (hc : c < 1114112) (tc : Tok) (news : Led) {b : Bool} (hb : isC7 c = b) : Cn w 216 2 100 [.str (ch c) tc] news (OutSame news (· = .bool b)) := hb ▸ d216 w c hc tc news
theorem d204b (w : World) (c s' : Nat) (hc : c < 1114112) (tc : Tok) (news : Led) (hb : foldC c = ch s') : Cn w 204 2 100 [.str (ch c) tc] news (OutSame news (fun v => ∃ t, v = .str (ch s') t)) := hb ▸ d204 w c hc tc news (by rw [hb]; exact Nat.le_of_ble_eq_true rfl)
theorem d230 (w : World) (codes : List Nat) (ts : List Tk) (tc : Tok) (news : Led) (hR : Rd codes ts) (hl : codes.length ≤ 100) : Cn w 230 3 200 [.str ⟨codes.toArray⟩ tc] news (OutToks ts news) := by
  unfold Cn
  intro mg mb mean dp un gd cn cs ad ccd cl outer A₀ base h₀ L m s Q E B F X N T hk c1 c2 hd hu hret
  refine wpAny_call ?_
  k_dflt ktr_rel
  k_steps
  rename_i D hh1 lD hh2 lF N1
  refine Halt.mk ?_
  refine' str_loop (σ := List Value × Nat) (fun c => (D, W.listOf c.1.toArray c.2) :: news) (fun c => []) [Str.ofString "unseen", Str.ofString "joint"]
    (fun r c => ∃ cr tr td, r = cr.map ch ∧ Rd cr tr ∧ TkAre c.1 td ∧ ts = td ++ tr) ([], 0) ?hh ?hF ?hN ?hk ?hp ?turn ?done
  case hF => exact lF
  case hN => exact N1
  case hh => rfl
  case hk => exact List.forall_mem_nil _
  case hp => exact ⟨codes, ts, [], by simp, hR, .nil, rfl⟩
  case turn =>
    intro I hI
    with_reducible refine prod2 fun vs cnt => ?_
    intro v r t' u it h tk hP F3 N3
    refine any_QE0 fun Q9 E9 hQ9 => ?_
    with_reducible refine ex3and4 hP fun cr tr td hr hRd hT hts => ?_
    clear hP
    dsimp only at F3 N3 hT
    have hne : ∀ p ∈ news, @Ne Nat p.1 D := fun p hp => Nat.ne_of_lt (lD p hp)
    have hDI : @LT.lt Nat _ D I := hI _ (.head _)
    have hoff : ∀ q : Led, q = news → ∀ (n' : Nat) (o : Obj), ∀ p ∈ (D, o) :: q, @Ne Nat p.1 I := by
      rintro q rfl n' o p hp
      rcases List.mem_cons.mp hp with rfl | hp
      · exact Nat.ne_of_lt hDI
      · exact Nat.ne_of_lt (hI p (.tail _ hp))
    have hTl := hT.length
    have hRl := hR.len
    have hvz : vs.toArray.size ≤ sizeLine := by have hTs := congrArg List.length hts; simp at hRl hTs ⊢; exact Nat.le_trans (show vs.length ≤ 100 by omega) (by decide)
    revert F3
    apply rd_el hRd hr
    case r1z =>
      clear hRd hr hR hRl hTl hl
      intro c cr h1 h2 h3 hRd hr F3
      k_steps
      k_dflt (refine' cn_useE (d158b w c h1 _ _ h2) OutSame.el ?k1 ?k2 ?k3 ?k4 ?k5 ?k6 c1 c2 ?k7 ?k8 ?_)
      case k4 => k_asm
      case k1 => k_asm
      case k2 => k_asm
      case k3 => k_asm
      case k5 => k_asm
      case k6 => first | assumption | exact rfl
      case k7 => ktr_room
      case k8 => ktr_units
      intro h9 tk9 F9 N9
      k_steps
      k_dflt (refine' cn_useE (d216b w c h1 _ _ h3) OutSame.el ?k1 ?k2 ?k3 ?k4 ?k5 ?k6 c1 c2 ?k7 ?k8 ?_)
      case k4 => k_asm
      case k1 => k_asm
      case k2 => k_asm
      case k3 => k_asm
      case k5 => k_asm
      case k6 => first | assumption | exact rfl
      case k7 => ktr_room
      case k8 => ktr_units
      intro h8 tk8 F8 N8
      k_steps
      rename_i kF kN
      refine hQ9 _ _ ?_
      refine ⟨_, _, _, (D, W.listOf vs.toArray cnt) :: news, rfl, kF, fun p hp => kN p (.tail _ hp), hoff _ rfl 0 _, ⟨(vs, cnt), rfl, List.forall_mem_nil _, ?_, ⟨cr, _, td, hr, hRd, hT, hts⟩⟩⟩
      intro z z1 z2 z3
      have y0 : z ≠ Str.ofString "unseen" := by rintro rfl; exact absurd z3 (by decide)
      have y1 : z ≠ Str.ofString "joint" := by rintro rfl; exact absurd z3 (by decide)
      simp only [y0, y1, z1, z3, kstB, ↓reduceIte, Bool.false_eq_true, List.contains_nil]
    case r2z =>
      clear hRd hr hR hRl hTl hl
      intro c j cr ts' h1 h2 h3 hRd hr htr F3
      have h4 : isC7 (c : Int) = true := by unfold isC7; simp; omega
      k_steps
      k_dflt (refine' cn_useE (d158b w c (by omega) _ _ h3) OutSame.el ?k1 ?k2 ?k3 ?k4 ?k5 ?k6 c1 c2 ?k7 ?k8 ?_)
      case k4 => k_asm
      case k1 => k_asm
      case k2 => k_asm
      case k3 => k_asm
      case k5 => k_asm
      case k6 => first | assumption | exact rfl
      case k7 => ktr_room
      case k8 => ktr_units
      intro h9 tk9 F9 N9
      k_steps
      k_dflt (refine' cn_useE (d216b w c (by omega) _ _ h4) OutSame.el ?k1 ?k2 ?k3 ?k4 ?k5 ?k6 c1 c2 ?k7 ?k8 ?_)
      case k4 => k_asm
      case k1 => k_asm
      case k2 => k_asm
      case k3 => k_asm
      case k5 => k_asm
      case k6 => first | assumption | exact rfl
      case k7 => ktr_room
      case k8 => ktr_units
      intro h8 tk8 F8 N8
      k_steps
      have h9 : (c : Int) - 12272 = (j : Int) := by omega
      rename_i kF kN
      refine hQ9 _ _ ?_
      refine ⟨_, _, _, (D, W.listOf (vs ++ [_]).toArray (cnt + 1)) :: news, rfl, kF, fun p hp => kN p (.tail _ hp), hoff _ rfl 0 _, ⟨(vs ++ [_], cnt + 1), rfl, List.forall_mem_nil _, ?_, ⟨cr, ts', td ++ [.J j], hr, hRd, hT.snocJ h9, by rw [hts, htr]; simp⟩⟩⟩
      intro z z1 z2 z3
      have y0 : z ≠ Str.ofString "unseen" := by rintro rfl; exact absurd z3 (by decide)
      have y1 : z ≠ Str.ofString "joint" := by rintro rfl; exact absurd z3 (by decide)
      simp only [y0, y1, z1, z3, kstB, ↓reduceIte, Bool.false_eq_true, List.contains_nil]
    case r3z =>
      clear hRd hr hR hRl hTl hl
      intro c s' cr ts' h1 h2 h3 h4 hRd hr htr F3
      k_steps
      k_dflt (refine' cn_useE (d158b w c h1 _ _ h2) OutSame.el ?k1 ?k2 ?k3 ?k4 ?k5 ?k6 c1 c2 ?k7 ?k8 ?_)
      case k4 => k_asm
      case k1 => k_asm
      case k2 => k_asm
      case k3 => k_asm
      case k5 => k_asm
      case k6 => first | assumption | exact rfl
      case k7 => ktr_room
      case k8 => ktr_units
      intro h9 tk9 F9 N9
      k_steps
      k_dflt (refine' cn_useE (d216b w c h1 _ _ h3) OutSame.el ?k1 ?k2 ?k3 ?k4 ?k5 ?k6 c1 c2 ?k7 ?k8 ?_)
      case k4 => k_asm
      case k1 => k_asm
      case k2 => k_asm
      case k3 => k_asm
      case k5 => k_asm
      case k6 => first | assumption | exact rfl
      case k7 => ktr_room
      case k8 => ktr_units
      intro h8 tk8 F8 N8
      k_steps
      k_dflt (refine' cn_useE (d204b w c s' h1 _ _ h4) OutSame.elT ?k1 ?k2 ?k3 ?k4 ?k5 ?k6 c1 c2 ?k7 ?k8 ?_)
      case k4 => k_asm
      case k1 => k_asm
      case k2 => k_asm
      case k3 => k_asm
      case k5 => k_asm
      case k6 => first | assumption | exact rfl
      case k7 => ktr_room
      case k8 => ktr_units
      intro t7 h7 tk7 F7 N7
      k_steps
      rename_i kF kN
      refine hQ9 _ _ ?_
      refine ⟨_, _, _, (D, W.listOf (vs ++ [_]).toArray (cnt + 1)) :: news, rfl, kF, fun p hp => kN p (.tail _ hp), hoff _ rfl 0 _, ⟨(vs ++ [_], cnt + 1), rfl, List.forall_mem_nil _, ?_, ⟨cr, ts', td ++ [.S s'], hr, hRd, hT.snocS, by rw [hts, htr]; simp⟩⟩⟩
      intro z z1 z2 z3
      have y0 : z ≠ Str.ofString "unseen" := by rintro rfl; exact absurd z3 (by decide)
      have y1 : z ≠ Str.ofString "joint" := by rintro rfl; exact absurd z3 (by decide)
      simp only [y0, y1, z1, z3, kstB, ↓reduceIte, Bool.false_eq_true, List.contains_nil]
  case done =>
    with_reducible refine prod2 fun vs cnt => ?_
    intro u h tk hP F3 N3
    have hT : TkAre vs ts := by
      obtain ⟨cr, tr, td, hr, hRd, hT, rfl⟩ := hP
      have hcr : cr = [] := by cases cr with | nil => rfl | cons _ _ => cases hr
      subst hcr
      cases hRd
      simpa using hT
    clear hP
    dsimp only at F3 N3
    k_steps
    rename_i kF kN _ _
    exact cn_end hret kF kN (OutToks.mk D vs cnt rfl rfl hT lD)

end
section
set_option maxRecDepth 100000
set_option maxHeartbeats 8000000
theorem fillE3 : (PySem.Challenge.rw_wb0084_01 = PySem.Challenge.rw_wb0084_01) ∧ K = K := by
  k_fill
  exact ⟨rfl, rfl⟩
noncomputable def headsI : List Int := [97, 65, 119808, 119860, 119912, 120016, 120172, 120224, 120276, 120328, 120380, 120432]
theorem Wants.joint' {need m j : Nat} {D : List Tk} (h : Wants need D) (hn : need ≠ 0) (hj : j < 12) (e : m = need - 1 + ar j) : Wants m (D ++ [.J j]) := by
  obtain ⟨n, rfl⟩ := Nat.exists_eq_succ_of_ne_zero hn
  subst e
  exact h.joint hj
theorem Wants.sign' {need m c : Nat} {D : List Tk} (h : Wants need D) (hn : need ≠ 0) (hc : okS c) (e : m = need - 1) : Wants m (D ++ [.S c]) := by
  obtain ⟨n, rfl⟩ := Nat.exists_eq_succ_of_ne_zero hn
  subst e
  exact h.sign hc
theorem b1_lit : ∀ k, k < 12 → isB1 ((12272 + k : Nat) : Int) = false := by decide +kernel
theorem b1_joint {c : Nat} (h0 : 12272 ≤ c) (h1 : c < 12284) : isB1 (c : Int) = false := by
  obtain ⟨k, rfl⟩ := Nat.exists_eq_add_of_le h0
  exact b1_lit k (Nat.lt_of_add_lt_add_left h1)
theorem b1_unseen : ∀ i, i < 27 → (b1L.getD i 0).toNat < 1114112 ∧ isB1 ((b1L.getD i 0).toNat : Int) = true ∧ isC7 ((b1L.getD i 0).toNat : Int) = false := by decide +kernel
theorem odd_at : ∀ i, i < 5 → ([12271, 12284, 172, 8206, 65040] : List Int).getD i 0 = ((oddL.getD i 0 : Nat) : Int) ∧ oddL.getD i 0 < 1114112 ∧ isB1 ((oddL.getD i 0 : Nat) : Int) = false ∧ isC7 ((oddL.getD i 0 : Nat) : Int) = false ∧ foldC (oddL.getD i 0) = ch (oddL.getD i 0) ∧ oddL.getD i 0 ∈ oddL := by decide +kernel
theorem letters_ok : (List.range 12).all (fun a => decide (headsI.getD a 0 = ((headsL.getD a 0 : Nat) : Int) ∧ headsL.getD a 0 ∈ headsL) && (List.range 26).all fun l => decide (headsL.getD a 0 + l < 1114112 ∧ isB1 ((headsL.getD a 0 + l : Nat) : Int) = false ∧ isC7 ((headsL.getD a 0 + l : Nat) : Int) = false)) = true := by decide +kernel
theorem letter_at {a l : Int} (a0 : 0 ≤ a) (a1 : a < 12) (l0 : 0 ≤ l) (l1 : l < 26) : (headsI.getD a.toNat 0 + l).toNat < 1114112 ∧ isB1 ((headsI.getD a.toNat 0 + l).toNat : Int) = false ∧ isC7 ((headsI.getD a.toNat 0 + l).toNat : Int) = false ∧ foldC (headsI.getD a.toNat 0 + l).toNat = ch (97 + l).toNat := by
  have h := List.all_eq_true.mp letters_ok a.toNat (List.mem_range.mpr (by omega))
  rw [Bool.and_eq_true] at h
  obtain ⟨h1, h2⟩ := of_decide_eq_true h.1
  have h3 := of_decide_eq_true (List.all_eq_true.mp h.2 l.toNat (List.mem_range.mpr (by omega)))
  have h4 := of_decide_eq_true (List.all_eq_true.mp (List.all_eq_true.mp fold_letters _ h2) l.toNat (List.mem_range.mpr (by omega)))
  have e1 : (headsI.getD a.toNat 0 + l).toNat = headsL.getD a.toNat 0 + l.toNat := by rw [h1]; omega
  have e2 : (97 + l).toNat = 97 + l.toNat := by omega
  rw [e1, e2]
  exact ⟨h3.1, h3.2.1, h3.2.2, h4⟩
theorem odd_in {v : Int} (v0 : 25 < v) (v1 : v < 31) : ∃ c, ([12271, 12284, 172, 8206, 65040] : List Int).getD (v - 26).toNat 0 = ((c : Nat) : Int) ∧ c < 1114112 ∧ isB1 (c : Int) = false ∧ isC7 (c : Int) = false ∧ foldC c = ch c ∧ okS c := by
  obtain ⟨h1, h2, h3, h4, h5, h6⟩ := odd_at (v - 26).toNat (by omega)
  exact ⟨_, h1, h2, h3, h4, h5, .inr h6⟩

end
local macro_rules | `(tactic| walk_at "exec For Tuple Call cons nil") => `(tactic| (k_here; (rename Fr _ _ _ _ => lF'); (with_unfolding_all refine' For_turns lF' ?_; k_whole)))
local macro_rules | `(tactic| walk_at "call type:enumerate") => `(tactic| ((with_reducible show wpAny _ _ (call _ _) (fun xv s₁ => wpAny _ _ (pyIter xv) (fun it s₂ => TurnsAt _ _ _ _ _ _ _ _ _ it s₂) _ s₁) _ _); refine Halt.go ?_))
section
set_option maxRecDepth 100000
set_option maxHeartbeats 8000000
theorem fillE3b : (PySem.Challenge.rw_wb0084_01 = PySem.Challenge.rw_wb0084_01) ∧ K = K := by
  k_fill
  exact ⟨rfl, rfl⟩
local macro_rules | `(tactic| walk_at "execs cons") => `(tactic| ((with_reducible show wpAny _ _ (execs (Stmt.Assign [Expr.Name (Str.ofString "more") _] _ _ :: _) _) _ _ _); refine Halt.go ?_))
local macro_rules | `(tactic| walk_at "execs cons") => `(tactic| ((with_reducible show wpAny _ _ (execs (Stmt.If (Expr.Compare (Expr.Name (Str.ofString "need") _) _ _ _) _ _ _ :: _) _) _ _ _); refine Halt.go ?_))
local macro_rules | `(tactic| walk_at "execs cons") => `(tactic| ((with_reducible show wpAny _ _ (execs (Stmt.If (Expr.BoolOp BoolOp.And (Expr.BoolOp _ _ _ :: _) _) _ _ _ :: _) _) _ _ _); refine Halt.go ?_))
local macro_rules | `(tactic| walk_at "execs cons") => `(tactic| ((with_reducible show wpAny _ _ (execs (Stmt.If (Expr.BoolOp BoolOp.And (Expr.Compare (Expr.BinOp _ _ _ _) _ _ _ :: _) _) _ _ _ :: _) _) _ _ _); refine Halt.go ?_))
local macro_rules | `(tactic| walk_at "execs cons") => `(tactic| (k_here; dsimp only))
/-- a contract of a call that reads a list of the ghost heap -/
noncomputable def CnS (w : World) (f : Addr) (d u : Nat) (vs : List Value) (news : Led) (SC : Addr) (xs : List Value) (Out : Led → Value → Prop) : Prop :=
  ∀ (mg mb : Str → Option Value) (mean : Mt) (dp un : Nat) (gd : Option (List Code)) (cn : Str) (cs : Scope) (a : Addr) (ccd : Value) (cl : List (Str × Addr)) (outer : List Env) (A₀ : Around) (base h₀ : Heap) (L : Addr) (m : Str → Option Value) (s : Shared)
    (Q E : Value → Shared → Prop),
    Below A₀ base outer h₀ → Fr h₀ L s.heap m → (K w.params).In h₀ → News h₀ L s.heap news → TopV mg mb mean h₀ → cs.kind = .function → CodeHd base 34 30 → CodeHd base 41 37 → dp + d < recursionLimit → un + u < cLine → h₀.IsList SC xs.toArray →
    (∀ r news' h' tk', Fr h₀ L h' m → News h₀ L h' news' → Out news' r → Q r { s with heap := h', toks := tk' }) →
    wpAny (model pw w) (ktrTop dp un gd cn cs L a ccd cl outer) (call (.ref f) vs) Q E s
theorem sub_drawn {g h : Heap} {L HD : Addr} {a b d e f q : Addr × Obj} {r : Led} {t0 t1 t2 t3 t4 t5 t6 t7 t8 t9 ta tb : Tok} {n : Nat}
    (N : News g L h (a :: b :: (HD, W.listOf #[.int 97 t0, .int 65 t1, .int 119808 t2, .int 119860 t3, .int 119912 t4, .int 120016 t5, .int 120172 t6, .int 120224 t7, .int 120276 t8, .int 120328 t9, .int 120380 ta, .int 120432 tb] n) :: d :: e :: f :: q :: r)) :
    ∃ hvs : List Value, IntsAre hvs headsI ∧ News g L h (b :: (HD, W.listOf hvs.toArray n) :: d :: q :: r) :=
  ⟨_, .cons _ _ (.cons _ _ (.cons _ _ (.cons _ _ (.cons _ _ (.cons _ _ (.cons _ _ (.cons _ _ (.cons _ _ (.cons _ _ (.cons _ _ (.cons _ _ .nil))))))))))), fun p hp => N p (by
    simp only [List.mem_cons] at hp ⊢
    rcases hp with q | q | q | q | q
    · exact .inr (.inl q)
    · exact .inr (.inr (.inl q))
    · exact .inr (.inr (.inr (.inl q)))
    · exact .inr (.inr (.inr (.inr (.inr (.inr (.inl q))))))
    · exact .inr (.inr (.inr (.inr (.inr (.inr (.inr q)))))))⟩
theorem getD_of {l : List Int} {j : Nat} {P : Int → Prop} (hj : j < l.length) (h : ∀ v ∈ l, P v) : P (l.getD j 0) := by
  rw [List.getD_eq_getElem?_getD, List.getElem?_eq_getElem hj]
  exact h _ (List.getElem_mem hj)
noncomputable abbrev tup3 (x y z : Value) : Obj := { cls := .type "tuple", data := .seq #[x, y, z] }
noncomputable def OutDrawn (news : Led) (nw : Led) (v : Value) : Prop :=
  ∀ G : Led → Value → Prop, (∀ D LC DR cvs cs cnt codes tt dvs dts dn, IntsAre cvs cs → cs.length = 11 → (∀ v ∈ cs, 0 ≤ v ∧ v ≤ 100000000) →
    Rd codes dts → TkAre dvs dts → WF 1 dts → dts.length ≤ 9 → codes.length ≤ 2 * 9 → (∀ p ∈ news, @LT.lt Nat _ p.1 LC) → @LT.lt Nat _ LC DR → @LT.lt Nat _ DR D → G ((D, tup3 (.ref LC) (.str ⟨codes.toArray⟩ tt) (.ref DR)) :: (DR, W.listOf dvs.toArray dn) :: (LC, W.listOf cvs.toArray cnt) :: news) (.ref D)) → G nw v
theorem OutDrawn.el {news : Led} (G : Led → Value → Prop) (T : ∀ D LC DR cvs cs cnt codes tt dvs dts dn, IntsAre cvs cs → cs.length = 11 → (∀ v ∈ cs, 0 ≤ v ∧ v ≤ 100000000) →
    Rd codes dts → TkAre dvs dts → WF 1 dts → dts.length ≤ 9 → codes.length ≤ 2 * 9 → (∀ p ∈ news, @LT.lt Nat _ p.1 LC) → @LT.lt Nat _ LC DR → @LT.lt Nat _ DR D → G ((D, tup3 (.ref LC) (.str ⟨codes.toArray⟩ tt) (.ref DR)) :: (DR, W.listOf dvs.toArray dn) :: (LC, W.listOf cvs.toArray cnt) :: news) (.ref D)) (nw : Led) (v : Value) (o : OutDrawn news nw v) : G nw v := o G T
theorem OutDrawn.mk {news : Led} {n9 : Led} {v9 : Value} (D : Addr) (LC : Addr) (DR : Addr) (cvs : List Value) (cs : List Int) (cnt : Nat) (codes : List Nat) (tt : Tok) (dvs : List Value) (dts : List Tk) (dn : Nat) (hv : v9 = .ref D) (hn : n9 = (D, tup3 (.ref LC) (.str ⟨codes.toArray⟩ tt) (.ref DR)) :: (DR, W.listOf dvs.toArray dn) :: (LC, W.listOf cvs.toArray cnt) :: news) (h0 : IntsAre cvs cs) (h1 : cs.length = 11) (h2 : ∀ v ∈ cs, 0 ≤ v ∧ v ≤ 100000000) (h3 : Rd codes dts) (h4 : TkAre dvs dts) (h5 : WF 1 dts) (h6 : dts.length ≤ 9) (h7 : codes.length ≤ 2 * 9) (h8 : ∀ p ∈ news, @LT.lt Nat _ p.1 LC) (h9 : @LT.lt Nat _ LC DR) (h10 : @LT.lt Nat _ DR D) : OutDrawn news n9 v9 := by
  subst hv hn; exact fun G9 k9 => k9 D LC DR cvs cs cnt codes tt dvs dts dn h0 h1 h2 h3 h4 h5 h6 h7 h8 h9 h10
noncomputable def SigP (dts : List Tk) (j : Nat) (sc : List Nat) (vs : List Value) (nd : Nat) : Prop :=
  ∃ tl, Rd sc tl ∧ sc.length ≤ 1 ∧ TkAre vs (dts ++ tl) ∧ Wants nd (dts ++ tl) ∧ nd + (j + 1) ≤ 9 ∧ (dts ++ tl).length ≤ j + 1
theorem any23 {f : Int} (h : (([2, 3] : List Int).any fun x => x == f) = true) : f = 2 ∨ f = 3 := by simp at h; exact h.imp Eq.symm Eq.symm
theorem nany23 {f : Int} (h : (([2, 3] : List Int).any fun x => x == f) = false) : f ≠ 2 ∧ f ≠ 3 := by simp at h; exact ⟨fun e => h.1 e.symm, fun e => h.2 e.symm⟩
theorem len_1 {dts : List Tk} {a : Tk} {j : Nat} (h : dts.length ≤ j) : (dts ++ [a]).length ≤ j + 1 := by simp; exact h
theorem sig_none {dts : List Tk} {dvs : List Value} {need j : Nat} (r2 : TkAre dvs dts) (r3 : Wants need dts) (r6 : dts.length ≤ j) (hj : j < 9) (hn : (need : Int) = 0) : SigP dts j [] dvs need := by
  refine ⟨[], .nil, Nat.zero_le _, by simpa using r2, by simpa using r3, ?_, by simp; omega⟩
  clear r2 r3 r6
  omega
theorem jt_aux {n j : Nat} (h : ((n : Nat) : Int) ≤ 8 - (0 + (j : Int))) : ((n : Nat) : Int).toNat + (j + 1) ≤ 9 := by rw [Int.toNat_natCast]; omega
theorem jt_nums {need j : Nat} {mr f : Int} (hm0 : 0 ≤ f) (hm1 : f < 12) (hmr : (mr = 1 ∧ f ≠ 2 ∧ f ≠ 3) ∨ (mr = 2 ∧ (f = 2 ∨ f = 3))) (hn : (need : Int) ≠ 0) (hle : (need : Int) + mr ≤ 8 - (0 + (j : Int))) :
    (12272 + f).toNat = 12272 + f.toNat ∧ f.toNat < 12 ∧ need ≠ 0 ∧ ((need : Int) + mr).toNat = need - 1 + ar f.toNat ∧ ((need : Int) + mr).toNat + (j + 1) ≤ 9 ∧ f = (f.toNat : Int) ∧ (need : Int) + mr = ((((need : Int) + mr).toNat : Nat) : Int) := by
  obtain ⟨f, rfl⟩ := Int.eq_ofNat_of_zero_le hm0
  cases need with
  | zero => exact absurd rfl hn
  | succ n =>
    rcases hmr with ⟨rfl, h2, h3⟩ | ⟨rfl, h⟩
    · rw [show (((n + 1 : Nat) : Int) + 1) = ((n + 2 : Nat) : Int) from rfl] at *
      refine ⟨rfl, Int.ofNat_lt.mp hm1, Nat.succ_ne_zero n, ?_, jt_aux hle, rfl, rfl⟩
      unfold ar
      rw [Int.toNat_natCast f, if_neg fun q => q.elim (fun e => h2 (congrArg Int.ofNat e)) fun e => h3 (congrArg Int.ofNat e)]
      rfl
    · rw [show (((n + 1 : Nat) : Int) + 2) = ((n + 3 : Nat) : Int) from rfl] at *
      refine ⟨rfl, Int.ofNat_lt.mp hm1, Nat.succ_ne_zero n, ?_, jt_aux hle, rfl, rfl⟩
      unfold ar
      rw [Int.toNat_natCast f, if_pos (h.imp Int.ofNat.inj Int.ofNat.inj)]
      rfl
theorem sig_joint {dts : List Tk} {dvs : List Value} {need j : Nat} {mr f : Int} {t : Tok} (r2 : TkAre dvs dts) (r3 : Wants need dts) (r6 : dts.length ≤ j) (hm0 : 0 ≤ f) (hm1 : f < 12) (hmr : (mr = 1 ∧ f ≠ 2 ∧ f ≠ 3) ∨ (mr = 2 ∧ (f = 2 ∨ f = 3))) (hn : (need : Int) ≠ 0) (hle : (need : Int) + mr ≤ 8 - (0 + (j : Int))) :
    SigP dts j [(12272 + f).toNat] (dvs ++ [.int f t]) ((need : Int) + mr).toNat := by
  obtain ⟨a1, a2, a3, a4, a5, a6, _⟩ := jt_nums (j := j) hm0 hm1 hmr hn hle
  exact ⟨[.J f.toNat], .joint a1 a2 (by rw [a1]; exact b1_joint (by omega) (by omega)) .nil, Nat.le_refl _, r2.snocJ a6, r3.joint' a3 a2 a4, a5, len_1 r6⟩
theorem sg_nums {need j : Nat} (r4 : need + j ≤ 9) (hn : (need : Int) ≠ 0) : need ≠ 0 ∧ ((need : Int) - 1).toNat = need - 1 ∧ ((need : Int) - 1).toNat + (j + 1) ≤ 9 ∧ (need : Int) - 1 = ((((need : Int) - 1).toNat : Nat) : Int) := by
  cases need with
  | zero => exact absurd rfl hn
  | succ n =>
    have e : (((n + 1 : Nat) : Int) - 1) = (n : Int) := by push_cast; exact Int.add_sub_cancel _ _
    rw [e, Int.toNat_natCast]
    exact ⟨Nat.succ_ne_zero n, rfl, by rw [← Nat.add_assoc, Nat.add_right_comm]; exact r4, rfl⟩
theorem sig_odd {dts : List Tk} {dvs : List Value} {need j : Nat} {v : Int} {t : Tok} (r2 : TkAre dvs dts) (r3 : Wants need dts) (r4 : need + j ≤ 9) (r6 : dts.length ≤ j) (hn : (need : Int) ≠ 0) (v0 : 25 < v) (v1 : v < 31) :
    SigP dts j [(([12271, 12284, 172, 8206, 65040] : List Int).getD (v - 26).toNat 0).toNat] (dvs ++ [.str ⟨#[(([12271, 12284, 172, 8206, 65040] : List Int).getD (v - 26).toNat 0).toNat]⟩ t]) ((need : Int) - 1).toNat := by
  obtain ⟨oc, oe, o1, o2, o3, o4, o5⟩ := odd_in v0 v1
  obtain ⟨a1, a2, a3, _⟩ := sg_nums r4 hn
  rw [oe, Int.toNat_natCast]
  exact ⟨[.S oc], .sign o1 o2 o3 o4 .nil, Nat.le_refl _, r2.snocS, r3.sign' a1 o5 a2, a3, len_1 r6⟩
theorem sig_letter {dts : List Tk} {dvs : List Value} {need j : Nat} {a l : Int} {t : Tok} (r2 : TkAre dvs dts) (r3 : Wants need dts) (r4 : need + j ≤ 9) (r6 : dts.length ≤ j) (hn : (need : Int) ≠ 0) (a0 : 0 ≤ a) (a1 : a < 12) (l0 : 0 ≤ l) (l1 : l < 26) :
    SigP dts j [(headsI.getD a.toNat 0 + l).toNat] (dvs ++ [.str ⟨#[(97 + l).toNat]⟩ t]) ((need : Int) - 1).toNat := by
  obtain ⟨q1, q2, q3, q4⟩ := letter_at a0 a1 l0 l1
  obtain ⟨b1, b2, b3, _⟩ := sg_nums r4 hn
  exact ⟨[.S (97 + l).toNat], .sign q1 q2 q3 q4 .nil, Nat.le_refl _, r2.snocS, r3.sign' b1 (.inl (by omega)) b2, b3, len_1 r6⟩
theorem which_le {v3 w : Int} (h : ¬(v3 = 2 ∧ 25 < w)) (h2 : v3 = 2) : w < 26 := by omega
theorem len_2 {codes x sc : List Nat} {j : Nat} (h : codes.length ≤ 2 * j) (hx : x.length ≤ 1) (hs : sc.length ≤ 1) : (codes ++ (x ++ sc)).length ≤ 2 * (j + 1) := by rw [List.length_append, List.length_append, Nat.mul_succ]; exact Nat.add_le_add h (Nat.add_le_add hx hs)
theorem ahead_lt {a : Int} (h0 : 0 ≤ a) (h : a < 27) : a.toNat < 27 := by omega
theorem enum_el {v : Value} {r : List Value} {i : Nat} {ks : List Int} (h : IntsAre (v :: r) ks) (hk : i + ks.length ≤ 60) {G : Value → Prop} (k : ∀ n t ns, IntsAre r ns → i + 1 + ns.length ≤ 60 → G (.int n t)) : G v := by
  cases h with
  | @cons n t _ _ h => exact k n t _ h (by simp only [List.length_cons] at hk; omega)
theorem iltD_le {a9z b9z c9z : Int} (h9z : a9z < b9z) (e9z : decide (b9z ≤ c9z + 1) = true) : a9z ≤ c9z := by have := of_decide_eq_true e9z; omega
theorem iadd_nn {a9z b9z : Int} (p9z : 0 ≤ a9z) (q9z : 0 ≤ b9z) : 0 ≤ a9z + b9z := Int.add_nonneg p9z q9z
theorem iaddl_nn {a9z b9z : Int} (q9z : 0 ≤ b9z) (e9z : decide (0 ≤ a9z) = true) : 0 ≤ a9z + b9z := Int.add_nonneg (of_decide_eq_true e9z) q9z
theorem iaddr_nn {a9z b9z : Int} (q9z : 0 ≤ a9z) (e9z : decide (0 ≤ b9z) = true) : 0 ≤ a9z + b9z := Int.add_nonneg q9z (of_decide_eq_true e9z)
theorem iadd_le {a9z b9z x9z y9z c9z : Int} (p9z : a9z < x9z) (q9z : b9z < y9z) (e9z : decide (x9z + y9z ≤ c9z + 2) = true) : a9z + b9z ≤ c9z := by have := of_decide_eq_true e9z; omega
theorem iaddl_le {a9z b9z y9z c9z : Int} (q9z : b9z < y9z) (e9z : decide (a9z + y9z ≤ c9z + 1) = true) : a9z + b9z ≤ c9z := by have := of_decide_eq_true e9z; omega
theorem iaddr_le {a9z b9z y9z c9z : Int} (q9z : a9z < y9z) (e9z : decide (y9z + b9z ≤ c9z + 1) = true) : a9z + b9z ≤ c9z := by have := of_decide_eq_true e9z; omega
theorem cast_nn9 {j9z : Nat} : (0 : Int) ≤ 0 + (j9z : Int) := by omega
theorem cast_lt9 {j9z n9z : Nat} {c9z : Int} (h9z : j9z < n9z) (e9z : decide ((n9z : Int) ≤ c9z) = true) : 0 + (j9z : Int) < c9z := by rw [Int.zero_add]; exact Int.lt_of_lt_of_le (Int.ofNat_lt.mpr h9z) (of_decide_eq_true e9z)
theorem cast_ll9 {j9z n9z l9z L9z : Nat} (h9z : j9z < n9z) (p9z : l9z = L9z) (e9z : Nat.ble n9z L9z = true) : 0 + (j9z : Int) < (l9z : Int) := by rw [Int.zero_add, p9z]; exact Int.ofNat_lt.mpr (Nat.lt_of_lt_of_le h9z (Nat.le_of_ble_eq_true e9z))
theorem cast_tl9 {j9z n9z l9z L9z : Nat} (h9z : j9z < n9z) (p9z : l9z = L9z) (e9z : Nat.ble n9z L9z = true) : (0 + (j9z : Int)).toNat < l9z := by rw [Int.zero_add, Int.toNat_natCast, p9z]; exact Nat.lt_of_lt_of_le h9z (Nat.le_of_ble_eq_true e9z)
theorem isub_lt9 {a9z b9z k9z c9z : Int} (h9z : a9z < b9z) (e9z : decide (b9z - k9z ≤ c9z) = true) : a9z - k9z < c9z := by have := of_decide_eq_true e9z; omega
theorem isub_nn9 {a9z x9z k9z : Int} (h9z : x9z < a9z) (e9z : decide (k9z ≤ x9z + 1) = true) : 0 ≤ a9z - k9z := by have := of_decide_eq_true e9z; omega
theorem tn_lt9 {f9z n9z : Int} {l9z L9z : Nat} (p9z : 0 ≤ f9z) (q9z : f9z < n9z) (h9z : l9z = L9z) (e9z : decide (n9z ≤ (L9z : Int)) = true) : f9z.toNat < l9z := by rw [h9z]; exact (Int.toNat_lt p9z).mpr (Int.lt_of_lt_of_le q9z (of_decide_eq_true e9z))
theorem tni_lt9 {f9z n9z : Int} {l9z : Nat} {L9z : Nat} (q9z : f9z < n9z) (h9z : l9z = L9z) (e9z : decide (n9z ≤ (L9z : Int)) = true) : f9z < (l9z : Int) := by rw [h9z]; exact Int.lt_of_lt_of_le q9z (of_decide_eq_true e9z)
theorem take60 {l : List Int} : 0 + (l.take 60).length ≤ 60 := by rw [Nat.zero_add, List.length_take]; exact Nat.min_le_left _ _
theorem grow5 {v : Int} {i : Nat} (h : 0 ≤ v ∧ v ≤ 70000 + (i : Int) * 1000003) : 0 ≤ v ∧ v ≤ 70000 + ((i + 1 : Nat) : Int) * 1000003 := ⟨h.1, Int.le_trans h.2 (by omega)⟩
theorem grow6 {v x : Int} {i : Nat} (h : 0 ≤ v ∧ v ≤ 70000 + (i : Int) * 1000003) (h0 : 0 ≤ x) (h1 : x < 1000003) : 0 ≤ v + x ∧ v + x ≤ 70000 + ((i + 1 : Nat) : Int) * 1000003 := ⟨Int.add_nonneg h.1 h0, Int.le_trans (Int.add_le_add h.2 (Int.le_of_lt h1)) (by omega)⟩
theorem cap5 {v : Int} {i : Nat} (h : v ≤ 70000 + (i : Int) * 1000003) (hi : i ≤ 60) : v ≤ 100000000 := Int.le_trans h (by omega)
theorem eq27 {a : Int} (h : a < 28) (h2 : ¬a < 27) : a = 27 := by omega
theorem sub26 {x : Int} (h : x < 31) : (x - 26).toNat < ([12271, 12284, 172, 8206, 65040] : List Int).length := by show (x - 26).toNat < 5; omega
theorem str1 {c : Nat} {sc : List Nat} (h : sc.length ≤ 1) : (⟨#[c]⟩ : Str).length + (⟨sc.toArray⟩ : Str).length ≤ sizeLine := Nat.le_trans (Nat.add_le_add (Nat.le_refl 1) h) (by decide)
theorem str0 {sc : List Nat} (h : sc.length ≤ 1) : (Str.ofString "").length + (⟨sc.toArray⟩ : Str).length ≤ sizeLine := Nat.le_trans (Nat.add_le_add (Nat.le_refl 0) h) (by decide)
theorem str2 {c : Nat} {sc codes : List Nat} {j : Nat} (h : sc.length ≤ 1) (h5 : codes.length ≤ 2 * j) (hj : j < 9) : (⟨codes.toArray⟩ : Str).length + ((⟨#[c]⟩ : Str) ++ (⟨sc.toArray⟩ : Str)).length ≤ sizeLine := by
  have e : ((⟨#[c]⟩ : Str) ++ (⟨sc.toArray⟩ : Str)).length = 1 + sc.length := Array.size_append ..
  rw [e]
  exact Nat.le_trans (Nat.add_le_add (Nat.le_trans h5 (Nat.mul_le_mul_left 2 (Nat.le_of_lt hj))) (Nat.add_le_add_left h 1)) (by decide)
theorem str3 {sc codes : List Nat} {j : Nat} (h : sc.length ≤ 1) (h5 : codes.length ≤ 2 * j) (hj : j < 9) : (⟨codes.toArray⟩ : Str).length + (Str.ofString "" ++ (⟨sc.toArray⟩ : Str)).length ≤ sizeLine := by
  have e : (Str.ofString "" ++ (⟨sc.toArray⟩ : Str)).length = 0 + sc.length := Array.size_append ..
  rw [e]
  exact Nat.le_trans (Nat.add_le_add (Nat.le_trans h5 (Nat.mul_le_mul_left 2 (Nat.le_of_lt hj))) (Nat.add_le_add_left h 0)) (by decide)
local macro_rules | `(tactic| omega) => `(tactic| with_reducible first
  | assumption
  | apply cast_nn9
  | (apply iltD_le; (case h9z => assumption); (case e9z => decide))
  | (apply iadd_nn; (case p9z => assumption); (case q9z => assumption))
  | (apply iaddl_nn; (case q9z => assumption); (case e9z => decide))
  | (apply iaddr_nn; (case q9z => assumption); (case e9z => decide))
  | (apply iadd_le; (case p9z => assumption); (case q9z => assumption); (case e9z => decide))
  | (apply iaddl_le; (case q9z => assumption); (case e9z => decide))
  | (apply iaddr_le; (case q9z => assumption); (case e9z => decide))
  | (apply cast_lt9; (case h9z => assumption); (case e9z => decide))
  | (apply cast_ll9; (case h9z => assumption); (case p9z => assumption); (case e9z => decide))
  | (apply cast_tl9; (case h9z => assumption); (case p9z => assumption); (case e9z => decide))
  | (apply isub_lt9; (case h9z => assumption); (case e9z => decide))
  | (apply isub_nn9; (case h9z => assumption); (case e9z => decide))
  | (apply tn_lt9; (case p9z => assumption); (case q9z => assumption); (case h9z => assumption); (case e9z => decide))
  | (apply tni_lt9; (case q9z => assumption); (case h9z => assumption); (case e9z => decide))
  | tb_rel
  | fail "none")
theorem d223 (w : World) (SC : Addr) (xs : List Value) (ns : List Int) (news : Led) (hi : IntsAre xs ns) (hl : xs.length ≤ 63) : CnS w 223 3 200 [.ref SC] news SC xs (OutDrawn news) := by
  unfold CnS
  intro mg mb mean dp un gd cn cs ad ccd cl outer A₀ base h₀ L m s Q E B F X N T hk c1 c2 hd hu hS hret
  refine wpAny_call ?_
  k_dflt ktr_rel
  rename_i g' L' h' FG' F' N' B' X' T' l0' l1'
  have hS' : g'.IsList SC xs.toArray := hS.at fun o e => FG'.keep _ _ e
  clear hS
  have hxz : xs.toArray.size ≤ sizeLine := by simp; exact Nat.le_trans hl (by decide)
  k_steps
  rename_i LC hh1 lC hh2 DS ws hh3 lF N1' hI hC hL l1
  refine Halt.mk ?_
  refine' enum_loop (σ := List Value × List Int × Nat) (x := Str.ofString "k") (l := DS) (lo := W.listOf ws.toArray 0) (vs := ws) (n := 0) (fun c => (DS, W.listOf ws.toArray 0) :: (LC, W.listOf c.1.toArray c.2.2) :: news) (fun c => []) [Str.ofString "x"]
    (fun i r c => IntsAre c.1 c.2.1 ∧ c.2.1.length = 11 ∧ (∀ v ∈ c.2.1, 0 ≤ v ∧ v ≤ 70000 + (i : Int) * 1000003) ∧ ∃ ks, IntsAre r ks ∧ i + ks.length ≤ 60)
    (_, [36, 60265, 60282, 6708, 60358, 59056, 60320, 60271, 60364, 2045, 17983], 0) ?hh ?hF ?hN ?hm rfl rfl ?hk ?hp ?turn ?done
  case hF => exact lF
  case hN => exact N1'
  case hh => rfl
  case hm => exact .head _
  case hk => exact List.forall_mem_nil _
  case hp =>
    refine ⟨by repeat (first | exact .nil | refine .cons _ _ ?_), rfl, ?_, _, hI, ?_⟩
    · simp
    · exact take60
  case turn =>
    intro I hI0 i v r
    with_reducible refine prod3 fun cvs cs' cnt => ?_
    intro T9 t9 u h tk o1 o2 hP hT F3 N3 hc1 hc2
    dsimp only at F3 N3
    with_reducible refine ex1and2 hP.2.2.2 fun ks q4 q5 => ?_
    with_reducible refine and4 hP fun q1 q2 q3 q49 => ?_
    clear hP q49
    dsimp only at q1 q2 q3
    revert hT
    with_reducible apply enum_el q4 q5
    intro k t ks' q4' q5' hT
    clear q4 q5
    have hne : ∀ p ∈ news, @Ne Nat p.1 LC := fun p hp => Nat.ne_of_lt (lC p hp)
    have hLD : @LT.lt Nat _ LC DS := l1.1
    have hDI : @LT.lt Nat _ DS I := hI0 _ (.head _)
    have hLI : @LT.lt Nat _ LC I := hI0 _ (.tail _ (.head _))
    have hf0 : 0 ≤ (↑i : Int).fmod 11 := fmod_lo _ (by decide)
    have hf1 : (↑i : Int).fmod 11 < 11 := fmod_hi _ (by decide)
    have hx0 : 0 ≤ k.fmod 1000003 := fmod_lo _ (by decide)
    have hx1 : k.fmod 1000003 < 1000003 := fmod_hi _ (by decide)
    have hg : 0 ≤ cs'.getD ((↑i : Int).fmod 11).toNat 0 ∧ cs'.getD ((↑i : Int).fmod 11).toNat 0 ≤ 70000 + (i : Int) * 1000003 := by
      have hj : ((↑i : Int).fmod 11).toNat < cs'.length := by omega
      rw [List.getD_eq_getElem?_getD, List.getElem?_eq_getElem hj]
      exact q3 _ (List.getElem_mem hj)
    k_steps
    rename_i kF kN hi' hl' hs'
    refine Halt.mk ?_
    refine ⟨_, _, _, (DS, W.listOf ws.toArray 0) :: (LC, W.listOf (List.toArray _) cnt) :: news, rfl, kF, kN, ?_, .head _, ⟨(_, _, cnt), rfl, List.forall_mem_nil _, ?_, ⟨hi', hl'.trans q2, ?_, _, q4', q5'⟩⟩⟩
    · have e : ∀ o : Obj, ∀ p ∈ (DS, W.listOf ws.toArray 0) :: (LC, o) :: news, @LT.lt Nat _ p.1 I := by
        intro o p hp
        rcases List.mem_cons.mp hp with rfl | hp
        · exact hDI
        rcases List.mem_cons.mp hp with rfl | hp
        · exact hLI
        · exact hI0 p (.tail _ (.tail _ hp))
      intro p hp q hq
      have e1 : @LT.lt Nat _ p.1 I := e _ p hp
      rcases List.mem_cons.mp hq with rfl | hq
      · show @Ne Nat p.1 (I + 1)
        have e2 : @LT.lt Nat _ p.1 (@HAdd.hAdd Nat Nat Nat _ I 1) := Nat.lt_succ_of_lt e1
        exact Nat.ne_of_lt e2
      · rw [List.mem_singleton.mp hq]
        exact Nat.ne_of_lt e1
    · skip
      intro z z1 z2 z3
      have y0 : z ≠ Str.ofString "x" := by rintro rfl; exact absurd z3 (by decide)
      simp only [y0, z1, z3, kstB, ↓reduceIte, Bool.false_eq_true, List.contains_nil]
    · intro v hv
      rcases List.mem_or_eq_of_mem_set hv with hv | rfl
      · exact grow5 (q3 v hv)
      · exact grow6 hg hx0 hx1
  case done =>
    intro i
    with_reducible refine prod3 fun cvs cs' cnt => ?_
    intro u h tk hP F3 N3
    dsimp only at F3 N3
    have q5 : i + ([] : List Int).length ≤ 60 := by obtain ⟨_, _, _, ks, _, q⟩ := hP; exact Nat.le_trans (Nat.le_add_right _ _) q
    with_reducible refine and4 hP fun q1 q2 q3 q49 => ?_
    clear hP q49
    dsimp only at q1 q2 q3
    k_steps
    rename_i hh6 ys hF7 hN7 hk7 hno hx hn hcar hmk
    refine' kmk_add_ints (ns := [173, 847, 6150, 6155, 6156, 6157, 8203, 8204, 8205, 8288, 65279]) hF7 hN7 (News.isList hN7 (.head _)) hx ?i (IntsAre.ofCarried hcar) ?_ ?z
    case i => repeat (first | exact .nil | refine .cons _ _ ?_)
    case z => exact Nat.le_of_ble_eq_true rfl
    intro UD us hh8 F8 N8 l8 hus
    have hus' : IntsAre us b1L := by
      have e : ([173, 847, 6150, 6155, 6156, 6157, 8203, 8204, 8205, 8288, 65279] : List Int) ++ rangeInts 65024 1 (65040 - 65024 : Int).toNat = b1L := by decide +kernel
      rw [← e]; exact hus
    clear hus
    (try k_lt l8)
    k_steps
    rename_i HD hb8 lHD hb7 tb1 DR hb6 lDR hb5 hkb x1 x2 nmb hb4 hb3 hb2 hb1 Fb Nb hb0 tb0 t1b u1b v1b hR kF kN hkk
    with_reducible refine ex1and2 (sub_drawn kN) fun hvs hHI N1 => ?_
    clear kN
    try clear hkk
    try clear Nb
    try clear Fb
    try clear hkb
    try clear x1
    try clear x2
    try clear nmb
    try clear N8
    try clear F8
    try clear hn
    try clear hcar
    try clear hx
    try clear hmk
    try clear hN7
    try clear hF7
    try clear hk7
    try clear hno
    try clear F3
    try clear N3
    try clear hS'
    try clear hxz
    try clear lF
    try clear N1'
    try clear F'
    try clear N'
    refine Halt.mk ?_
    refine' range_loop (σ := List Nat × Tok × List Value × List Tk × Nat × Nat × Tok) (n := 9) (fun c => (DR, W.listOf c.2.2.1.toArray c.2.2.2.2.1) :: (HD, W.listOf hvs.toArray 0) :: (UD, W.listOf us.toArray 0) :: (LC, W.listOf cvs.toArray cnt) :: news)
      (fun c => [(Str.ofString "text", .str ⟨c.1.toArray⟩ c.2.1), (Str.ofString "need", .int (c.2.2.2.2.2.1 : Int) c.2.2.2.2.2.2)]) [Str.ofString "v", Str.ofString "which", Str.ofString "ahead", Str.ofString "more", Str.ofString "sign", Str.ofString "letter"]
      (fun j c => Rd c.1 c.2.2.2.1 ∧ TkAre c.2.2.1 c.2.2.2.1 ∧ Wants c.2.2.2.2.2.1 c.2.2.2.1 ∧ c.2.2.2.2.2.1 + j ≤ 9 ∧ c.1.length ≤ 2 * j ∧ c.2.2.2.1.length ≤ j ∧ (j = 0 → c.2.2.2.2.2.1 = 1)) ([], ?tk0, [], [], 0, 1, ?tk1) ?hh hR ?hsm ?hn ?hF ?hN ?hk ?hp ?turn ?done
    case hF => exact kF
    case hN => exact N1
    case hh => rfl
    case hsm => decide
    case hn => decide
    case hk => exact List.forall_mem_cons.mpr ⟨by with_unfolding_all rfl, List.forall_mem_cons.mpr ⟨by with_unfolding_all rfl, List.forall_mem_nil _⟩⟩
    case hp => exact ⟨.nil, .nil, Wants.init, Nat.le_of_ble_eq_true rfl, Nat.le_of_ble_eq_true rfl, Nat.le_of_ble_eq_true rfl, fun _ => rfl⟩
    case turn =>
      intro I hI0 j
      with_reducible refine prod7 fun codes tt dvs dts dn need tn => ?_
      intro t' u h tk hj hP F3 N3
      refine any_NQE rfl fun A9 Q9 E9 g9 d9 o9 k9 hQ9 => ?_
      with_reducible refine and7 hP fun r1 r2 r3 r4 r5 r6 r7 => ?_
      clear hP
      dsimp only at F3 N3 r1 r2 r3 r4 r5 r6 r7
      clear kF N1 hR
      have hj1 : ((0 : Int) + (j : Int)).toNat < cs'.length := by omega
      have hVV : 0 ≤ cs'.getD ((0 : Int) + (j : Int)).toNat 0 ∧ cs'.getD ((0 : Int) + (j : Int)).toNat 0 ≤ 70000 + (i : Int) * 1000003 := getD_of (P := fun v => 0 ≤ v ∧ v ≤ 70000 + (i : Int) * 1000003) hj1 q3
      have hV0 := hVV.1
      have hV1 := hVV.2
      clear hVV
      have hbl : (b1L.length : Int) = 27 := rfl
      have hhl : (headsI.length : Int) = 12 := rfl
      have hneD : ∀ p ∈ news, @Ne Nat p.1 DR := fun p hp => Nat.ne_of_lt (allLt_mem lDR.2.2.2.2.2 p hp)
      have hDRI : @LT.lt Nat _ DR I := hI0 _ (.head _)
      have hHDI : @LT.lt Nat _ HD I := hI0 _ (.tail _ (.head _))
      have hUDI : @LT.lt Nat _ UD I := hI0 _ (.tail _ (.tail _ (.head _)))
      have hLCI : @LT.lt Nat _ LC I := hI0 _ (.tail _ (.tail _ (.tail _ (.head _))))
      have hnI : ∀ p ∈ news, @LT.lt Nat _ p.1 I := fun p hp => hI0 _ (.tail _ (.tail _ (.tail _ (.tail _ hp))))
      clear hI0
      have hvl := r2.length
      have hvz : dvs.toArray.size ≤ sizeLine := by simp; exact Nat.le_trans (Nat.le_trans (Nat.le_of_eq hvl) (Nat.le_trans r6 (Nat.le_of_lt hj))) (by decide)
      k_steps
      rename_i F9 N9 e2 e1 e0 zF zN
      clear F9 N9
      generalize hVe : cs'.getD ((0 : Int) + (j : Int)).toNat 0 = V at hV0 hV1 zF zN
      generalize hWe : V.fdiv 3 = WW at zF zN
      generalize hAe : (V.fdiv 2232).fmod 28 = AH at zF zN
      have hW0 : 0 ≤ WW := by rw [← hWe]; exact Int.fdiv_nonneg hV0 (by decide)
      have hA0 : 0 ≤ AH := by rw [← hAe]; exact fmod_lo _ (by decide)
      have hA1 : AH < 28 := by rw [← hAe]; exact fmod_hi _ (by decide)
      have hm0 : 0 ≤ WW.fmod 12 := fmod_lo _ (by decide)
      have hm1 : WW.fmod 12 < 12 := fmod_hi _ (by decide)
      have hl0 : 0 ≤ WW.fmod 31 := fmod_lo _ (by decide)
      have hl1 : WW.fmod 31 < 31 := fmod_hi _ (by decide)
      have hh0 : 0 ≤ (WW.fdiv 31).fmod 12 := fmod_lo _ (by decide)
      have hh1 : (WW.fdiv 31).fmod 12 < 12 := fmod_hi _ (by decide)
      have hU0 : 0 ≤ b1L.getD AH.toNat 0 ∧ b1L.getD AH.toNat 0 < 1114112 := by
        by_cases h : AH < 27
        · exact getD_of (P := fun v => 0 ≤ v ∧ v < 1114112) (by have : b1L.length = 27 := rfl; omega) (by decide)
        · have : AH = 27 := eq27 hA1 h
          subst this
          decide
      have hH0 : 0 ≤ headsI.getD ((WW.fdiv 31).fmod 12).toNat 0 ∧ headsI.getD ((WW.fdiv 31).fmod 12).toNat 0 < 1000000 := getD_of (P := fun v => 0 ≤ v ∧ v < 1000000) (by have : headsI.length = 12 := rfl; omega) (by decide)
      have hO0 : 0 ≤ ([12271, 12284, 172, 8206, 65040] : List Int).getD (WW.fmod 31 - 26).toNat 0 ∧ ([12271, 12284, 172, 8206, 65040] : List Int).getD (WW.fmod 31 - 26).toNat 0 < 1114112 := getD_of (P := fun v => 0 ≤ v ∧ v < 1114112) (sub26 hl1) (by decide)
      have hU1 := hU0.1
      have hU2 := hU0.2
      have hH1 := hH0.1
      have hH2 := hH0.2
      have hO1 := hO0.1
      have hO2 := hO0.2
      refine Halt.mk ?_
      try dsimp only
      clear hVe hWe hAe hj1 q3 q5 q2 q1 r7
      refine cut_stmt2 (σ := Int × Tok × Tok × Tok × Tok) (fun c => (I, itR ((0 : Int) + ((j + 1 : Nat) : Int)) (((9 : Nat) : Int) - ((j + 1 : Nat) : Int))) :: (DR, W.listOf dvs.toArray dn) :: (HD, W.listOf hvs.toArray 0) :: (UD, W.listOf us.toArray 0) :: (LC, W.listOf cvs.toArray cnt) :: news)
        (fun c => [(Str.ofString "more", .int c.1 c.2.1), (Str.ofString "v", .int V c.2.2.1), (Str.ofString "which", .int WW c.2.2.2.1), (Str.ofString "ahead", .int AH c.2.2.2.2), (Str.ofString "p", .int (0 + (j : Int)) t'), (Str.ofString "need", .int (need : Int) tn), (Str.ofString "text", .str ⟨codes.toArray⟩ tt), (Str.ofString "drawn", .ref DR), (Str.ofString "heads", .ref HD), (Str.ofString "unseen", .ref UD)])
        (Str.ofString "letter") [] (fun c => (c.1 = 1 ∧ WW.fmod 12 ≠ 2 ∧ WW.fmod 12 ≠ 3) ∨ (c.1 = 2 ∧ (WW.fmod 12 = 2 ∨ WW.fmod 12 = 3))) zF ?h1 ?h2
      case h1 =>
        intro t0 Q7 E7 hQ7
        k_steps
        all_goals
            (with_reducible rename Fr _ _ _ _ => yF
             with_reducible rename News _ _ _ _ => yN
             refine hQ7 _ (CutR.mk' (_, _, _, _, _) yF yN (fun p hp => (by first | exact hp | exact .tail _ hp | exact .tail _ (.tail _ hp) | exact .tail _ (.tail _ (.tail _ hp)))) (List.forall_mem_cons.mpr ⟨by with_unfolding_all rfl, (List.forall_mem_cons.mpr ⟨by with_unfolding_all rfl, (List.forall_mem_cons.mpr ⟨by with_unfolding_all rfl, (List.forall_mem_cons.mpr ⟨by with_unfolding_all rfl, (List.forall_mem_cons.mpr ⟨by with_unfolding_all rfl, (List.forall_mem_cons.mpr ⟨by with_unfolding_all rfl, (List.forall_mem_cons.mpr ⟨by with_unfolding_all rfl, (List.forall_mem_cons.mpr ⟨by with_unfolding_all rfl, (List.forall_mem_cons.mpr ⟨by with_unfolding_all rfl, (List.forall_mem_cons.mpr ⟨by with_unfolding_all rfl, List.forall_mem_nil _⟩)⟩)⟩)⟩)⟩)⟩)⟩)⟩)⟩)⟩) (fun z _ z2 _ => if_neg (z2 _ (.head _))) ?_)
             first | exact .inr ⟨rfl, any23 (by assumption)⟩ | exact .inl ⟨rfl, nany23 (by assumption)⟩)
      case h2 =>
        with_reducible refine prod5 fun mr mt tv tw ta => ?_
        intro u2 h2 tk2 hmr hr2 F4 N4
        clear zF zN
        dsimp only at hmr F4 N4
        k_steps
        refine Halt.mk ?_
        try dsimp only
        refine cut_stmt2 (σ := List Nat × Tok × Nat × Tok × List Value × Nat) (fun c => (I, itR ((0 : Int) + ((j + 1 : Nat) : Int)) (((9 : Nat) : Int) - ((j + 1 : Nat) : Int))) :: (DR, W.listOf c.2.2.2.2.1.toArray c.2.2.2.2.2) :: (HD, W.listOf hvs.toArray 0) :: (UD, W.listOf us.toArray 0) :: (LC, W.listOf cvs.toArray cnt) :: news)
          (fun c => [(Str.ofString "sign", .str ⟨c.1.toArray⟩ c.2.1), (Str.ofString "need", .int (c.2.2.1 : Int) c.2.2.2.1), (Str.ofString "text", .str ⟨codes.toArray⟩ tt), (Str.ofString "ahead", .int AH ta), (Str.ofString "unseen", .ref UD)]) (Str.ofString "letter") []
          (fun c => SigP dts j c.1 c.2.2.2.2.1 c.2.2.1) F4 ?h3 ?h4
        case h3 =>
          intro t0 Q7 E7 hQ7
          clear hr2 hQ9
          k_steps
          · with_reducible rename Fr _ _ _ _ => yF
            with_reducible rename News _ _ _ _ => yN
            exact hQ7 _ (CutR.mk' ([], _, need, _, _, _) yF yN (fun p hp => (by first | exact hp | exact .tail _ hp | exact .tail _ (.tail _ hp) | exact .tail _ (.tail _ (.tail _ hp)))) (List.forall_mem_cons.mpr ⟨by with_unfolding_all rfl, (List.forall_mem_cons.mpr ⟨by with_unfolding_all rfl, (List.forall_mem_cons.mpr ⟨by with_unfolding_all rfl, (List.forall_mem_cons.mpr ⟨by with_unfolding_all rfl, (List.forall_mem_cons.mpr ⟨by with_unfolding_all rfl, List.forall_mem_nil _⟩)⟩)⟩)⟩)⟩) (fun z z1 z2 _ => by first | exact if_neg (z2 _ (.head _)) | exact (if_neg (z2 _ (.tail _ (.head _)))).trans (if_neg (z2 _ (.head _))) | exact (if_neg (z2 _ (.tail _ (.head _)))).trans ((if_neg (z2 _ (.head _))).trans (if_neg z1))) (sig_none r2 r3 r6 hj (by assumption)))
          · refine Halt.mk ?_
            refine wpAny_execs_cons ?_
            try dsimp only
            refine if_join (fun t1 => ?_) (fun hJ => ?_)
            · refine wpAny_execs_cons ?_
              k_steps
              all_goals first
              | exact absurd (by assumption : V.fmod 3 = 2) (by assumption)
              | (with_reducible rename Fr _ _ _ _ => yF
                 with_reducible rename News _ _ _ _ => yN
                 exact hQ7 _ (CutR.mk' ([(([12271, 12284, 172, 8206, 65040] : List Int).getD (WW.fmod 31 - 26).toNat 0).toNat], _, ((need : Int) - 1).toNat, _, _, _) yF yN (fun p hp => by repeat (first | (with_reducible exact hp) | (with_reducible refine List.mem_cons_of_mem _ ?_))) (List.forall_mem_cons.mpr ⟨by with_unfolding_all rfl, List.forall_mem_cons.mpr ⟨by with_unfolding_all exact someInt ((sg_nums r4 (by assumption)).2.2.2), (List.forall_mem_cons.mpr ⟨by with_unfolding_all rfl, (List.forall_mem_cons.mpr ⟨by with_unfolding_all rfl, (List.forall_mem_cons.mpr ⟨by with_unfolding_all rfl, List.forall_mem_nil _⟩)⟩)⟩)⟩⟩) (fun z z1 z2 _ => by first | exact (if_neg (z2 _ (.tail _ (.head _)))).trans (if_neg (z2 _ (.head _))) | exact (if_neg (z2 _ (.tail _ (.head _)))).trans ((if_neg (z2 _ (.head _))).trans (if_neg z1))) (sig_odd r2 r3 r4 r6 (by assumption) (by assumption) hl1)))
              | (with_reducible rename Fr _ _ _ _ => yF
                 with_reducible rename News _ _ _ _ => yN
                 exact hQ7 _ (CutR.mk' ([(headsI.getD ((WW.fdiv 31).fmod 12).toNat 0 + WW.fmod 31).toNat], _, ((need : Int) - 1).toNat, _, _, _) yF yN (fun p hp => by repeat (first | (with_reducible exact hp) | (with_reducible refine List.mem_cons_of_mem _ ?_))) (List.forall_mem_cons.mpr ⟨by with_unfolding_all rfl, List.forall_mem_cons.mpr ⟨by with_unfolding_all exact someInt ((sg_nums r4 (by assumption)).2.2.2), (List.forall_mem_cons.mpr ⟨by with_unfolding_all rfl, (List.forall_mem_cons.mpr ⟨by with_unfolding_all rfl, (List.forall_mem_cons.mpr ⟨by with_unfolding_all rfl, List.forall_mem_nil _⟩)⟩)⟩)⟩⟩) (fun z z1 z2 _ => by first | exact (if_neg (z2 _ (.tail _ (.head _)))).trans (if_neg (z2 _ (.head _))) | exact (if_neg (z2 _ (.tail _ (.head _)))).trans ((if_neg (z2 _ (.head _))).trans (if_neg z1))) (sig_letter r2 r3 r4 r6 (by assumption) hh0 hh1 hl0 (Int.lt_add_one_of_le (Int.not_lt.mp (by assumption))))))
              | (with_reducible rename Fr _ _ _ _ => yF
                 with_reducible rename News _ _ _ _ => yN
                 exact hQ7 _ (CutR.mk' ([(headsI.getD ((WW.fdiv 31).fmod 12).toNat 0 + 23).toNat], _, ((need : Int) - 1).toNat, _, _, _) yF yN (fun p hp => by repeat (first | (with_reducible exact hp) | (with_reducible refine List.mem_cons_of_mem _ ?_))) (List.forall_mem_cons.mpr ⟨by with_unfolding_all rfl, List.forall_mem_cons.mpr ⟨by with_unfolding_all exact someInt ((sg_nums r4 (by assumption)).2.2.2), (List.forall_mem_cons.mpr ⟨by with_unfolding_all rfl, (List.forall_mem_cons.mpr ⟨by with_unfolding_all rfl, (List.forall_mem_cons.mpr ⟨by with_unfolding_all rfl, List.forall_mem_nil _⟩)⟩)⟩)⟩⟩) (fun z z1 z2 _ => by first | exact (if_neg (z2 _ (.tail _ (.head _)))).trans (if_neg (z2 _ (.head _))) | exact (if_neg (z2 _ (.tail _ (.head _)))).trans ((if_neg (z2 _ (.head _))).trans (if_neg z1))) (sig_letter (l := 23) r2 r3 r4 r6 (by assumption) hh0 hh1 (by decide) (by decide))))
            · k_steps
              all_goals first
              | (refine Halt.mk ?_; exact hJ _)
              | (with_reducible rename Fr _ _ _ _ => yF
                 with_reducible rename News _ _ _ _ => yN
                 exact hQ7 _ (CutR.mk' ([(12272 + WW.fmod 12).toNat], _, ((need : Int) + mr).toNat, _, _, _) yF yN (fun p hp => by repeat (first | (with_reducible exact hp) | (with_reducible refine List.mem_cons_of_mem _ ?_))) (List.forall_mem_cons.mpr ⟨by with_unfolding_all rfl, List.forall_mem_cons.mpr ⟨by with_unfolding_all exact someInt ((jt_nums (j := j) hm0 hm1 hmr (by assumption) (by assumption)).2.2.2.2.2.2), (List.forall_mem_cons.mpr ⟨by with_unfolding_all rfl, (List.forall_mem_cons.mpr ⟨by with_unfolding_all rfl, (List.forall_mem_cons.mpr ⟨by with_unfolding_all rfl, List.forall_mem_nil _⟩)⟩)⟩)⟩⟩) (fun z z1 z2 _ => by first | exact (if_neg (z2 _ (.tail _ (.head _)))).trans (if_neg (z2 _ (.head _))) | exact (if_neg (z2 _ (.tail _ (.head _)))).trans ((if_neg (z2 _ (.head _))).trans (if_neg z1))) (sig_joint r2 r3 r6 hm0 hm1 hmr (by assumption) (by assumption))))
        case h4 =>
          with_reducible refine prod6 fun sc stk nd ntk dvs2 dn2 => ?_
          intro u3 h3 tk3 hP3 hr3 F5 N5
          unfold SigP at hP3
          with_reducible refine ex1and6 hP3 fun tl g1 g2 g3 g4 g5 g6 => ?_
          clear hP3
          dsimp only at F5 N5 g1 g2 g3 g4 g5 g6
          clear F4 N4
          have hs1 := str1 (c := (b1L.getD AH.toNat 0).toNat) g2
          have hs2 := str2 (c := (b1L.getD AH.toNat 0).toNat) g2 r5 hj
          have hs3 := str0 g2
          have hs4 := str3 g2 r5 hj
          have hneI : ∀ o : Obj, ∀ p ∈ (DR, o) :: (HD, W.listOf hvs.toArray 0) :: (UD, W.listOf us.toArray 0) :: (LC, W.listOf cvs.toArray cnt) :: news, @Ne Nat p.1 I := by
            intro o p hp
            rcases List.mem_cons.mp hp with rfl | hp
            · exact Nat.ne_of_lt hDRI
            rcases List.mem_cons.mp hp with rfl | hp
            · exact Nat.ne_of_lt hHDI
            rcases List.mem_cons.mp hp with rfl | hp
            · exact Nat.ne_of_lt hUDI
            rcases List.mem_cons.mp hp with rfl | hp
            · exact Nat.ne_of_lt hLCI
            · exact Nat.ne_of_lt (hnI p hp)
          k_steps
          · rename_i hAH _ _ _ _ kF kN
            have hz9 := b1_unseen AH.toNat (ahead_lt hA0 (by assumption))
            refine hQ9 _ _ _ ?_
            k_steps
            refine Halt.mk ?_
            refine' unr_endG (codes ++ ([(b1L.getD AH.toNat 0).toNat] ++ sc), _, dvs2, dts ++ tl, dn2, nd, _) kF kN (by repeat (first | (with_reducible exact List.mem_cons_self ..) | (with_reducible refine List.mem_cons_of_mem _ ?_))) (fun p hp => (by first | exact hp | exact .tail _ hp | exact .tail _ (.tail _ hp) | exact .tail _ (.tail _ (.tail _ hp)))) (hneI _) ?za ?zb ?zp
            case za => exact List.forall_mem_cons.mpr ⟨by with_unfolding_all exact someStr (cat3 codes [(b1L.getD AH.toNat 0).toNat] sc), List.forall_mem_cons.mpr ⟨by with_unfolding_all rfl, List.forall_mem_nil _⟩⟩
            case zb =>
              intro z z1 z2 z3
              have zt : z ≠ Str.ofString "text" := z2 _ (.head _)
              have zn : z ≠ Str.ofString "need" := z2 _ (.tail _ (.head _))
              have yv := (contains_ne z3 (by simp) : z ≠ Str.ofString "v")
              have yw := (contains_ne z3 (by simp) : z ≠ Str.ofString "which")
              have ya := (contains_ne z3 (by simp) : z ≠ Str.ofString "ahead")
              have ym := (contains_ne z3 (by simp) : z ≠ Str.ofString "more")
              have ys := (contains_ne z3 (by simp) : z ≠ Str.ofString "sign")
              have yl := (contains_ne z3 (by simp) : z ≠ Str.ofString "letter")
              by_cases zu : z = Str.ofString "unseen"
              · subst zu
                with_unfolding_all rfl
              · refine (if_neg zt).trans ((if_neg ys).trans ((if_neg zn).trans ((if_neg zt).trans ((if_neg ya).trans ((if_neg zu).trans ((hr3 z yl (List.forall_mem_cons.mpr ⟨ys, List.forall_mem_cons.mpr ⟨zn, List.forall_mem_cons.mpr ⟨zt, List.forall_mem_cons.mpr ⟨ya, List.forall_mem_cons.mpr ⟨zu, List.forall_mem_nil _⟩⟩⟩⟩⟩) rfl).trans ?_))))))
                by_cases zd : z = Str.ofString "drawn"
                · subst zd
                  with_unfolding_all rfl
                · by_cases zh : z = Str.ofString "heads"
                  · subst zh
                    with_unfolding_all rfl
                  · refine (if_neg ym).trans ((if_neg yv).trans ((if_neg yw).trans ((if_neg ya).trans ((if_neg z1).trans ((if_neg zn).trans ((if_neg zt).trans ((if_neg zd).trans ((if_neg zh).trans ((if_neg zu).trans ((hr2 z yl (List.forall_mem_cons.mpr ⟨ym, List.forall_mem_cons.mpr ⟨yv, List.forall_mem_cons.mpr ⟨yw, List.forall_mem_cons.mpr ⟨ya, List.forall_mem_cons.mpr ⟨z1, List.forall_mem_cons.mpr ⟨zn, List.forall_mem_cons.mpr ⟨zt, List.forall_mem_cons.mpr ⟨zd, List.forall_mem_cons.mpr ⟨zh, List.forall_mem_cons.mpr ⟨zu, List.forall_mem_nil _⟩⟩⟩⟩⟩⟩⟩⟩⟩⟩) rfl).trans ?_))))))))))
                    first
                      | exact (if_neg yv).trans ((if_neg yw).trans ((if_neg ya).trans ((if_neg z1).trans ((if_neg zt).trans ((if_neg zn).trans (if_neg (by rw [z3]; exact Bool.false_ne_true)))))))
                      | exact (if_neg ya).trans ((if_neg yw).trans ((if_neg yv).trans ((if_neg z1).trans ((if_neg zt).trans ((if_neg zn).trans (if_neg (by rw [z3]; exact Bool.false_ne_true)))))))
            case zp => exact ⟨r1.append (.skip hz9.1 hz9.2.1 hz9.2.2 g1), g3, g4, g5, len_2 r5 (Nat.le_refl 1) g2, g6, fun h => absurd h (Nat.succ_ne_zero _)⟩
          · rename_i hAH _ _ kF kN
            refine hQ9 _ _ _ ?_
            k_steps
            refine Halt.mk ?_
            refine' unr_endG (codes ++ ([] ++ sc), _, dvs2, dts ++ tl, dn2, nd, _) kF kN (by repeat (first | (with_reducible exact List.mem_cons_self ..) | (with_reducible refine List.mem_cons_of_mem _ ?_))) (fun p hp => (by first | exact hp | exact .tail _ hp | exact .tail _ (.tail _ hp) | exact .tail _ (.tail _ (.tail _ hp)))) (hneI _) ?za ?zb ?zp
            case za => exact List.forall_mem_cons.mpr ⟨by with_unfolding_all exact someStr (cat3 codes [] sc), List.forall_mem_cons.mpr ⟨by with_unfolding_all rfl, List.forall_mem_nil _⟩⟩
            case zb =>
              intro z z1 z2 z3
              have zt : z ≠ Str.ofString "text" := z2 _ (.head _)
              have zn : z ≠ Str.ofString "need" := z2 _ (.tail _ (.head _))
              have yv := (contains_ne z3 (by simp) : z ≠ Str.ofString "v")
              have yw := (contains_ne z3 (by simp) : z ≠ Str.ofString "which")
              have ya := (contains_ne z3 (by simp) : z ≠ Str.ofString "ahead")
              have ym := (contains_ne z3 (by simp) : z ≠ Str.ofString "more")
              have ys := (contains_ne z3 (by simp) : z ≠ Str.ofString "sign")
              have yl := (contains_ne z3 (by simp) : z ≠ Str.ofString "letter")
              by_cases zu : z = Str.ofString "unseen"
              · subst zu
                with_unfolding_all rfl
              · refine (if_neg zt).trans ((if_neg ys).trans ((if_neg zn).trans ((if_neg zt).trans ((if_neg ya).trans ((if_neg zu).trans ((hr3 z yl (List.forall_mem_cons.mpr ⟨ys, List.forall_mem_cons.mpr ⟨zn, List.forall_mem_cons.mpr ⟨zt, List.forall_mem_cons.mpr ⟨ya, List.forall_mem_cons.mpr ⟨zu, List.forall_mem_nil _⟩⟩⟩⟩⟩) rfl).trans ?_))))))
                by_cases zd : z = Str.ofString "drawn"
                · subst zd
                  with_unfolding_all rfl
                · by_cases zh : z = Str.ofString "heads"
                  · subst zh
                    with_unfolding_all rfl
                  · refine (if_neg ym).trans ((if_neg yv).trans ((if_neg yw).trans ((if_neg ya).trans ((if_neg z1).trans ((if_neg zn).trans ((if_neg zt).trans ((if_neg zd).trans ((if_neg zh).trans ((if_neg zu).trans ((hr2 z yl (List.forall_mem_cons.mpr ⟨ym, List.forall_mem_cons.mpr ⟨yv, List.forall_mem_cons.mpr ⟨yw, List.forall_mem_cons.mpr ⟨ya, List.forall_mem_cons.mpr ⟨z1, List.forall_mem_cons.mpr ⟨zn, List.forall_mem_cons.mpr ⟨zt, List.forall_mem_cons.mpr ⟨zd, List.forall_mem_cons.mpr ⟨zh, List.forall_mem_cons.mpr ⟨zu, List.forall_mem_nil _⟩⟩⟩⟩⟩⟩⟩⟩⟩⟩) rfl).trans ?_))))))))))
                    first
                      | exact (if_neg yv).trans ((if_neg yw).trans ((if_neg ya).trans ((if_neg z1).trans ((if_neg zt).trans ((if_neg zn).trans (if_neg (by rw [z3]; exact Bool.false_ne_true)))))))
                      | exact (if_neg ya).trans ((if_neg yw).trans ((if_neg yv).trans ((if_neg z1).trans ((if_neg zt).trans ((if_neg zn).trans (if_neg (by rw [z3]; exact Bool.false_ne_true)))))))
            case zp => exact ⟨r1.append g1, g3, g4, g5, len_2 r5 (Nat.zero_le 1) g2, g6, fun h => absurd h (Nat.succ_ne_zero _)⟩
    case done =>
      with_reducible refine prod7 fun codes tt dvs dts dn need tn => ?_
      intro u h tk hP F3 N3
      with_reducible refine and7 hP fun r1 r2 r3 r4 r5 r6 r7 => ?_
      clear hP
      dsimp only at F3 N3 r1 r2 r3 r4 r5 r6 r7
      have hneed : need = 0 := Nat.le_zero.mp (Nat.le_of_add_le_add_right (show need + 9 ≤ 0 + 9 from r4))
      rw [hneed] at r3
      have hDRh : @LT.lt Nat _ DR h.objs.size := Heap.lt_size (N3 _ (.head _)).1
      k_steps
      rename_i kF kN _ _
      refine cn_end hret kF (news' := (h.objs.size, tup3 (.ref LC) (.str ⟨codes.toArray⟩ tt) (.ref DR)) :: (DR, W.listOf dvs.toArray dn) :: (LC, W.listOf cvs.toArray cnt) :: news) (fun p hp => kN p ?_) (OutDrawn.mk _ LC DR cvs cs' cnt codes tt dvs dts dn rfl rfl q1 q2 (fun v hv => ⟨(q3 v hv).1, ?_⟩) r1 r2 r3.done r6 r5 lC lDR.2.2.2.2.1 hDRh)
      · rcases List.mem_cons.mp hp with rfl | hp
        · exact .head _
        rcases List.mem_cons.mp hp with rfl | hp
        · exact .tail _ (.head _)
        · exact .tail _ (.tail _ (.tail _ (.tail _ hp)))
      · have := (q3 v hv).2
        simp only [List.length_nil, Nat.add_zero] at q5
        exact cap5 this q5


end
local macro_rules | `(tactic| walk_at "call builtin:list.pop") => `(tactic| (k_here; (with_reducible show wpAny _ _ (call (Value.builtin _) [Value.ref _]) _ _ _); k_dflt (refine' kl_pop ?F ?N ?e ?U ?z ?_; (case F | N => k_asm); (case U => k_upd); (case e => exact kpa_last _ _); (case z => (refine Nat.le_trans (m := 20) ?_ (by decide); simp; omega))); intro h' F' N'))
section
set_option maxRecDepth 100000
set_option maxHeartbeats 8000000
theorem fillT1 : (PySem.Challenge.rw_wb0084_01 = PySem.Challenge.rw_wb0084_01) ∧ K = K := by
  k_fill
  exact ⟨rfl, rfl⟩
local macro_rules | `(tactic| walk_at "execs cons") => `(tactic| ((with_reducible show wpAny _ _ (execs (Stmt.If (Expr.Compare (Expr.Name (Str.ofString "token") _) [CmpOp.Eq] [Expr.Constant (Const.int 2) _ _] _) _ _ _ :: _) _) _ _ _); refine Halt.go ?_))
local macro_rules | `(tactic| walk_at "callWith ref") => `(tactic| (k_dflt (refine' callWith_K ?k1 ?k2 ?_; (case k1 => k_asm); (case k2 => assumption); k_whole)))
local macro_rules | `(tactic| walk_at "execs cons") => `(tactic| (k_here; dsimp only))
noncomputable def OutTold (x : Int) (ts : List Tk) (news : Led) (n : Led) (v : Value) : Prop := n = news ∧ ∃ t, v = .int ((run x ts).headD 0) t
theorem OutTold.el {x : Int} {ts : List Tk} {news : Led} (G : Led → Value → Prop) (T : ∀ t, G news (.int ((run x ts).headD 0) t)) (n : Led) (v : Value) (o : OutTold x ts news n v) : G n v := by
  obtain ⟨rfl, t, rfl⟩ := o; exact T t
theorem ints_rev1 {vs : List Value} {a : Int} {q : List Int} (h : IntsAre vs (a :: q).reverse) : ∃ qv ta, vs = qv ++ [.int a ta] ∧ IntsAre qv q.reverse := by
  have h' := h.reverse
  rw [List.reverse_reverse] at h'
  obtain ⟨ta, v1, e1, h1⟩ := h'.cons_inv
  refine ⟨v1.reverse, ta, ?_, h1.reverse⟩
  have : vs = vs.reverse.reverse := (List.reverse_reverse vs).symm
  rw [this, e1]
  simp
theorem runS (x : Int) (c : Nat) (r : List Tk) : run x (.S c :: r) = (if c = 120 then x else (c : Int) - 110) :: run x r := rfl
theorem ch120 {c : Nat} (h : (ch c == Str.ofString "x") = true) : c = 120 := by
  have e : ch c = Str.ofString "x" := eq_of_beq h
  have e2 : (ch c).cps = (Str.ofString "x").cps := by rw [e]
  have e3 : (Str.ofString "x").cps = #[120] := by decide
  rw [e3] at e2
  have e4 : (#[c] : Array Nat) = #[120] := e2
  simpa using e4
theorem ch120n {c : Nat} (h : (ch c == Str.ofString "x") = false) : c ≠ 120 := by
  rintro rfl
  exact absurd h (by decide)
theorem nine {j : Nat} (hj : j < 12) (h2 : j ≠ 2) (h3 : j ≠ 3) (h8 : j ≠ 8) : j = 0 ∨ j = 1 ∨ j = 4 ∨ j = 5 ∨ j = 6 ∨ j = 7 ∨ j = 9 ∨ j = 10 ∨ j = 11 := by
  have h : ∀ i : Fin 12, i.val ≠ 2 → i.val ≠ 3 → i.val ≠ 8 → i.val = 0 ∨ i.val = 1 ∨ i.val = 4 ∨ i.val = 5 ∨ i.val = 6 ∨ i.val = 7 ∨ i.val = 9 ∨ i.val = 10 ∨ i.val = 11 := by decide
  exact h ⟨j, hj⟩ h2 h3 h8
noncomputable abbrev deedsL : List Value := [.ref 63, .ref 112, .none, .none, .ref 91, .ref 70, .ref 105, .ref 119, .none, .ref 126, .ref 133, .ref 140]
theorem dTbl (w : World) {j : Nat} (hj : j < 12) (h2 : j ≠ 2) (h3 : j ≠ 3) (h8 : j ≠ 8) (a b : Int) (ta tb : Tok) (hq : IntMulOk a b) :
    ∃ f : Addr, deedsL[((j : Int)).toNat]? = some (.ref f) ∧ keepIn (K w.params) (.ref f) = true ∧ ∀ news, Cn w f 2 100 [.int a ta, .int b tb] news (OutN (opv j a b 0) news) := by
  have h := nine hj h2 h3 h8
  rcases h with rfl | rfl | rfl | rfl | rfl | rfl | rfl | rfl | rfl
  · exact ⟨63, rfl, by k_is, fun news => d63 w a b ta tb news⟩
  · exact ⟨112, rfl, by k_is, fun news => d112 w a b ta tb news⟩
  · exact ⟨91, rfl, by k_is, fun news => d91 w a b ta tb news hq⟩
  · exact ⟨70, rfl, by k_is, fun news => d70 w a b ta tb news⟩
  · exact ⟨105, rfl, by k_is, fun news => d105 w a b ta tb news⟩
  · exact ⟨119, rfl, by k_is, fun news => d119 w a b ta tb news⟩
  · exact ⟨126, rfl, by k_is, fun news => d126 w a b ta tb news⟩
  · exact ⟨133, rfl, by k_is, fun news => d133 w a b ta tb news hq⟩
  · exact ⟨140, rfl, by k_is, fun news => d140 w a b ta tb news⟩
theorem tk_part {ts Lr Lr' td : List Tk} {tt : Tk} (hts : ts = Lr.reverse ++ td) (hLr : Lr = tt :: Lr') (hW : WF 1 ts) (hl : ts.length ≤ 9) : (∃ m, WF m (tt :: td)) ∧ td.length ≤ 8 ∧ ts = Lr'.reverse ++ (tt :: td) := by
  subst hLr
  simp only [List.reverse_cons, List.append_assoc, List.singleton_append] at hts
  refine ⟨(hts ▸ hW).tail, ?_, hts⟩
  rw [hts] at hl
  simp at hl
  omega
theorem told_el {x : Int} {m j : Nat} {td : List Tk} {pvs : List Value} (hx0 : -(2 ^ 17) ≤ x) (hx1 : x < 2 ^ 17) (hWm : WF m (.J j :: td)) (hI : IntsAre pvs (run x td).reverse) (hlen : td.length ≤ 8) (hpl : pvs.length ≤ td.length) {G : List Value → Prop}
    (k : ∀ a b q qv ta tb, run x td = a :: b :: q → IntsAre qv q.reverse → IntMulOk a b → Builtin.Int.intBits a ≤ 154 → qv.length + 2 ≤ td.length → qv.toArray.size ≤ sizeLine → G (qv ++ [.int b tb] ++ [.int a ta])) : G pvs := by
  obtain ⟨m2, hW2⟩ := WF.tail (a := [.J j]) hWm
  have hbd := run_bnd (x := x) (by omega) hW2
  obtain ⟨a, b, q, hq⟩ := pile2 (x := x) hWm
  have hI' := hI
  rw [hq] at hI' hbd
  obtain ⟨la, ba1, ba2, lb, bb1, bb2, bq⟩ := hbd
  have hAi : Builtin.Int.intBits a ≤ 154 := intBits_le_iff.mpr (ba2.bits (by omega))
  have hBi : Builtin.Int.intBits b ≤ 154 := intBits_le_iff.mpr (bb2.bits (by omega))
  obtain ⟨qv, ta, tb, rfl, hqv⟩ := ints_rev2 hI'
  have hql : qv.length + 2 ≤ td.length := by simp at hpl; omega
  exact k a b q qv ta tb hq hqv (PySem.IntMulOk.of_bits (Nat.le_trans hAi (by decide)) (Nat.le_trans hBi (by decide))) hAi hql (by simp; exact Nat.le_trans (show qv.length ≤ 8 by omega) (by decide))
theorem told_el3 {x a b : Int} {m j : Nat} {td : List Tk} {q : List Int} {qv : List Value} (hWm : WF m (.J j :: td)) (hj : j = 2 ∨ j = 3) (hq : run x td = a :: b :: q) (hqv : IntsAre qv q.reverse) (hlen : td.length ≤ 8) (hql : qv.length + 2 ≤ td.length) {G : List Value → Prop}
    (k : ∀ c q' qv' tc, run x (.J j :: td) = opv j a b c :: q' → IntsAre qv' q'.reverse → qv'.length + 3 ≤ td.length → qv'.toArray.size ≤ sizeLine → G (qv' ++ [.int c tc])) : G qv := by
  obtain ⟨a', b', c, q', hq'⟩ := pile3 (x := x) hWm hj
  have hqe := hq'
  rw [hq] at hqe
  cases hqe
  obtain ⟨qv, tc, rfl, hqw⟩ := ints_rev1 hqv
  have hql' : qv.length + 3 ≤ td.length := by simp at hql; omega
  exact k c q' qv tc (runJ3 hq' hj) hqw hql' (by simp; exact Nat.le_trans (show qv.length ≤ 8 by omega) (by decide))
theorem WF.j12 {m j : Nat} {td : List Tk} (h : WF m (.J j :: td)) : j < 12 := by
  cases m with
  | zero => exact h.elim
  | succ m => exact h.1
theorem told_one {x : Int} {td : List Tk} {pvs : List Value} (hW : WF 1 td) (hI : IntsAre pvs (run x td).reverse) : ∃ t, pvs = [.int ((run x td).headD 0) t] := by
  have hrl := run_len x hW
  obtain ⟨a, hra⟩ : ∃ a, run x td = [a] := by
    cases h1 : run x td with
    | nil => rw [h1] at hrl; cases hrl
    | cons a q => cases q with
      | nil => exact ⟨a, rfl⟩
      | cons _ _ => rw [h1] at hrl; simp at hrl
  rw [hra] at hI
  obtain ⟨ta, vs', rfl, hI'⟩ := hI.cons_inv
  cases hI'
  exact ⟨ta, by rw [hra]; rfl⟩
theorem d237 (w : World) (TL : Addr) (tvs : List Value) (ts : List Tk) (tn : Nat) (x : Int) (tx : Tok) (rest : Led) (hT : TkAre tvs ts) (hW : WF 1 ts) (hl : ts.length ≤ 9) (hx0 : -(2 ^ 17) ≤ x) (hx1 : x < 2 ^ 17) :
    Cn w 237 3 200 [.ref TL, .int x tx] ((TL, W.listOf tvs.toArray tn) :: rest) (OutTold x ts ((TL, W.listOf tvs.toArray tn) :: rest)) := by
  unfold Cn
  intro mg mb mean dp un gd cn cs ad ccd cl outer A₀ base h₀ L m s Q E B F X N T hk c1 c2 hd hu hret
  refine wpAny_call ?_
  k_dflt ktr_rel
  k_steps
  rename_i g' L' hA FG' B' X' T' l0' l1' DL hB lD hB2 tkB PL hC lP hC2 I hF F2 N2 lI
  refine Halt.mk ?_
  refine' rev_loop (σ := List Value × Nat) (ax := TL) (lo := W.listOf tvs.toArray tn) (vs := tvs) (n := tn) (fun c => (PL, W.listOf c.1.toArray c.2) :: (DL, W.listOf #[.ref 63, .ref 112, .none, .none, .ref 91, .ref 70, .ref 105, .ref 119, .none, .ref 126, .ref 133, .ref 140] 0) :: (TL, W.listOf tvs.toArray tn) :: rest) (fun c => []) [Str.ofString "first", Str.ofString "second"]
    (fun r c => ∃ Lr td, TkAre r Lr ∧ ts = Lr.reverse ++ td ∧ IntsAre c.1 (run x td).reverse ∧ c.1.length ≤ td.length) ([], 0) ?hh F2 N2 ?lt ?hm rfl rfl ?hk ?hp ?turn ?done
  case hk => exact List.forall_mem_nil _
  case hh => rfl
  case lt => exact ⟨lI.1, lI.2.1, lI.2.2.1, lI.2.2.2⟩
  case hm => exact .tail _ (.tail _ (.head _))
  case hp => exact ⟨ts.reverse, [], hT.reverse, by simp, .nil, by simp⟩
  case turn =>
    refine prod2 fun pvs cnt => ?_
    intro v r u it h tk hP hcl F3 N3
    dsimp only at F3 N3
    clear F2 N2
    refine any_QE fun Q9 E9 hQ9 => ?_
    refine ex2and4 hP fun Lr td hr hts hI hpl => ?_
    dsimp only at hI hpl
    clear hP
    have hneP : ∀ p ∈ rest, @Ne Nat p.1 PL := fun p hp => Nat.ne_of_lt (allLt_mem lP.2.2 p hp)
    have hPD : @LT.lt Nat _ DL PL := lP.1
    have hPT : @LT.lt Nat _ TL PL := lP.2.1
    have hPI : @LT.lt Nat _ PL I := lI.1
    have hoff : ∀ o : Obj, ∀ p ∈ (PL, o) :: (DL, W.listOf #[.ref 63, .ref 112, .none, .none, .ref 91, .ref 70, .ref 105, .ref 119, .none, .ref 126, .ref 133, .ref 140] 0) :: (TL, W.listOf tvs.toArray tn) :: rest, @Ne Nat p.1 I := by
      intro o p hp
      rcases List.mem_cons.mp hp with rfl | hp
      · exact Nat.ne_of_lt lI.1
      rcases List.mem_cons.mp hp with rfl | hp
      · exact Nat.ne_of_lt lI.2.1
      rcases List.mem_cons.mp hp with rfl | hp
      · exact Nat.ne_of_lt lI.2.2.1
      · exact Nat.ne_of_lt (allLt_mem lI.2.2.2 p hp)
    revert F3
    apply TkAre.el hr
    case kS =>
      intro c tv Lr' hr' hLr F3
      have hX := tk_part hts hLr hW hl
      have hlen := hX.2.1
      have hpz : pvs.toArray.size ≤ sizeLine := by simp; exact Nat.le_trans (show pvs.length ≤ 8 by omega) (by decide)
      have hts' := hX.2.2
      clear hX hr hts hLr
      k_steps
      · rename_i hx hh kF kN
        have hc : c = 120 := ch120 hx
        refine hQ9 _ _ ?_
        k_steps
        refine Halt.mk ?_
        refine' unr_end (pvs ++ [_], _) kF kN (by repeat (first | (with_reducible exact List.mem_cons_self ..) | (with_reducible refine List.mem_cons_of_mem _ ?_))) (fun p hp => (by first | exact hp | exact .tail _ hp | exact .tail _ (.tail _ hp) | exact .tail _ (.tail _ (.tail _ hp)))) (hoff _) (.tail _ (.tail _ (.head _))) (List.forall_mem_nil _) ?zb ?zp
        case zb => exact fun z z1 z2 z3 => (if_neg z1).trans (if_neg (by rw [z3]; exact Bool.false_ne_true))
        case zp => exact ⟨Lr', .S c :: td, hr', hts', by rw [runS, if_pos hc, List.reverse_cons]; exact hI.append (.cons _ _ .nil), by simp; omega⟩
      · rename_i hx hh kF kN
        have hc : c ≠ 120 := ch120n hx
        refine hQ9 _ _ ?_
        k_steps
        refine Halt.mk ?_
        refine' unr_end (pvs ++ [_], _) kF kN (by repeat (first | (with_reducible exact List.mem_cons_self ..) | (with_reducible refine List.mem_cons_of_mem _ ?_))) (fun p hp => (by first | exact hp | exact .tail _ hp | exact .tail _ (.tail _ hp) | exact .tail _ (.tail _ (.tail _ hp)))) (hoff _) (.tail _ (.tail _ (.head _))) (List.forall_mem_nil _) ?zb ?zp
        case zb => exact fun z z1 z2 z3 => (if_neg z1).trans (if_neg (by rw [z3]; exact Bool.false_ne_true))
        case zp => exact ⟨Lr', .S c :: td, hr', hts', by rw [runS, if_neg hc, List.reverse_cons]; exact hI.append (.cons _ _ .nil), by simp; omega⟩
    case kJ =>
      intro j tv Lr' hr' hLr F3
      have hX := tk_part hts hLr hW hl
      have hlen := hX.2.1
      have hts' := hX.2.2
      refine Exists.elim hX.1 fun m hWm => ?_
      clear hX hr hts hLr
      have hj := WF.j12 hWm
      revert N3
      apply told_el hx0 hx1 hWm hI hlen hpl
      intro a b q qv ta tb hq hqv hmul hAi hql hqz
      intro N3
      clear hI hpl
      k_steps
      refine Halt.mk ?_
      with_reducible rename Fr _ _ _ _ => kF
      with_reducible rename News _ _ _ _ => kN
      refine cut_stmt2 (σ := List Value × Nat) (fun c => (I, it) :: (PL, W.listOf c.1.toArray c.2) :: (DL, W.listOf #[.ref 63, .ref 112, .none, .none, .ref 91, .ref 70, .ref 105, .ref 119, .none, .ref 126, .ref 133, .ref 140] 0) :: (TL, W.listOf tvs.toArray tn) :: rest) (fun c => [(Str.ofString "pile", .ref PL)]) (Str.ofString "token") [] (fun c => IntsAre c.1 (run x (.J j :: td)).reverse ∧ c.1.length ≤ td.length + 1) kF ?h1 ?h2
      case h1 =>
        intro t0 Q7 E7 hQ7
        by_cases hj3 : j = 2 ∨ j = 3
        · revert kN
          apply told_el3 hWm hj3 hq hqv hlen hql
          intro c q' qv tc hR hqw hql' hqz'
          intro kN
          clear hoff hl hW hqv hqz
          rcases hj3 with rfl | rfl
          · k_steps
            k_dflt (refine' cn_useE (d70 w _ _ _ _ _) OutN.el ?k1 ?k2 ?k3 ?k4 ?k5 ?k6 c1 c2 ?k7 ?k8 ?_)
            case k4 => k_asm
            case k1 => k_asm
            case k2 => k_asm
            case k3 => k_asm
            case k5 => k_asm
            case k6 => first | assumption | exact rfl
            case k7 => ktr_room
            case k8 => ktr_units
            intro t9 h9 tk9 F9 N9
            k_steps
            k_dflt (refine' cn_useE (d77 w _ _ _) OutN.el ?k1 ?k2 ?k3 ?k4 ?k5 ?k6 c1 c2 ?k7 ?k8 ?_)
            case k4 => k_asm
            case k1 => k_asm
            case k2 => k_asm
            case k3 => k_asm
            case k5 => k_asm
            case k6 => first | assumption | exact rfl
            case k7 => ktr_room
            case k8 => ktr_units
            intro t8 h8 tk8 F8 N8
            k_steps
            k_dflt (refine' cn_useE (d70 w _ _ _ _ _) OutN.el ?k1 ?k2 ?k3 ?k4 ?k5 ?k6 c1 c2 ?k7 ?k8 ?_)
            case k4 => k_asm
            case k1 => k_asm
            case k2 => k_asm
            case k3 => k_asm
            case k5 => k_asm
            case k6 => first | assumption | exact rfl
            case k7 => ktr_room
            case k8 => ktr_units
            intro t7 h7 tk7 F7 N7
            k_steps
            k_dflt (refine' cn_useE (d105 w _ _ _ _ _) OutN.el ?k1 ?k2 ?k3 ?k4 ?k5 ?k6 c1 c2 ?k7 ?k8 ?_)
            case k4 => k_asm
            case k1 => k_asm
            case k2 => k_asm
            case k3 => k_asm
            case k5 => k_asm
            case k6 => first | assumption | exact rfl
            case k7 => ktr_room
            case k8 => ktr_units
            intro t6 h6 tk6 F6 N6
            k_steps
            with_reducible rename Fr _ _ _ _ => xF
            with_reducible rename News _ _ _ _ => xN
            exact hQ7 _ (CutR.mk' (qv ++ [_], _) xF xN (fun p hp => by repeat (first | (with_reducible exact hp) | (with_reducible refine List.mem_cons_of_mem _ ?_))) (List.forall_mem_cons.mpr ⟨by with_unfolding_all rfl, List.forall_mem_nil _⟩) (fun _ _ _ _ => rfl) ⟨by rw [hR]; exact ints_snoc hqw, by simp; omega⟩)
          · k_steps
            k_dflt (refine' cn_useE (d91 w _ _ _ _ _ hmul) OutN.el ?k1 ?k2 ?k3 ?k4 ?k5 ?k6 c1 c2 ?k7 ?k8 ?_)
            case k4 => k_asm
            case k1 => k_asm
            case k2 => k_asm
            case k3 => k_asm
            case k5 => k_asm
            case k6 => first | assumption | exact rfl
            case k7 => ktr_room
            case k8 => ktr_units
            intro t9 h9 tk9 F9 N9
            k_steps
            k_dflt (refine' cn_useE (d98 w _ _ _) OutN.el ?k1 ?k2 ?k3 ?k4 ?k5 ?k6 c1 c2 ?k7 ?k8 ?_)
            case k4 => k_asm
            case k1 => k_asm
            case k2 => k_asm
            case k3 => k_asm
            case k5 => k_asm
            case k6 => first | assumption | exact rfl
            case k7 => ktr_room
            case k8 => ktr_units
            intro t8 h8 tk8 F8 N8
            k_steps
            k_dflt (refine' cn_useE (d63 w _ _ _ _ _) OutN.el ?k1 ?k2 ?k3 ?k4 ?k5 ?k6 c1 c2 ?k7 ?k8 ?_)
            case k4 => k_asm
            case k1 => k_asm
            case k2 => k_asm
            case k3 => k_asm
            case k5 => k_asm
            case k6 => first | assumption | exact rfl
            case k7 => ktr_room
            case k8 => ktr_units
            intro t7 h7 tk7 F7 N7
            k_steps
            with_reducible rename Fr _ _ _ _ => xF
            with_reducible rename News _ _ _ _ => xN
            exact hQ7 _ (CutR.mk' (qv ++ [_], _) xF xN (fun p hp => by repeat (first | (with_reducible exact hp) | (with_reducible refine List.mem_cons_of_mem _ ?_))) (List.forall_mem_cons.mpr ⟨by with_unfolding_all rfl, List.forall_mem_nil _⟩) (fun _ _ _ _ => rfl) ⟨by rw [hR]; exact ints_snoc hqw, by simp; omega⟩)
        · have hR := runJ2 hq hj3
          clear hoff hl hW
          by_cases h8 : j = 8
          · subst h8
            k_steps
            k_dflt (refine' cn_useE (d84 w _ _ _ _ _ (by decide) (by omega)) OutN.el ?k1 ?k2 ?k3 ?k4 ?k5 ?k6 c1 c2 ?k7 ?k8 ?_)
            case k4 => k_asm
            case k1 => k_asm
            case k2 => k_asm
            case k3 => k_asm
            case k5 => k_asm
            case k6 => first | assumption | exact rfl
            case k7 => ktr_room
            case k8 => ktr_units
            intro t9 h9 tk9 F9 N9
            k_steps
            k_dflt (refine' cn_useE (d63 w _ _ _ _ _) OutN.el ?k1 ?k2 ?k3 ?k4 ?k5 ?k6 c1 c2 ?k7 ?k8 ?_)
            case k4 => k_asm
            case k1 => k_asm
            case k2 => k_asm
            case k3 => k_asm
            case k5 => k_asm
            case k6 => first | assumption | exact rfl
            case k7 => ktr_room
            case k8 => ktr_units
            intro t8 h8 tk8 F8 N8
            k_steps
            with_reducible rename Fr _ _ _ _ => xF
            with_reducible rename News _ _ _ _ => xN
            exact hQ7 _ (CutR.mk' (qv ++ [_], _) xF xN (fun p hp => by repeat (first | (with_reducible exact hp) | (with_reducible refine List.mem_cons_of_mem _ ?_))) (List.forall_mem_cons.mpr ⟨by with_unfolding_all rfl, List.forall_mem_nil _⟩) (fun _ _ _ _ => rfl) ⟨by rw [hR]; show IntsAre _ ((2 * a + b) :: q).reverse; rw [Int.mul_comm]; exact ints_snoc hqv, by simp; omega⟩)
          · obtain ⟨fx, e1, e2, hC⟩ := dTbl w hj (fun h => hj3 (.inl h)) (fun h => hj3 (.inr h)) h8 a b ta tb hmul
            have n2 : ((j : Int)) ≠ 2 := by omega
            have n3 : ((j : Int)) ≠ 3 := by omega
            have n8 : ((j : Int)) ≠ 8 := by omega
            k_steps
            all_goals first | exact absurd (by assumption) n2 | exact absurd (by assumption) n3 | exact absurd (by assumption) n8 | skip
            with_reducible rename News _ _ _ _ => vN
            refine item_litK (vs := deedsL) ⟨W.listOf #[.ref 63, .ref 112, .none, .none, .ref 91, .ref 70, .ref 105, .ref 119, .none, .ref 126, .ref 133, .ref 140] 0, vN.get (a := DL) (by repeat (first | (with_reducible exact List.mem_cons_self ..) | (with_reducible refine List.mem_cons_of_mem _ ?_))), rfl, _, rfl⟩ (Int.natCast_nonneg j) (by omega) e1 ?_
            k_steps
            k_dflt (refine' cn_useE (hC _) OutN.el ?k1 ?k2 ?k3 ?k4 ?k5 ?k6 c1 c2 ?k7 ?k8 ?_)
            case k4 => k_asm
            case k1 => k_asm
            case k2 => k_asm
            case k3 => k_asm
            case k5 => k_asm
            case k6 => first | assumption | exact rfl
            case k7 => ktr_room
            case k8 => ktr_units
            intro t9 h9 tk9 F9 N9
            k_steps
            with_reducible rename Fr _ _ _ _ => xF
            with_reducible rename News _ _ _ _ => xN
            exact hQ7 _ (CutR.mk' (qv ++ [_], _) xF xN (fun p hp => by repeat (first | (with_reducible exact hp) | (with_reducible refine List.mem_cons_of_mem _ ?_))) (List.forall_mem_cons.mpr ⟨by with_unfolding_all rfl, List.forall_mem_nil _⟩) (fun _ _ _ _ => rfl) ⟨by rw [hR]; exact ints_snoc hqv, by simp; omega⟩)
      case h2 =>
        refine prod2 fun pv cn => ?_
        intro r5 h5 tk5 hP5 hr5 F5 N5
        have hI5 := hP5.1
        have hl5 := hP5.2
        dsimp only at hI5 hl5 F5 N5
        clear kF kN
        k_steps
        refine hQ9 _ _ ?_
        k_steps
        with_reducible rename Fr _ _ _ _ => xF
        with_reducible rename News _ _ _ _ => xN
        refine Halt.mk ?_
        refine' unr_end (pv, _) xF xN (by repeat (first | (with_reducible exact List.mem_cons_self ..) | (with_reducible refine List.mem_cons_of_mem _ ?_))) (fun p hp => (by first | exact hp | exact .tail _ hp | exact .tail _ (.tail _ hp) | exact .tail _ (.tail _ (.tail _ hp)))) (hoff _) (.tail _ (.tail _ (.head _))) (List.forall_mem_nil _) ?zb ⟨Lr', .J j :: td, hr', hts', hI5, by simpa using hl5⟩
        case zb =>
          intro z z1 z2 z3
          by_cases zp : z = Str.ofString "pile"
          · subst zp
            with_unfolding_all rfl
          · exact (if_neg zp).trans ((hr5 z z1 (List.forall_mem_cons.mpr ⟨zp, List.forall_mem_nil _⟩) rfl).trans ((if_neg (contains_ne z3 (by simp))).trans ((if_neg (contains_ne z3 (by simp))).trans ((if_neg z1).trans (if_neg (by rw [z3]; exact Bool.false_ne_true))))))
  case done =>
    refine prod2 fun pvs cnt => ?_
    intro u h tk hP F3 N3
    dsimp only at F3 N3
    refine ex2and4 hP fun Lr td hr hts hI hpl => ?_
    clear hP
    have hts' : ts = td := by cases hr; exact hts
    subst hts'
    revert N3
    refine Exists.elim (told_one hW hI) fun ta e => ?_
    dsimp only at e
    rw [e]
    intro N3
    k_steps
    rename_i kF kN _ _
    refine cn_end hret kF (news' := (TL, W.listOf tvs.toArray tn) :: rest) (fun p hp => kN p (.tail _ (.tail _ hp))) ⟨rfl, _, rfl⟩

end
section
set_option maxRecDepth 100000
set_option maxHeartbeats 8000000
theorem fillT2 : (PySem.Challenge.rw_wb0084_01 = PySem.Challenge.rw_wb0084_01) ∧ K = K := by
  k_fill
  exact ⟨rfl, rfl⟩
local macro_rules | `(tactic| walk_at "execs cons") => `(tactic| ((with_reducible show wpAny _ _ (execs (Stmt.Assign [Expr.Tuple (Expr.Name (Str.ofString "c") _ :: _) _ _] _ _ :: _) _) _ _ _); refine Halt.go ?_))
local macro_rules | `(tactic| walk_at "execs cons") => `(tactic| ((with_reducible show wpAny _ _ (execs (Stmt.If (Expr.Compare (Expr.Name (Str.ofString "token") _) [CmpOp.In] [Expr.Tuple (Expr.Constant (Const.int 0) _ _ :: _) _ _] _) _ _ _ :: _) _) _ _ _); refine Halt.go ?_))
local macro_rules | `(tactic| walk_at "execs cons") => `(tactic| (k_here; dsimp only))
local macro_rules | `(tactic| walk_at "subscriptTail Name Constant ref int") => `(tactic| (k_here; k_dflt (refine' item_list ?k1 ?k2 ?k3 ?k4 ?_; (case k1 => is_list); (case k2 | k3 => decide); (case k4 => exact rfl)); k_whole))
theorem cons_pair {a b a' b' : Int} {s : List (Int × Int)} (h1 : a = a') (h2 : b = b') : (a, b) :: s = (a', b') :: s := by rw [h1, h2]
section
variable {k a b c p q r : Int}
theorem opf2a (h1 : Builtin.bitXor (bitK k a) p ≠ 0) (h2 : bitK k a ≠ 0) : opf 2 k a b c p q r = Builtin.bitXor (Builtin.bitXor (bitK k b) q) (bitK k b) := by show Builtin.bitXor (if Builtin.bitXor (bitK k a) p = 0 then Builtin.bitXor (bitK k c) r else Builtin.bitXor (bitK k b) q) (if bitK k a = 0 then bitK k c else bitK k b) = _; rw [if_neg h1, if_neg h2]
theorem opf2b (h1 : Builtin.bitXor (bitK k a) p ≠ 0) (h2 : bitK k a = 0) : opf 2 k a b c p q r = Builtin.bitXor (Builtin.bitXor (bitK k b) q) (bitK k c) := by show Builtin.bitXor (if Builtin.bitXor (bitK k a) p = 0 then Builtin.bitXor (bitK k c) r else Builtin.bitXor (bitK k b) q) (if bitK k a = 0 then bitK k c else bitK k b) = _; rw [if_neg h1, if_pos h2]
theorem opf2c (h1 : Builtin.bitXor (bitK k a) p = 0) (h2 : bitK k a ≠ 0) : opf 2 k a b c p q r = Builtin.bitXor (Builtin.bitXor (bitK k c) r) (bitK k b) := by show Builtin.bitXor (if Builtin.bitXor (bitK k a) p = 0 then Builtin.bitXor (bitK k c) r else Builtin.bitXor (bitK k b) q) (if bitK k a = 0 then bitK k c else bitK k b) = _; rw [if_pos h1, if_neg h2]
theorem opf2d (h1 : Builtin.bitXor (bitK k a) p = 0) (h2 : bitK k a = 0) : opf 2 k a b c p q r = Builtin.bitXor (Builtin.bitXor (bitK k c) r) (bitK k c) := by show Builtin.bitXor (if Builtin.bitXor (bitK k a) p = 0 then Builtin.bitXor (bitK k c) r else Builtin.bitXor (bitK k b) q) (if bitK k a = 0 then bitK k c else bitK k b) = _; rw [if_pos h1, if_pos h2]
end
theorem x711 {j : Nat} (hj : j < 12) (e1 : (([0, 1, 9] : List Int).any fun x => x == (j : Int)) = false) (e2 : (([3, 4, 10] : List Int).any fun x => x == (j : Int)) = false) (n2 : (j : Int) ≠ 2) (n5 : (j : Int) ≠ 5) (n6 : (j : Int) ≠ 6) (n8 : (j : Int) ≠ 8) : j = 7 ∨ j = 11 := by
  have h : ∀ i : Fin 12, (([0, 1, 9] : List Int).any fun x => x == ((i.val : Nat) : Int)) = false → (([3, 4, 10] : List Int).any fun x => x == ((i.val : Nat) : Int)) = false → ((i.val : Nat) : Int) ≠ 2 → ((i.val : Nat) : Int) ≠ 5 → ((i.val : Nat) : Int) ≠ 6 → ((i.val : Nat) : Int) ≠ 8 → i.val = 7 ∨ i.val = 11 := by decide
  exact h ⟨j, hj⟩ e1 e2 n2 n5 n6 n8
section
variable {k a b c p q r : Int} {j : Nat}
theorem due_a (h1 : (j : Int) = 1) : a - b = opv j a b c ∧ Builtin.bitXor p q = opf j k a b c p q r := by
  obtain rfl : j = 1 := by omega
  exact ⟨rfl, rfl⟩
theorem due_b (h : (([0, 1, 9] : List Int).any fun x => x == (j : Int)) = true) (h1 : (j : Int) ≠ 1) : a + b = opv j a b c ∧ Builtin.bitXor p q = opf j k a b c p q r := by
  have : j = 0 ∨ j = 9 := by simp at h; omega
  rcases this with rfl | rfl <;> exact ⟨rfl, rfl⟩
theorem due_cd (h : (([3, 4, 10] : List Int).any fun x => x == (j : Int)) = true) (hc0 : ¬(j = 2 ∨ j = 3) → c = 0) {e : Int} (he : (if k = 0 then p * q else 0) = e) : a * b - c = opv j a b c ∧ (p * b + q * a + e + r).fmod 2 = opf j k a b c p q r := by
  subst he
  have : j = 3 ∨ j = 4 ∨ j = 10 := by simp at h; omega
  rcases this with rfl | rfl | rfl
  · exact ⟨rfl, rfl⟩
  · rw [hc0 (by decide)]; exact ⟨Int.sub_zero _, rfl⟩
  · rw [hc0 (by decide)]; exact ⟨Int.sub_zero _, rfl⟩
theorem due_2 (h : (j : Int) = 2) {e : Int} (he : opf 2 k a b c p q r = e) : Builtin.bitOr (Builtin.bitAnd a b) (Builtin.bitAnd (Builtin.bitNot a) c) = opv j a b c ∧ e = opf j k a b c p q r := by
  obtain rfl : j = 2 := by omega
  exact ⟨rfl, he.symm⟩
theorem due_5 (h : (j : Int) = 5) : Builtin.bitAnd a b = opv j a b c ∧ Builtin.bitXor (Builtin.bitAnd (Builtin.bitXor (bitK k a) p) (Builtin.bitXor (bitK k b) q)) (Builtin.bitAnd (bitK k a) (bitK k b)) = opf j k a b c p q r := by
  obtain rfl : j = 5 := by omega
  exact ⟨rfl, rfl⟩
theorem due_6 (h : (j : Int) = 6) : Builtin.bitOr a b = opv j a b c ∧ Builtin.bitXor (Builtin.bitOr (Builtin.bitXor (bitK k a) p) (Builtin.bitXor (bitK k b) q)) (Builtin.bitOr (bitK k a) (bitK k b)) = opf j k a b c p q r := by
  obtain rfl : j = 6 := by omega
  exact ⟨rfl, rfl⟩
theorem due_8 (h : (j : Int) = 8) : 2 * a + b = opv j a b c ∧ q = opf j k a b c p q r := by
  obtain rfl : j = 8 := by omega
  exact ⟨rfl, rfl⟩
theorem due_x (hj : j < 12) (e1 : (([0, 1, 9] : List Int).any fun x => x == (j : Int)) = false) (e2 : (([3, 4, 10] : List Int).any fun x => x == (j : Int)) = false) (n2 : (j : Int) ≠ 2) (n5 : (j : Int) ≠ 5) (n6 : (j : Int) ≠ 6) (n8 : (j : Int) ≠ 8) :
    Builtin.bitXor a b = opv j a b c ∧ Builtin.bitXor p q = opf j k a b c p q r := by
  have := x711 hj e1 e2 n2 n5 n6 n8
  rcases this with rfl | rfl <;> exact ⟨rfl, rfl⟩
end
theorem runPS (x k : Int) (c : Nat) (r : List Tk) : runP x k (.S c :: r) = (if c = 120 then (x, 1) else ((c : Int) - 110, 0)) :: runP x k r := rfl
theorem en2 {g h : Heap} {L PL : Addr} {cn : Nat} {a b : Addr × Obj} {qe : List En} {eb ea : En} {rest : Led} (N : News g L h (a :: (PL, W.listOf ((qe ++ [eb] ++ [ea]).map En.rf).toArray cn) :: b :: ((qe ++ [eb] ++ [ea]).map En.pr ++ rest))) :
    News g L h (ea.pr :: eb.pr :: a :: (PL, W.listOf (qe.map En.rf ++ [Value.ref eb.ad] ++ [Value.ref ea.ad]).toArray cn) :: b :: (qe.map En.pr ++ rest)) := fun p hp => by
  rw [List.map_append, List.map_append, List.map_append, List.map_append] at N
  refine N p ?_
  simp only [List.mem_cons, List.mem_append, List.map_cons, List.map_nil, List.not_mem_nil, or_false] at hp ⊢
  rcases hp with q | q | q | q | q | q | q <;> simp [q]
theorem en1 {g h : Heap} {L PL : Addr} {cn : Nat} {b : Addr × Obj} {e : En} {rest : Led} (N : News g L h ((PL, W.listOf ([e].map En.rf).toArray cn) :: b :: ([e].map En.pr ++ rest))) :
    News g L h ((PL, W.listOf #[Value.ref e.ad] cn) :: e.pr :: b :: rest) := fun p hp => N p (by
  simp only [List.mem_cons, List.mem_append, List.map_cons, List.map_nil, List.not_mem_nil, or_false] at hp ⊢
  rcases hp with q | q | q | q
  · exact .inl q
  · exact .inr (.inr (.inl q))
  · exact .inr (.inl q)
  · exact .inr (.inr (.inr q)))
noncomputable def OutPlain (x k : Int) (ts : List Tk) (rest : Led) (n : Led) (v : Value) : Prop :=
  ∀ G : Led → Value → Prop, (∀ D t u, (∀ p ∈ rest, @LT.lt Nat _ p.1 D) → G ((D, tup2 (.int ((runP x k ts).headD (0, 0)).1 t) (.int ((runP x k ts).headD (0, 0)).2 u)) :: rest) (.ref D)) → G n v
theorem OutPlain.el {x k : Int} {ts : List Tk} {rest : Led} (G : Led → Value → Prop) (T : ∀ D t u, (∀ p ∈ rest, @LT.lt Nat _ p.1 D) → G ((D, tup2 (.int ((runP x k ts).headD (0, 0)).1 t) (.int ((runP x k ts).headD (0, 0)).2 u)) :: rest) (.ref D)) (n : Led) (v : Value) (o : OutPlain x k ts rest n v) : G n v := o G T
theorem OutPlain.mk {x k : Int} {ts : List Tk} {rest : Led} {n9 : Led} {v9 : Value} (D : Addr) (t : Tok) (u : Tok) (hv : v9 = .ref D) (hn : n9 = (D, tup2 (.int ((runP x k ts).headD (0, 0)).1 t) (.int ((runP x k ts).headD (0, 0)).2 u)) :: rest) (h0 : ∀ p ∈ rest, @LT.lt Nat _ p.1 D) : OutPlain x k ts rest n9 v9 := by
  subst hv hn; exact fun G9 k9 => k9 D t u h0
theorem smallMul {f v : Int} (hf : B01 f) : IntMulOk f v := PySem.IntMulOk.of_left (intBits_le_iff.mpr (by rcases hf with rfl | rfl <;> decide))
theorem opt10 (z : Str) (h : [Str.ofString "a", Str.ofString "p", Str.ofString "b", Str.ofString "q", Str.ofString "c", Str.ofString "r", Str.ofString "i", Str.ofString "j", Str.ofString "m", Str.ofString "due"].contains z = false) : z ≠ Str.ofString "a" ∧ z ≠ Str.ofString "p" ∧ z ≠ Str.ofString "b" ∧ z ≠ Str.ofString "q" ∧ z ≠ Str.ofString "c" ∧ z ≠ Str.ofString "r" ∧ z ≠ Str.ofString "i" ∧ z ≠ Str.ofString "j" ∧ z ≠ Str.ofString "m" ∧ z ≠ Str.ofString "due" :=
  ⟨contains_ne h (by simp), contains_ne h (by simp), contains_ne h (by simp), contains_ne h (by simp), contains_ne h (by simp), contains_ne h (by simp), contains_ne h (by simp), contains_ne h (by simp), contains_ne h (by simp), contains_ne h (by simp)⟩
theorem rev_split1 {α β : Type} {f : α → β} {es : List α} {y : β} {s : List β} (h : (es.map f).reverse = y :: s) : ∃ qe ea, es = qe ++ [ea] ∧ f ea = y ∧ (qe.map f).reverse = s := by
  rw [← List.map_reverse] at h
  cases hr : es.reverse with
  | nil => rw [hr] at h; cases h
  | cons ea t =>
    rw [hr] at h
    obtain ⟨h1, h2⟩ := List.cons.inj h
    refine ⟨t.reverse, ea, ?_, h1, ?_⟩
    · rw [← List.reverse_reverse es, hr, List.reverse_cons]
    · rw [List.map_reverse, List.reverse_reverse]; exact h2
theorem en1q {g h : Heap} {L PL : Addr} {cn : Nat} {d d1 d2 a b : Addr × Obj} {qe : List En} {ec : En} {rest : Led} (N : News g L h (d :: d1 :: d2 :: a :: (PL, W.listOf ((qe ++ [ec]).map En.rf).toArray cn) :: b :: ((qe ++ [ec]).map En.pr ++ rest))) :
    News g L h (ec.pr :: a :: (PL, W.listOf (qe.map En.rf ++ [Value.ref ec.ad]).toArray cn) :: b :: (qe.map En.pr ++ rest)) := fun p hp => by
  rw [List.map_append, List.map_append] at N
  refine N p ?_
  simp only [List.mem_cons, List.mem_append, List.map_cons, List.map_nil, List.not_mem_nil, or_false] at hp ⊢
  rcases hp with q | q | q | q | q | q <;> simp [q]
theorem plain_el {x k : Int} {I : Nat} {m j : Nat} {td : List Tk} {es : List En} (hx0 : -(2 ^ 17) ≤ x) (hx1 : x < 2 ^ 17) (hWm : WF m (.J j :: td)) (hvf : (es.map En.vf).reverse = runP x k td) (hlen : td.length ≤ 8) (hpl : es.length ≤ td.length) (hes : ∀ e ∈ es, @LT.lt Nat _ I e.ad) {G : List En → Prop}
    (kk : ∀ qe eb ea, runP x k td = ea.vf :: eb.vf :: (qe.map En.vf).reverse → IntMulOk ea.v eb.v → B01 ea.f → B01 eb.f → qe.length + 2 ≤ td.length → (qe.map En.rf).toArray.size ≤ sizeLine → @LT.lt Nat _ I ea.ad → @LT.lt Nat _ I eb.ad → (∀ e ∈ qe, @LT.lt Nat _ I e.ad) → G (qe ++ [eb] ++ [ea])) : G es := by
  obtain ⟨m2, hW2⟩ := WF.tail (a := [.J j]) hWm
  have hbd := run_bnd (x := x) (by omega) hW2
  have h01 := runP01 x k td
  obtain ⟨y1, y2, ys, hq⟩ := pileP2 (x := x) (k := k) hWm
  rw [hq] at hvf
  obtain ⟨qe, eb, ea, rfl, e1, e2, hqe⟩ := rev_split2 hvf
  subst e1 e2 hqe
  rw [← runP_fst x k td, hq] at hbd
  rw [hq] at h01
  obtain ⟨la, ba1, ba2, lb, bb1, bb2, bq⟩ := hbd
  have hAi : Builtin.Int.intBits ea.v ≤ 154 := intBits_le_iff.mpr (ba2.bits (by omega))
  have hBi : Builtin.Int.intBits eb.v ≤ 154 := intBits_le_iff.mpr (bb2.bits (by omega))
  have hql : qe.length + 2 ≤ td.length := by simp at hpl; omega
  exact kk qe eb ea hq (PySem.IntMulOk.of_bits (Nat.le_trans hAi (by decide)) (Nat.le_trans hBi (by decide))) (h01 _ (.head _)) (h01 _ (.tail _ (.head _))) hql
    (by simp; exact Nat.le_trans (show qe.length ≤ 8 by omega) (by decide)) (hes _ (by simp)) (hes _ (by simp)) (fun e he => hes e (by simp [he]))
theorem plain_el3 {x k : Int} {I : Nat} {m j : Nat} {td : List Tk} {qe : List En} {ea eb : En} (hWm : WF m (.J j :: td)) (hj : j = 2 ∨ j = 3) (hq : runP x k td = ea.vf :: eb.vf :: (qe.map En.vf).reverse) (hlen : td.length ≤ 8) (hql : qe.length + 2 ≤ td.length) (hes : ∀ e ∈ qe, @LT.lt Nat _ I e.ad) {G : List En → Prop}
    (kk : ∀ qe' ec, runP x k (.J j :: td) = (opv j ea.v eb.v ec.v, opf j k ea.v eb.v ec.v ea.f eb.f ec.f) :: (qe'.map En.vf).reverse → (∀ e ∈ qe', @LT.lt Nat _ I e.ad) → @LT.lt Nat _ I ec.ad → qe'.length + 1 ≤ td.length → (qe'.map En.rf).toArray.size ≤ sizeLine → G (qe' ++ [ec])) : G qe := by
  obtain ⟨z1, z2, y3, ys', hq'⟩ := pileP3 (x := x) (k := k) hWm hj
  rw [hq] at hq'
  obtain ⟨qe', ec, rfl, rfl, hqe'⟩ := rev_split1 (List.cons.inj (List.cons.inj hq').2).2
  have hql' : qe'.length + 1 ≤ td.length := by simp at hql; omega
  refine kk qe' ec ?_ (fun e he => hes e (by simp [he])) (hes _ (by simp)) hql' (by simp; exact Nat.le_trans (show qe'.length ≤ 8 by simp at hql; omega) (by decide))
  have hq2 := hq
  rw [vf_snoc] at hq2
  exact runPJ3 hq2 hj
theorem plain_one {x k : Int} {td : List Tk} {es : List En} (hW : WF 1 td) (hvf : (es.map En.vf).reverse = runP x k td) : ∃ e : En, es = [e] ∧ (runP x k td).headD (0, 0) = (e.v, e.f) := by
  have hrl := runP_len (x := x) (k := k) hW
  obtain ⟨y, hra⟩ : ∃ y, runP x k td = [y] := by
    cases h1 : runP x k td with
    | nil => rw [h1] at hrl; cases hrl
    | cons a q => cases q with
      | nil => exact ⟨a, rfl⟩
      | cons _ _ => rw [h1] at hrl; simp at hrl
  rw [hra] at hvf
  obtain ⟨e, rfl, hey⟩ : ∃ e, es = [e] ∧ e.vf = y := by
    cases es with
    | nil => cases hvf
    | cons e q => cases q with
      | nil => exact ⟨e, rfl, by simpa using hvf⟩
      | cons _ _ => have := congrArg List.length hvf; simp at this
  exact ⟨e, rfl, by rw [hra, ← hey]; rfl⟩
theorem en_all {P : En → Prop} (h : ∀ a v t f u, P (En.mk a v t f u)) (c : En) : P c := h _ _ _ _ _
theorem d244 (w : World) (TL : Addr) (tvs : List Value) (ts : List Tk) (tn : Nat) (x k : Int) (tx tk0 : Tok) (rest : Led) (hT : TkAre tvs ts) (hW : WF 1 ts) (hl : ts.length ≤ 9) (hx0 : -(2 ^ 17) ≤ x) (hx1 : x < 2 ^ 17) (hk0 : 0 ≤ k) (hk1 : k < 10) :
    Cn w 244 3 200 [.ref TL, .int x tx, .int k tk0] ((TL, W.listOf tvs.toArray tn) :: rest) (OutPlain x k ts ((TL, W.listOf tvs.toArray tn) :: rest)) := by
  unfold Cn
  intro mg mb mean dp un gd cn cs ad ccd cl outer A₀ base h₀ L m s Q E B F X N T hk c1 c2 hd hu hret
  refine wpAny_call ?_
  k_dflt ktr_rel
  k_steps
  rename_i g' L' hA FG' B' X' T' l0' l1' PL hC lP hC2 I hF F2 N2 lI
  refine Halt.mk ?_
  refine' rev_loop (σ := List En × Nat) (ax := TL) (lo := W.listOf tvs.toArray tn) (vs := tvs) (n := tn) (fun c => (PL, W.listOf (c.1.map En.rf).toArray c.2) :: (TL, W.listOf tvs.toArray tn) :: (c.1.map En.pr ++ rest)) (fun c => []) [Str.ofString "a", Str.ofString "p", Str.ofString "b", Str.ofString "q", Str.ofString "c", Str.ofString "r", Str.ofString "i", Str.ofString "j", Str.ofString "m", Str.ofString "due"]
    (fun r c => ∃ Lr td, TkAre r Lr ∧ ts = Lr.reverse ++ td ∧ (∀ e ∈ c.1, @LT.lt Nat _ I e.ad) ∧ (c.1.map En.vf).reverse = runP x k td ∧ c.1.length ≤ td.length) ([], 0) ?hh F2 N2 ?lt ?hm rfl rfl ?hk ?hp ?turn ?done
  case hk => exact List.forall_mem_nil _
  case hh => rfl
  case lt => exact ⟨lI.1, lI.2.1, lI.2.2⟩
  case hm => exact .tail _ (.head _)
  case hp => exact ⟨ts.reverse, [], hT.reverse, by simp, (fun e h => nomatch h), rfl, by simp⟩
  case turn =>
    refine prod2 fun es cnt => ?_
    intro v r u it h tk hP hcl F3 N3
    dsimp only at F3 N3
    clear F2 N2
    refine any_NQE rfl fun A9 Q9 E9 g9 d9 o9 k9 hQ9 => ?_
    refine ex2and5 hP fun Lr td hr hts hes hvf hpl => ?_
    dsimp only at hes hvf hpl
    clear hP
    have hneP : ∀ p ∈ rest, @Ne Nat p.1 PL := fun p hp => Nat.ne_of_lt (allLt_mem lP.2 p hp)
    have hltI : ∀ p ∈ rest, @LT.lt Nat _ p.1 I := fun p hp => allLt_mem lI.2.2 p hp
    have hPT : @LT.lt Nat _ TL PL := lP.1
    have hPI : @LT.lt Nat _ PL I := lI.1
    have hTI : @LT.lt Nat _ TL I := lI.2.1
    have hopt : ∀ z : Str, [Str.ofString "a", Str.ofString "p", Str.ofString "b", Str.ofString "q", Str.ofString "c", Str.ofString "r", Str.ofString "i", Str.ofString "j", Str.ofString "m", Str.ofString "due"].contains z = false → z ≠ Str.ofString "a" ∧ z ≠ Str.ofString "p" ∧ z ≠ Str.ofString "b" ∧ z ≠ Str.ofString "q" ∧ z ≠ Str.ofString "c" ∧ z ≠ Str.ofString "r" ∧ z ≠ Str.ofString "i" ∧ z ≠ Str.ofString "j" ∧ z ≠ Str.ofString "m" ∧ z ≠ Str.ofString "due" := opt10
    revert F3
    apply TkAre.el hr
    case kS =>
      intro c tv Lr' hr' hLr F3
      have hX := tk_part hts hLr hW hl
      have hlen := hX.2.1
      have hts' := hX.2.2
      clear hX hr hts hLr
      have hpz : (es.map En.rf).toArray.size ≤ sizeLine := by simp; exact Nat.le_trans (show es.length ≤ 8 by omega) (by decide)
      have hneE : ∀ p ∈ es.map En.pr ++ rest, @Ne Nat p.1 PL := ne_en hPI hes hneP
      k_steps
      · rename_i hx Dn hh1 l1 hh2 kF kN
        have hc : c = 120 := ch120 hx
        have hD : @LT.lt Nat _ I Dn := l1.1
        refine hQ9 _ _ _ ?_
        k_steps
        refine Halt.mk ?_
        refine' unr_end (es ++ [En.mk Dn _ _ _ _], _) kF kN (by repeat (first | (with_reducible exact List.mem_cons_self ..) | (with_reducible refine List.mem_cons_of_mem _ ?_))) (sub_en ?s1 ?s2 (List.mem_cons_self ..) ?s4) (off_en hPI hTI (snoc_gt (e := En.mk Dn _ _ _ _) hes hD) hltI) (.tail _ (.head _)) (List.forall_mem_nil _) ?zb ?zp
        case s1 => repeat (first | (with_reducible exact List.mem_cons_self ..) | (with_reducible refine List.mem_cons_of_mem _ ?_))
        case s2 => repeat (first | (with_reducible exact List.mem_cons_self ..) | (with_reducible refine List.mem_cons_of_mem _ ?_))
        case s4 => (intro p hp; repeat (first | (with_reducible exact hp) | (with_reducible refine List.mem_cons_of_mem _ ?_)))
        case zb =>
          intro z z1 z2 z3
          refine and10 (hopt z z3) fun y0 y1 y2 y3 y4 y5 y6 y7 y8 y9 => ?_
          repeat (first | with_reducible refine (if_neg z1).trans ?_ | with_reducible refine (if_neg y0).trans ?_ | with_reducible refine (if_neg y1).trans ?_ | with_reducible refine (if_neg y2).trans ?_ | with_reducible refine (if_neg y3).trans ?_ | with_reducible refine (if_neg y4).trans ?_ | with_reducible refine (if_neg y5).trans ?_ | with_reducible refine (if_neg y6).trans ?_ | with_reducible refine (if_neg y7).trans ?_ | with_reducible refine (if_neg y8).trans ?_ | with_reducible refine (if_neg y9).trans ?_)
          exact if_neg (by rw [z3]; exact Bool.false_ne_true)
        case zp => exact ⟨Lr', .S c :: td, hr', hts', snoc_gt (e := En.mk Dn _ _ _ _) hes hD, by rw [vf_snoc, hvf, runPS, if_pos hc], by simp; omega⟩
      · rename_i hx Dn hh1 l1 hh2 kF kN
        have hc : c ≠ 120 := ch120n hx
        have hD : @LT.lt Nat _ I Dn := l1.1
        refine hQ9 _ _ _ ?_
        k_steps
        refine Halt.mk ?_
        refine' unr_end (es ++ [En.mk Dn _ _ _ _], _) kF kN (by repeat (first | (with_reducible exact List.mem_cons_self ..) | (with_reducible refine List.mem_cons_of_mem _ ?_))) (sub_en ?s1 ?s2 (List.mem_cons_self ..) ?s4) (off_en hPI hTI (snoc_gt (e := En.mk Dn _ _ _ _) hes hD) hltI) (.tail _ (.head _)) (List.forall_mem_nil _) ?zb ?zp
        case s1 => repeat (first | (with_reducible exact List.mem_cons_self ..) | (with_reducible refine List.mem_cons_of_mem _ ?_))
        case s2 => repeat (first | (with_reducible exact List.mem_cons_self ..) | (with_reducible refine List.mem_cons_of_mem _ ?_))
        case s4 => (intro p hp; repeat (first | (with_reducible exact hp) | (with_reducible refine List.mem_cons_of_mem _ ?_)))
        case zb =>
          intro z z1 z2 z3
          refine and10 (hopt z z3) fun y0 y1 y2 y3 y4 y5 y6 y7 y8 y9 => ?_
          repeat (first | with_reducible refine (if_neg z1).trans ?_ | with_reducible refine (if_neg y0).trans ?_ | with_reducible refine (if_neg y1).trans ?_ | with_reducible refine (if_neg y2).trans ?_ | with_reducible refine (if_neg y3).trans ?_ | with_reducible refine (if_neg y4).trans ?_ | with_reducible refine (if_neg y5).trans ?_ | with_reducible refine (if_neg y6).trans ?_ | with_reducible refine (if_neg y7).trans ?_ | with_reducible refine (if_neg y8).trans ?_ | with_reducible refine (if_neg y9).trans ?_)
          exact if_neg (by rw [z3]; exact Bool.false_ne_true)
        case zp => exact ⟨Lr', .S c :: td, hr', hts', snoc_gt (e := En.mk Dn _ _ _ _) hes hD, by rw [vf_snoc, hvf, runPS, if_neg hc], by simp; omega⟩
    case kJ =>
      intro j tv Lr' hr' hLr F3
      have hX := tk_part hts hLr hW hl
      have hlen := hX.2.1
      have hts' := hX.2.2
      refine Exists.elim hX.1 fun m hWm => ?_
      clear hX hr hts hLr
      have hj := WF.j12 hWm
      revert N3
      apply plain_el hx0 hx1 hWm hvf hlen hpl hes
      intro qe eb ea hq hmul fa fb hql hqz ha hb hqs
      intro N3
      have hm2 : IntMulOk ea.f eb.v := smallMul fa
      have hm3 : IntMulOk eb.f ea.v := smallMul fb
      have hm4 : IntMulOk ea.f eb.f := smallMul fa
      have hm5 : IntMulOk 2 ea.v := PySem.IntMulOk.of_left (by decide)
      have hneE : ∀ p ∈ qe.map En.pr ++ rest, @Ne Nat p.1 PL := ne_en hPI hqs hneP
      have N4 := en2 N3
      clear N3 hes hvf
      unfold En.pr at N4 hneE
      k_steps
      refine Halt.mk ?_
      try dsimp only
      with_reducible rename Fr _ _ _ _ => kF
      with_reducible rename News _ _ _ _ => kN
      refine cut_stmt2 (σ := List En × Nat × Int × Tok × Int × Tok) (fun c => (I, it) :: (PL, W.listOf (c.1.map En.rf).toArray c.2.1) :: (TL, W.listOf tvs.toArray tn) :: (c.1.map En.pr ++ rest))
        (fun c => [(Str.ofString "token", .int (j : Int) tv), (Str.ofString "pile", .ref PL), (Str.ofString "k", .int k tk0), (Str.ofString "a", .int ea.v ea.t), (Str.ofString "p", .int ea.f ea.u), (Str.ofString "b", .int eb.v eb.t), (Str.ofString "q", .int eb.f eb.u), (Str.ofString "c", .int c.2.2.1 c.2.2.2.1), (Str.ofString "r", .int c.2.2.2.2.1 c.2.2.2.2.2)])
        (Str.ofString "c") [] (fun c => (∀ e ∈ c.1, @LT.lt Nat _ I e.ad) ∧ runP x k (.J j :: td) = (opv j ea.v eb.v c.2.2.1, opf j k ea.v eb.v c.2.2.1 ea.f eb.f c.2.2.2.2.1) :: (c.1.map En.vf).reverse ∧ c.1.length + 1 ≤ td.length ∧ (¬(j = 2 ∨ j = 3) → c.2.2.1 = 0)) kF ?h1 ?h2
      case h1 =>
        intro t0 Q7 E7 hQ7
        by_cases hj3 : j = 2 ∨ j = 3
        · revert kN
          apply plain_el3 hWm hj3 hq hlen hql hqs
          intro qe' ec hR hqs' hc hql' hqz'
          intro kN
          have N5 := en1q kN
          have hneE' : ∀ p ∈ qe'.map En.pr ++ rest, @Ne Nat p.1 PL := ne_en hPI hqs' hneP
          clear kN hneE hqs hqz hmul fa fb hm2 hm3 hm4 hm5 hql hpl hq
          unfold En.pr at hneE'
          rcases hj3 with rfl | rfl
          all_goals
            k_steps
            all_goals first
              | (skip
                 with_reducible rename Fr _ _ _ _ => xF
                 with_reducible rename News _ _ _ _ => xN
                 exact hQ7 _ (CutR.mk' (qe', _, ec.v, ec.t, ec.f, ec.u) xF xN (fun p hp => .tail _ (.tail _ hp)) (List.forall_mem_cons.mpr ⟨by with_unfolding_all rfl, (List.forall_mem_cons.mpr ⟨by with_unfolding_all rfl, (List.forall_mem_cons.mpr ⟨by with_unfolding_all rfl, (List.forall_mem_cons.mpr ⟨by with_unfolding_all rfl, (List.forall_mem_cons.mpr ⟨by with_unfolding_all rfl, (List.forall_mem_cons.mpr ⟨by with_unfolding_all rfl, (List.forall_mem_cons.mpr ⟨by with_unfolding_all rfl, (List.forall_mem_cons.mpr ⟨by with_unfolding_all rfl, (List.forall_mem_cons.mpr ⟨by with_unfolding_all rfl, List.forall_mem_nil _⟩)⟩)⟩)⟩)⟩)⟩)⟩)⟩)⟩) (fun z z1 z2 _ => (if_neg (z2 _ (.tail _ (.tail _ (.tail _ (.tail _ (.tail _ (.tail _ (.tail _ (.tail _ (.head _))))))))))).trans (if_neg z1))
                   ⟨hqs', hR, hql', fun h => absurd (by decide) h⟩))
        · have hR := runPJ2 hq hj3
          clear hneE hmul fa fb hm2 hm3 hm4 hm5 hpl hq
          k_steps
          all_goals first
            | (exfalso; rename_i hc; simp at hc; omega)
            | (skip
               with_reducible rename Fr _ _ _ _ => xF
               with_reducible rename News _ _ _ _ => xN
               exact hQ7 _ (CutR.mk' (qe, _, 0, _, 0, _) xF xN (fun p hp => by repeat (first | (with_reducible exact hp) | (with_reducible refine List.mem_cons_of_mem _ ?_))) (List.forall_mem_cons.mpr ⟨by with_unfolding_all rfl, (List.forall_mem_cons.mpr ⟨by with_unfolding_all rfl, (List.forall_mem_cons.mpr ⟨by with_unfolding_all rfl, (List.forall_mem_cons.mpr ⟨by with_unfolding_all rfl, (List.forall_mem_cons.mpr ⟨by with_unfolding_all rfl, (List.forall_mem_cons.mpr ⟨by with_unfolding_all rfl, (List.forall_mem_cons.mpr ⟨by with_unfolding_all rfl, (List.forall_mem_cons.mpr ⟨by with_unfolding_all rfl, (List.forall_mem_cons.mpr ⟨by with_unfolding_all rfl, List.forall_mem_nil _⟩)⟩)⟩)⟩)⟩)⟩)⟩)⟩)⟩) (fun z z1 z2 _ => (if_neg (z2 _ (.tail _ (.tail _ (.tail _ (.tail _ (.tail _ (.tail _ (.tail _ (.tail _ (.head _))))))))))).trans (if_neg z1))
                 ⟨hqs, hR, Nat.le_of_succ_le hql, fun _ => rfl⟩))
      case h2 =>
        refine prod6 fun es cnt' cv tc rv tr => ?_
        intro r2 h2 tk2 hP2 hr2 F4 N4'
        refine and4 hP2 fun hes hR hle hc0 => ?_
        dsimp only at hes hR hle hc0 F4 N4'
        clear kF kN hneE hq hpl hqs hqz hP2
        have hneE : ∀ p ∈ es.map En.pr ++ rest, @Ne Nat p.1 PL := ne_en hPI hes hneP
        have hqz : (es.map En.rf).toArray.size ≤ sizeLine := by simp; exact Nat.le_trans (show es.length ≤ 8 by omega) (by decide)
        k_steps
        refine Halt.mk ?_
        try dsimp only
        with_reducible rename Fr _ _ _ _ => kF
        with_reducible rename News _ _ _ _ => kN
        refine cut_stmt2 (σ := En) (fun c => c.pr :: (I, it) :: (PL, W.listOf (es.map En.rf).toArray cnt') :: (TL, W.listOf tvs.toArray tn) :: (es.map En.pr ++ rest))
          (fun c => [(Str.ofString "pile", .ref PL), (Str.ofString "due", .ref c.ad)]) (Str.ofString "due") [] (fun c => c.v = opv j ea.v eb.v cv ∧ c.f = opf j k ea.v eb.v cv ea.f eb.f rv ∧ @LT.lt Nat _ I c.ad) kF ?h3 ?h4
        case h3 =>
          clear hneE hqz hr2 hR hle hes
          intro t0 Q7 E7 hQ7
          clear hQ9
          k_steps
          · rename_i c1 Dn _ ln _ xF xN
            have hd := due_a (k := k) (a := ea.v) (b := eb.v) (c := cv) (p := ea.f) (q := eb.f) (r := rv) c1
            exact hQ7 _ (CutR.mk' (En.mk Dn _ _ _ _) xF xN (List.forall_mem_cons.mpr ⟨List.mem_cons_self .., (fun p hp => by repeat (first | (with_reducible exact hp) | (with_reducible refine List.mem_cons_of_mem _ ?_)))⟩) (List.forall_mem_cons.mpr ⟨by with_unfolding_all rfl, List.forall_mem_cons.mpr ⟨by with_unfolding_all rfl, List.forall_mem_nil _⟩⟩) (fun z z1 _ _ => if_neg z1) ⟨hd.1, hd.2, by first | exact ln.1 | exact ln.2.1 | exact ln.2.2.1 | exact ln.2.2.2.1⟩)
          · rename_i c0 _ c1 Dn _ ln _ xF xN
            have hd := due_b (k := k) (a := ea.v) (b := eb.v) (c := cv) (p := ea.f) (q := eb.f) (r := rv) c0 c1
            exact hQ7 _ (CutR.mk' (En.mk Dn _ _ _ _) xF xN (List.forall_mem_cons.mpr ⟨List.mem_cons_self .., (fun p hp => by repeat (first | (with_reducible exact hp) | (with_reducible refine List.mem_cons_of_mem _ ?_)))⟩) (List.forall_mem_cons.mpr ⟨by with_unfolding_all rfl, List.forall_mem_cons.mpr ⟨by with_unfolding_all rfl, List.forall_mem_nil _⟩⟩) (fun z z1 _ _ => if_neg z1) ⟨hd.1, hd.2, by first | exact ln.1 | exact ln.2.1 | exact ln.2.2.1 | exact ln.2.2.2.1⟩)
          · rename_i c0 _ c1 Dn _ ln _ xF xN
            have hd := due_cd (k := k) (a := ea.v) (b := eb.v) (c := cv) (p := ea.f) (q := eb.f) (r := rv) c0 hc0 (if_pos c1)
            exact hQ7 _ (CutR.mk' (En.mk Dn _ _ _ _) xF xN (List.forall_mem_cons.mpr ⟨List.mem_cons_self .., (fun p hp => by repeat (first | (with_reducible exact hp) | (with_reducible refine List.mem_cons_of_mem _ ?_)))⟩) (List.forall_mem_cons.mpr ⟨by with_unfolding_all rfl, List.forall_mem_cons.mpr ⟨by with_unfolding_all rfl, List.forall_mem_nil _⟩⟩) (fun z z1 _ _ => if_neg z1) ⟨hd.1, hd.2, by first | exact ln.1 | exact ln.2.1 | exact ln.2.2.1 | exact ln.2.2.2.1⟩)
          · rename_i c0 _ c1 Dn _ ln _ xF xN
            have hd := due_cd (k := k) (a := ea.v) (b := eb.v) (c := cv) (p := ea.f) (q := eb.f) (r := rv) c0 hc0 (if_neg c1)
            exact hQ7 _ (CutR.mk' (En.mk Dn _ _ _ _) xF xN (List.forall_mem_cons.mpr ⟨List.mem_cons_self .., (fun p hp => by repeat (first | (with_reducible exact hp) | (with_reducible refine List.mem_cons_of_mem _ ?_)))⟩) (List.forall_mem_cons.mpr ⟨by with_unfolding_all rfl, List.forall_mem_cons.mpr ⟨by with_unfolding_all rfl, List.forall_mem_nil _⟩⟩) (fun z z1 _ _ => if_neg z1) ⟨hd.1, hd.2, by first | exact ln.1 | exact ln.2.1 | exact ln.2.2.1 | exact ln.2.2.2.1⟩)
          · rename_i cj _ c1 c2 Dn _ ln _ xF xN
            have hd := due_2 (k := k) (a := ea.v) (b := eb.v) (c := cv) (p := ea.f) (q := eb.f) (r := rv) cj (opf2a c1 c2)
            exact hQ7 _ (CutR.mk' (En.mk Dn _ _ _ _) xF xN (List.forall_mem_cons.mpr ⟨List.mem_cons_self .., (fun p hp => by repeat (first | (with_reducible exact hp) | (with_reducible refine List.mem_cons_of_mem _ ?_)))⟩) (List.forall_mem_cons.mpr ⟨by with_unfolding_all rfl, List.forall_mem_cons.mpr ⟨by with_unfolding_all rfl, List.forall_mem_nil _⟩⟩) (fun z z1 _ _ => if_neg z1) ⟨hd.1, hd.2, by first | exact ln.1 | exact ln.2.1 | exact ln.2.2.1 | exact ln.2.2.2.1⟩)
          · rename_i cj _ c1 c2 Dn _ ln _ xF xN
            have hd := due_2 (k := k) (a := ea.v) (b := eb.v) (c := cv) (p := ea.f) (q := eb.f) (r := rv) cj (opf2b c1 c2)
            exact hQ7 _ (CutR.mk' (En.mk Dn _ _ _ _) xF xN (List.forall_mem_cons.mpr ⟨List.mem_cons_self .., (fun p hp => by repeat (first | (with_reducible exact hp) | (with_reducible refine List.mem_cons_of_mem _ ?_)))⟩) (List.forall_mem_cons.mpr ⟨by with_unfolding_all rfl, List.forall_mem_cons.mpr ⟨by with_unfolding_all rfl, List.forall_mem_nil _⟩⟩) (fun z z1 _ _ => if_neg z1) ⟨hd.1, hd.2, by first | exact ln.1 | exact ln.2.1 | exact ln.2.2.1 | exact ln.2.2.2.1⟩)
          · rename_i cj _ c1 c2 Dn _ ln _ xF xN
            have hd := due_2 (k := k) (a := ea.v) (b := eb.v) (c := cv) (p := ea.f) (q := eb.f) (r := rv) cj (opf2c c1 c2)
            exact hQ7 _ (CutR.mk' (En.mk Dn _ _ _ _) xF xN (List.forall_mem_cons.mpr ⟨List.mem_cons_self .., (fun p hp => by repeat (first | (with_reducible exact hp) | (with_reducible refine List.mem_cons_of_mem _ ?_)))⟩) (List.forall_mem_cons.mpr ⟨by with_unfolding_all rfl, List.forall_mem_cons.mpr ⟨by with_unfolding_all rfl, List.forall_mem_nil _⟩⟩) (fun z z1 _ _ => if_neg z1) ⟨hd.1, hd.2, by first | exact ln.1 | exact ln.2.1 | exact ln.2.2.1 | exact ln.2.2.2.1⟩)
          · rename_i cj _ c1 c2 Dn _ ln _ xF xN
            have hd := due_2 (k := k) (a := ea.v) (b := eb.v) (c := cv) (p := ea.f) (q := eb.f) (r := rv) cj (opf2d c1 c2)
            exact hQ7 _ (CutR.mk' (En.mk Dn _ _ _ _) xF xN (List.forall_mem_cons.mpr ⟨List.mem_cons_self .., (fun p hp => by repeat (first | (with_reducible exact hp) | (with_reducible refine List.mem_cons_of_mem _ ?_)))⟩) (List.forall_mem_cons.mpr ⟨by with_unfolding_all rfl, List.forall_mem_cons.mpr ⟨by with_unfolding_all rfl, List.forall_mem_nil _⟩⟩) (fun z z1 _ _ => if_neg z1) ⟨hd.1, hd.2, by first | exact ln.1 | exact ln.2.1 | exact ln.2.2.1 | exact ln.2.2.2.1⟩)
          · rename_i c1 _ Dn _ ln _ xF xN
            have hd := due_5 (k := k) (a := ea.v) (b := eb.v) (c := cv) (p := ea.f) (q := eb.f) (r := rv) c1
            exact hQ7 _ (CutR.mk' (En.mk Dn _ _ _ _) xF xN (List.forall_mem_cons.mpr ⟨List.mem_cons_self .., (fun p hp => by repeat (first | (with_reducible exact hp) | (with_reducible refine List.mem_cons_of_mem _ ?_)))⟩) (List.forall_mem_cons.mpr ⟨by with_unfolding_all rfl, List.forall_mem_cons.mpr ⟨by with_unfolding_all rfl, List.forall_mem_nil _⟩⟩) (fun z z1 _ _ => if_neg z1) ⟨hd.1, hd.2, by first | exact ln.1 | exact ln.2.1 | exact ln.2.2.1 | exact ln.2.2.2.1⟩)
          · rename_i c1 _ Dn _ ln _ xF xN
            have hd := due_6 (k := k) (a := ea.v) (b := eb.v) (c := cv) (p := ea.f) (q := eb.f) (r := rv) c1
            exact hQ7 _ (CutR.mk' (En.mk Dn _ _ _ _) xF xN (List.forall_mem_cons.mpr ⟨List.mem_cons_self .., (fun p hp => by repeat (first | (with_reducible exact hp) | (with_reducible refine List.mem_cons_of_mem _ ?_)))⟩) (List.forall_mem_cons.mpr ⟨by with_unfolding_all rfl, List.forall_mem_cons.mpr ⟨by with_unfolding_all rfl, List.forall_mem_nil _⟩⟩) (fun z z1 _ _ => if_neg z1) ⟨hd.1, hd.2, by first | exact ln.1 | exact ln.2.1 | exact ln.2.2.1 | exact ln.2.2.2.1⟩)
          · rename_i c1 Dn _ ln _ xF xN
            have hd := due_8 (k := k) (a := ea.v) (b := eb.v) (c := cv) (p := ea.f) (q := eb.f) (r := rv) c1
            exact hQ7 _ (CutR.mk' (En.mk Dn _ _ _ _) xF xN (List.forall_mem_cons.mpr ⟨List.mem_cons_self .., (fun p hp => by repeat (first | (with_reducible exact hp) | (with_reducible refine List.mem_cons_of_mem _ ?_)))⟩) (List.forall_mem_cons.mpr ⟨by with_unfolding_all rfl, List.forall_mem_cons.mpr ⟨by with_unfolding_all rfl, List.forall_mem_nil _⟩⟩) (fun z z1 _ _ => if_neg z1) ⟨hd.1, hd.2, by first | exact ln.1 | exact ln.2.1 | exact ln.2.2.1 | exact ln.2.2.2.1⟩)
          · rename_i e1 _ _ _ _ e2 _ n2 _ n5 _ n6 _ n8 Dn _ ln _ xF xN
            have hd := due_x (k := k) (a := ea.v) (b := eb.v) (c := cv) (p := ea.f) (q := eb.f) (r := rv) hj e1 e2 n2 n5 n6 n8
            exact hQ7 _ (CutR.mk' (En.mk Dn _ _ _ _) xF xN (List.forall_mem_cons.mpr ⟨List.mem_cons_self .., (fun p hp => by repeat (first | (with_reducible exact hp) | (with_reducible refine List.mem_cons_of_mem _ ?_)))⟩) (List.forall_mem_cons.mpr ⟨by with_unfolding_all rfl, List.forall_mem_cons.mpr ⟨by with_unfolding_all rfl, List.forall_mem_nil _⟩⟩) (fun z z1 _ _ => if_neg z1) ⟨hd.1, hd.2, by first | exact ln.1 | exact ln.2.1 | exact ln.2.2.1 | exact ln.2.2.2.1⟩)
        case h4 =>
          refine en_all fun D5 v5 t5 f5 u5 => ?_
          intro r5 h5 tk5 hP5 hr5 F5 N5
          dsimp only at hP5 F5 N5
          rw [hP5.1, hP5.2.1] at N5
          have hD := hP5.2.2
          clear kF kN
          k_steps
          with_reducible rename Fr _ _ _ _ => kF
          with_reducible rename News _ _ _ _ => kN
          refine hQ9 _ _ _ ?_
          k_steps
          refine Halt.mk ?_
          refine' unr_end (es ++ [En.mk D5 _ _ _ _], _) kF kN (by repeat (first | (with_reducible exact List.mem_cons_self ..) | (with_reducible refine List.mem_cons_of_mem _ ?_))) (sub_en ?s1 ?s2 (List.mem_cons_self ..) ?s4) (off_en hPI hTI (snoc_gt (e := En.mk D5 _ _ _ _) hes hD) hltI) (.tail _ (.head _)) (List.forall_mem_nil _) ?zb ?zp
          case s1 => repeat (first | (with_reducible exact List.mem_cons_self ..) | (with_reducible refine List.mem_cons_of_mem _ ?_))
          case s2 => repeat (first | (with_reducible exact List.mem_cons_self ..) | (with_reducible refine List.mem_cons_of_mem _ ?_))
          case s4 => (intro p hp; repeat (first | (with_reducible exact hp) | (with_reducible refine List.mem_cons_of_mem _ ?_)))
          case zb =>
            intro z z1 z2 z3
            refine and10 (hopt z z3) fun y0 y1 y2 y3 y4 y5 y6 y7 y8 y9 => ?_
            by_cases zp : z = Str.ofString "pile"
            · subst zp
              with_unfolding_all rfl
            · refine (if_neg zp).trans ((if_neg y9).trans ((hr5 z y9 (List.forall_mem_cons.mpr ⟨zp, List.forall_mem_cons.mpr ⟨y9, List.forall_mem_nil _⟩⟩) rfl).trans ((if_neg y6).trans ((if_neg y7).trans ((if_neg y8).trans ?_)))))
              by_cases zk : z = Str.ofString "k"
              · subst zk
                with_unfolding_all rfl
              · exact (if_neg z1).trans ((if_neg zp).trans ((if_neg zk).trans ((if_neg y0).trans ((if_neg y1).trans ((if_neg y2).trans ((if_neg y3).trans ((if_neg y4).trans ((if_neg y5).trans ((hr2 z y4 (List.forall_mem_cons.mpr ⟨z1, (List.forall_mem_cons.mpr ⟨zp, (List.forall_mem_cons.mpr ⟨zk, (List.forall_mem_cons.mpr ⟨y0, (List.forall_mem_cons.mpr ⟨y1, (List.forall_mem_cons.mpr ⟨y2, (List.forall_mem_cons.mpr ⟨y3, (List.forall_mem_cons.mpr ⟨y4, (List.forall_mem_cons.mpr ⟨y5, List.forall_mem_nil _⟩)⟩)⟩)⟩)⟩)⟩)⟩)⟩)⟩) rfl).trans ((if_neg y3).trans ((if_neg y2).trans ((if_neg y1).trans ((if_neg y0).trans ((if_neg z1).trans (if_neg (by rw [z3]; exact Bool.false_ne_true))))))))))))))))
          case zp => exact ⟨Lr', .J j :: td, hr', hts', snoc_gt (e := En.mk D5 _ _ _ _) hes hD, by rw [vf_snoc]; exact hR.symm, by simp; omega⟩
  case done =>
    refine prod2 fun es cnt => ?_
    intro u h tk hP F3 N3
    dsimp only at F3 N3
    refine ex2and5 hP fun Lr td hr hts hes hvf hpl => ?_
    clear hP
    have hts' : ts = td := by cases hr; exact hts
    subst hts'
    revert N3
    refine ex1and2 (plain_one hW hvf) fun e he hra => ?_
    dsimp only at he hes
    rw [he] at hes ⊢
    intro N3
    have N4 := en1 N3
    clear N3
    unfold En.pr at N4
    have heI : @LT.lt Nat _ I e.ad := hes e (.head _)
    k_steps
    rename_i kF kN _ _
    refine cn_end hret kF (news' := e.pr :: (TL, W.listOf tvs.toArray tn) :: rest) (fun p hp => kN p (.tail _ hp)) (OutPlain.mk e.ad e.t e.u rfl ?_ ?_)
    · rw [hra]
    · intro p hp
      rcases List.mem_cons.mp hp with rfl | hp
      · exact Nat.lt_trans lI.2.1 heI
      · exact Nat.lt_trans (allLt_mem lI.2.2 p hp) heI

end
section
set_option maxRecDepth 100000
set_option maxHeartbeats 8000000
noncomputable def Tk.dat : Tk → Dat
  | .J n => .int (n : Int)
  | .S c => .str (ch c)
theorem tk_dat {vs : List Value} {ts : List Tk} (h : TkAre vs ts) : DatAll [] vs (ts.map Tk.dat) := by
  induction h with
  | nil => exact .nil
  | @cons v a vs as hv _ ih =>
    refine .cons ?_ ih
    cases a with
    | J n => obtain ⟨t, rfl⟩ := hv; exact .int _ t
    | S c => obtain ⟨t, rfl⟩ := hv; exact .str _ t
theorem tk_ok {ts : List Tk} (h : ∀ c, Tk.S c ∈ ts → okS c) : ∀ d ∈ ts.map Tk.dat, kqdOk 8 d = true := by
  intro d hd
  obtain ⟨a, ha, rfl⟩ := List.mem_map.mp hd
  cases a with
  | J n => rfl
  | S c =>
    have hc := h c ha
    show PyData.strOk (ch c) = true
    have hb : c < 1114112 := by
      rcases hc with ⟨h1, h2⟩ | hc
      · omega
      · simp [oddL] at hc
        omega
    simp [PyData.strOk, hb]
theorem ne_toks {prog : Program} {w : World} {A : Around} {E : Value → Shared → Prop} {s : Shared} {h₀ : Heap} {L a b : Addr} {news : Led} {xs ys : List Value} {ka kb : Nat} {ts : List Tk} {Q : Value → Shared → Prop}
    (N : News h₀ L s.heap news) (ma : (a, W.listOf xs.toArray ka) ∈ news) (mb : (b, W.listOf ys.toArray kb) ∈ news) (hx : TkAre xs ts) (hy : TkAre ys ts) (hok : ∀ c, Tk.S c ∈ ts → okS c) (hu : A.units + 64 < cLine) (h : Q (.bool false) s) :
    wpAny (model prog w) A (compareOp .NotEq (.ref a) (.ref b)) Q E s := by
  refine kqd_ne N ma rfl rfl (tk_dat hx) (fun p hp => nomatch hp) mb rfl rfl (tk_dat hy) (fun p hp => nomatch hp) (tk_ok hok) (tk_ok hok) hu ?_
  simpa using h

end
section
set_option maxHeartbeats 2000000
set_option maxRecDepth 100000
open LCg
section
variable {prog : Program} {w : World} {A : Around} {E : Value → Shared → Prop} {R : Result → Shared → Prop} {s : Shared} {env : Env}
/-- a list comprehension with two plain clauses -/
noncomputable abbrev two (elt i1 i2 : Expr) (x y : Str) (px py : Pos) (sc : Scope) (pos : Pos) : Expr := .ListComp elt [⟨.Name x px, i1, [], 0⟩, ⟨.Name y py, i2, [], 0⟩] sc pos
variable {elt i1 i2 : Expr} {x y : Str} {px py : Pos} {sc : Scope} {pos : Pos} {it acc : Value}
theorem two_start1 (h0 : codeAny (model prog w) A (.compLoop (two elt i1 i2 x y px py sc pos) 1 it acc env) R s)
    (h : wpAny (model prog w) A (pyIter it) (fun it' s' => codeAny (model prog w) A (.compLoop (two elt i1 i2 x y px py sc pos) 1 it' acc env) R s') (notedBy (model prog w) A env fun x s' => R (.error x) s') s) :
    codeAny (model prog w) A (.compStart (two elt i1 i2 x y px py sc pos) 1 it acc env) R s := by
  refine codeAny_of_tree ?_
  show wpAny _ _ ((compStart (two elt i1 i2 x y px py sc pos) 1 it acc env).onRaise (fun x => do noteFrame x env; standAt theWindowsPlace)) _ _ s
  refine wpAny_notedAt ?_
  unfold compStart
  show wpAny _ _ (ask >>= _) _ _ s
  refine wpAny_bind (wpAny_askSetting (wpAny_ite ?_))
  split
  · first
      | exact wpAny_bind (wpAny_pure (wpAny_pure (And.intro rfl h0)))
      | exact wpAny_pure (And.intro rfl h0)
  · refine wpAny_bind (wpAny_rule ?_)
    show wpAny _ _ (standAt i2.pos >>= _) _ _ s
    exact wpAny_bind (wpAny_standAt (wpAny_bind (wpAny_mono h (fun it' s' h' => wpAny_pure (And.intro rfl h')) fun _ _ x => x)))
theorem two_turn1 : compTurn (two elt i1 i2 x y px py sc pos) 1 it acc env = (standAt i2.pos >>= fun _ => pyNext it >>= fun r => match r with
      | none => pure (.done .next)
      | some v => letOwnedTupleGo (.Name y py) it v >>= fun _ => assign (.Name y py) env v >>= fun _ =>
        (eval elt env >>= fun x => call (.builtin "list.append") [acc, x] >>= fun _ => pure ()) >>= fun _ =>
          again (.compLoop (two elt i1 i2 x y px py sc pos) 1 it acc env)) := by rfl
theorem two_loop1 (I : Nat → Shared → Prop)
    (turn : ∀ n s, I n s → wpAny (model prog w) A (pyNext it) (fun r s₁ => match r with
      | none => R (.ok .next) s₁
      | some v => wpAny (model prog w) A (assign (.Name y py) env v) (fun _ s₂ => wpAny (model prog w) A (eval elt env) (fun x s₃ =>
          wpAny (model prog w) A (call (.builtin "list.append") [acc, x]) (fun _ s₄ => ∃ m, m < n ∧ I m s₄) (notedBy (model prog w) A env fun e s' => R (.error e) s') s₃)
          (notedBy (model prog w) A env fun e s' => R (.error e) s') s₂) (notedBy (model prog w) A env fun e s' => R (.error e) s') s₁) (notedBy (model prog w) A env fun e s' => R (.error e) s') s)
    (n : Nat) (h : I n s) : codeAny (model prog w) A (.compLoop (two elt i1 i2 x y px py sc pos) 1 it acc env) R s := by
  refine codeAny_loop rfl I (fun n s hI => ?_) n h
  show wpAny _ A ((compTurn (two elt i1 i2 x y px py sc pos) 1 it acc env).onRaise (fun x => do noteFrame x env; theTreesLotGoes x)) _ _ s
  refine wpAny_noted ?_
  rw [two_turn1]
  refine wpAny_bind (wpAny_standAt (wpAny_bind (wpAny_mono (turn n s hI) (fun r s₁ h₁ => ?_) fun _ _ h' => h')))
  cases r with
  | none => exact wpAny_pure h₁
  | some v =>
    refine wpAny_bind (wpAny_of_eq (by rfl) ?_)
    exact wpAny_bind (wpAny_mono h₁ (fun _ s₂ h₂ => wpAny_bind (wpAny_bind (wpAny_mono h₂ (fun x s₃ h₃ => wpAny_bind (wpAny_mono h₃
      (fun _ s₄ h₄ => wpAny_pure (wpAny_pure ⟨rfl, h₄⟩)) fun _ _ h' => h')) fun _ _ h' => h'))) fun _ _ h' => h')
theorem two_turn0 : compTurn (two elt i1 i2 x y px py sc pos) 0 it acc env = (standAt i1.pos >>= fun _ => pyNext it >>= fun r => match r with
      | none => pure (.done .next)
      | some v => letOwnedTupleGo (.Name x px) it v >>= fun _ => assign (.Name x px) env v >>= fun _ =>
        (eval i2 env >>= fun xv => standAt i2.pos >>= fun _ => foldedSetIterable i2 env xv >>= fun xv => holding [xv] (pyIter xv) >>= fun it2 => runOwn (.compStart (two elt i1 i2 x y px py sc pos) 1 it2 acc env) env >>= fun _ =>
          again (.compLoop (two elt i1 i2 x y px py sc pos) 0 it acc env))) := by rfl
theorem two_loop0 (I : Nat → Shared → Prop) (hs : ∀ v, foldedSetIterable i2 env v = pure v)
    (turn : ∀ n s, I n s → wpAny (model prog w) A (pyNext it) (fun r s₁ => match r with
      | none => R (.ok .next) s₁
      | some v => wpAny (model prog w) A (assign (.Name x px) env v) (fun _ s₂ => wpAny (model prog w) A (eval i2 env) (fun xv s₃ =>
          wpAny (model prog w) A (pyIter xv) (fun it2 s₄ => codeAny (model prog w) A (.compStart (two elt i1 i2 x y px py sc pos) 1 it2 acc env)
            (fun r s' => match r with | .ok _ => ∃ m, m < n ∧ I m s' | .error e => cameBackBy (model prog w) A env (notedBy (model prog w) A env fun e s' => R (.error e) s') e s') s₄) (notedBy (model prog w) A env fun e s' => R (.error e) s') s₃)
          (notedBy (model prog w) A env fun e s' => R (.error e) s') s₂) (notedBy (model prog w) A env fun e s' => R (.error e) s') s₁) (notedBy (model prog w) A env fun e s' => R (.error e) s') s)
    (n : Nat) (h : I n s) : codeAny (model prog w) A (.compLoop (two elt i1 i2 x y px py sc pos) 0 it acc env) R s := by
  refine codeAny_loop rfl I (fun n s hI => ?_) n h
  show wpAny _ A ((compTurn (two elt i1 i2 x y px py sc pos) 0 it acc env).onRaise (fun x => do noteFrame x env; theTreesLotGoes x)) _ _ s
  refine wpAny_noted ?_
  rw [two_turn0]
  refine wpAny_bind (wpAny_standAt (wpAny_bind (wpAny_mono (turn n s hI) (fun r s₁ h₁ => ?_) fun _ _ h' => h')))
  cases r with
  | none => exact wpAny_pure h₁
  | some v =>
    refine wpAny_bind (wpAny_of_eq (by rfl) ?_)
    refine wpAny_bind (wpAny_mono h₁ (fun _ s₂ h₂ => wpAny_bind (wpAny_mono h₂ (fun xv s₃ h₃ => wpAny_bind (wpAny_standAt (wpAny_bind (wpAny_of_eq (hs xv) (wpAny_bind (wpAny_holding (wpAny_mono h₃ (fun it2 s₄ h₄ => ?_) fun _ _ h' => h')))))))
      fun _ _ h' => h')) fun _ _ h' => h')
    refine wpAny_bind (wpAny_runOwn (codeAny_mono h₄ fun r s' hr => ?_))
    cases r with
    | ok f => exact wpAny_pure ⟨rfl, hr⟩
    | error e => exact hr
end

end
section
set_option maxHeartbeats 2000000
set_option maxRecDepth 100000
open LCg
noncomputable abbrev rit (a n : Int) : Obj := { cls := .type "range_iterator", dict := none, data := .fields #[rawInt a, rawInt n, rawInt 1], slots := #[] }
theorem news_upd {h₀ h h' : Heap} {L a : Addr} {o o' : Obj} {l : List (Addr × Obj)} (N : News h₀ L h ((a, o) :: l)) (k : ∀ b x, b ≠ a → h.get? b = some x → h'.get? b = some x) (e : h'.get? a = some o') (d : ∀ p ∈ l, p.1 ≠ a) : News h₀ L h' ((a, o') :: l) := by
  intro p hp
  rcases List.mem_cons.mp hp with rfl | hp
  · exact ⟨e, (N _ List.mem_cons_self).2⟩
  · have z := N p (List.mem_cons_of_mem _ hp)
    exact ⟨k _ _ (d p hp) z.1, z.2⟩
theorem fr_upd {h₀ h h' : Heap} {L a : Addr} {m : Str → Option Value} (F : Fr h₀ L h m) (k : ∀ b x, b ≠ a → h.get? b = some x → h'.get? b = some x) (hL : L ≠ a) (h0 : h₀.get? a = none) : Fr h₀ L h' m :=
  ⟨F.ns.at' fun o e => k L o hL e, fun b o e => k b o (fun q => by rw [q, h0] at e; cases e) (F.keep b o e), F.above⟩
theorem all1 {P : Addr × Obj → Prop} {a : Addr × Obj} {l : List (Addr × Obj)} (h : P a) (r : ∀ p ∈ l, P p) : ∀ p ∈ a :: l, P p := fun p hp => by
  rcases List.mem_cons.mp hp with rfl | hp
  · exact h
  · exact r p hp
theorem sw {α : Type} {P : α → Prop} {a b : α} {l : List α} (h : ∀ p ∈ a :: b :: l, P p) : ∀ p ∈ b :: a :: l, P p := fun p hp => h p (by
  simp only [List.mem_cons] at hp ⊢
  rcases hp with q | q | q
  · exact .inr (.inl q)
  · exact .inl q
  · exact .inr (.inr q))
theorem rot3 {α : Type} {P : α → Prop} {a b c : α} {l : List α} (h : ∀ p ∈ a :: b :: c :: l, P p) : ∀ p ∈ c :: a :: b :: l, P p := fun p hp => h p (by
  simp only [List.mem_cons] at hp ⊢
  rcases hp with q | q | q | q
  · exact .inr (.inr (.inl q))
  · exact .inl q
  · exact .inr (.inl q)
  · exact .inr (.inr (.inr q)))
theorem tor3 {α : Type} {P : α → Prop} {a b c : α} {l : List α} (h : ∀ p ∈ c :: a :: b :: l, P p) : ∀ p ∈ a :: b :: c :: l, P p := fun p hp => h p (by
  simp only [List.mem_cons] at hp ⊢
  rcases hp with q | q | q | q
  · exact .inr (.inl q)
  · exact .inr (.inr (.inl q))
  · exact .inl q
  · exact .inr (.inr (.inr q)))
theorem rot4 {α : Type} {P : α → Prop} {a b c d : α} {l : List α} (h : ∀ p ∈ a :: b :: c :: d :: l, P p) : ∀ p ∈ d :: a :: b :: c :: l, P p := fun p hp => h p (by
  simp only [List.mem_cons] at hp ⊢
  rcases hp with q | q | q | q | q
  · exact .inr (.inr (.inr (.inl q)))
  · exact .inl q
  · exact .inr (.inl q)
  · exact .inr (.inr (.inl q))
  · exact .inr (.inr (.inr (.inr q))))
theorem tor4 {α : Type} {P : α → Prop} {a b c d : α} {l : List α} (h : ∀ p ∈ d :: a :: b :: c :: l, P p) : ∀ p ∈ a :: b :: c :: d :: l, P p := fun p hp => h p (by
  simp only [List.mem_cons] at hp ⊢
  rcases hp with q | q | q | q | q
  · exact .inr (.inl q)
  · exact .inr (.inr (.inl q))
  · exact .inr (.inr (.inr (.inl q)))
  · exact .inl q
  · exact .inr (.inr (.inr (.inr q))))
theorem ndp {h₀ h : Heap} {L : Addr} {a : Addr × Obj} {l : List (Addr × Obj)} (N : News h₀ L h (a :: l)) : News h₀ L h l := fun p hp => N p (List.mem_cons_of_mem _ hp)
section
variable {prog : Program} {w : World} {A : Around} {E : Value → Shared → Prop} {s : Shared} {env : Env} {h₀ : Heap} {L : Addr} {m : Str → Option Value}
variable {elt i1 i2 : Expr} {x y : Str} {px py : Pos} {sc : Scope} {pos : Pos} {cl : List (Str × Addr)}
noncomputable abbrev SrcP (h₀ : Heap) (L : Addr) (m : Str → Option Value) (s : Shared) (c : Nat) (nw : List (Addr × Obj)) (v : Value) (s₂ : Shared) : Prop := ∃ r h' tk' ta tb tc, v = .ref r ∧ s₂ = { s with heap := h', toks := tk' } ∧ IsRange h' r 0 (c : Int) 1 ta tb tc ∧ Fr h₀ L h' m ∧ News h₀ L h' nw
theorem SrcP.el {h₀ : Heap} {L : Addr} {m : Str → Option Value} {s : Shared} {c : Nat} {nw : List (Addr × Obj)} {v : Value} {s₂ : Shared} {G : Value → Shared → Prop} (h : SrcP h₀ L m s c nw v s₂) (kk : ∀ r h' tk' ta tb tc, IsRange h' r 0 (c : Int) 1 ta tb tc → Fr h₀ L h' m → News h₀ L h' nw → G (.ref r) { s with heap := h', toks := tk' }) : G v s₂ := by
  obtain ⟨r, h', tk', ta, tb, tc, rfl, rfl, h1, h2, h3⟩ := h; exact kk r h' tk' ta tb tc h1 h2 h3
noncomputable abbrev ElP (h₀ : Heap) (L : Addr) (m : Str → Option Value) (s : Shared) (I : Value → Prop) (nw : List (Addr × Obj)) (v : Value) (s₂ : Shared) : Prop := ∃ h' tk', s₂ = { s with heap := h', toks := tk' } ∧ I v ∧ Fr h₀ L h' m ∧ News h₀ L h' nw
theorem ElP.el {h₀ : Heap} {L : Addr} {m : Str → Option Value} {s : Shared} {I : Value → Prop} {nw : List (Addr × Obj)} {v : Value} {s₂ : Shared} {G : Shared → Prop} (h : ElP h₀ L m s I nw v s₂) (kk : ∀ h' tk', I v → Fr h₀ L h' m → News h₀ L h' nw → G { s with heap := h', toks := tk' }) : G s₂ := by
  obtain ⟨h', tk', rfl, h1, h2, h3⟩ := h; exact kk h' tk' h1 h2 h3
/-- what a turn of the outer clause asks of the inner iterable, and a turn of the inner clause of the element -/
structure TwoHyp (prog : Program) (w : World) (A : Around) (h₀ : Heap) (L : Addr) (m : Str → Option Value) (elt i2 : Expr) (x y : Str) (sc : Scope) (cl : List (Str × Addr)) (env : Env) (news : List (Addr × Obj)) (n : Nat) (cnt : Nat → Nat) (Inv : Nat → Nat → List Value → Prop) (s : Shared) : Prop where
  src : ∀ i t I1 o1 C oC D oD m₂ h tk (E' : Value → Shared → Prop), i < n → NsObj oC m₂ → m₂ x = some (.int (i : Int) t) → Fr h₀ L h m → News h₀ L h ((I1, o1) :: (C, oC) :: (D, oD) :: news) →
    wpAny (model prog w) A (eval i2 (compEnvC sc cl C env)) (SrcP h₀ L m s (cnt i) ((I1, o1) :: (C, oC) :: (D, oD) :: news)) E' { s with heap := h, toks := tk }
  elt : ∀ i j ys tx ty I1 o1 I2 o2 C oC D m₂ h tk (E' : Value → Shared → Prop), i < n → j < cnt i → Inv i j ys → NsObj oC m₂ → m₂ x = some (.int (i : Int) tx) → m₂ y = some (.int (j : Int) ty) → Fr h₀ L h m →
    News h₀ L h ((I2, o2) :: (I1, o1) :: (C, oC) :: (D, lst ys) :: news) →
    wpAny (model prog w) A (eval elt (compEnvC sc cl C env)) (ElP h₀ L m s (fun v => Inv i (j + 1) (ys ++ [v])) ((I2, o2) :: (I1, o1) :: (C, oC) :: (D, lst ys) :: news)) E' { s with heap := h, toks := tk }
  next : ∀ i ys, i < n → Inv i (cnt i) ys → Inv (i + 1) 0 ys
  size : ∀ i j ys, Inv i j ys → ys.length ≤ sizeLine
  small : ∀ i, i < n → Builtin.Range.small 0 (cnt i : Int) 1 = true ∧ Builtin.Range.rangeSize 0 (cnt i : Int) 1 = (cnt i : Int)
noncomputable abbrev St1 (h₀ : Heap) (L : Addr) (m : Str → Option Value) (s : Shared) (n : Nat) (Inv : Nat → Nat → List Value → Prop) (news : List (Addr × Obj)) (I C D : Addr) (k : Nat) (s' : Shared) : Prop :=
  ∃ h' tk i ys m' oC, s' = { s with heap := h', toks := tk } ∧ i ≤ n ∧ k = n + 1 - i ∧ Inv i 0 ys ∧ Fr h₀ L h' m ∧ NsObj oC m' ∧ News h₀ L h' ((I, rit (i : Int) ((n : Int) - i)) :: (C, oC) :: (D, lst ys) :: news)
theorem St1.el {h₀ : Heap} {L : Addr} {m : Str → Option Value} {s : Shared} {n : Nat} {Inv : Nat → Nat → List Value → Prop} {news : List (Addr × Obj)} {I C D : Addr} {k : Nat} {s' : Shared} {G : Nat → Shared → Prop} (h : St1 h₀ L m s n Inv news I C D k s')
    (kk : ∀ h' tk i ys m' oC, i ≤ n → Inv i 0 ys → Fr h₀ L h' m → NsObj oC m' → News h₀ L h' ((I, rit (i : Int) ((n : Int) - i)) :: (C, oC) :: (D, lst ys) :: news) → G (n + 1 - i) { s with heap := h', toks := tk }) : G k s' := by
  obtain ⟨h', tk, i, ys, m', oC, rfl, h1, rfl, h2, h3, h4, h5⟩ := h; exact kk h' tk i ys m' oC h1 h2 h3 h4 h5
noncomputable abbrev St2 (h₀ : Heap) (L : Addr) (m : Str → Option Value) (s : Shared) (x : Str) (n : Nat) (cnt : Nat → Nat) (Inv : Nat → Nat → List Value → Prop) (news : List (Addr × Obj)) (I C D : Addr) (i : Nat) (I2 : Addr) (k : Nat) (s' : Shared) : Prop :=
  ∃ h' tk j ys m' oC tx, s' = { s with heap := h', toks := tk } ∧ j ≤ cnt i ∧ k = cnt i + 1 - j ∧ Inv i j ys ∧ Fr h₀ L h' m ∧ NsObj oC m' ∧ m' x = some (.int (i : Int) tx) ∧
          News h₀ L h' ((I2, rit (j : Int) ((cnt i : Int) - j)) :: (I, rit ((i : Int) + 1) ((n : Int) - i - 1)) :: (C, oC) :: (D, lst ys) :: news)
theorem St2.el {h₀ : Heap} {L : Addr} {m : Str → Option Value} {s : Shared} {x : Str} {n : Nat} {cnt : Nat → Nat} {Inv : Nat → Nat → List Value → Prop} {news : List (Addr × Obj)} {I C D : Addr} {i : Nat} {I2 : Addr} {k : Nat} {s' : Shared} {G : Nat → Shared → Prop} (h : St2 h₀ L m s x n cnt Inv news I C D i I2 k s')
    (kk : ∀ h' tk j ys m' oC tx, j ≤ cnt i → Inv i j ys → Fr h₀ L h' m → NsObj oC m' → m' x = some (.int (i : Int) tx) → News h₀ L h' ((I2, rit (j : Int) ((cnt i : Int) - j)) :: (I, rit ((i : Int) + 1) ((n : Int) - i - 1)) :: (C, oC) :: (D, lst ys) :: news) → G (cnt i + 1 - j) { s with heap := h', toks := tk }) : G k s' := by
  obtain ⟨h', tk, j, ys, m', oC, tx, rfl, h1, rfl, h2, h3, h4, h5, h6⟩ := h; exact kk h' tk j ys m' oC tx h1 h2 h3 h4 h5 h6
theorem two_block {news : List (Addr × Obj)} {n : Nat} {cnt : Nat → Nat} {Inv : Nat → Nat → List Value → Prop} {I : Addr} {RR : Value → Addr → Result → Shared → Prop}
    (H : TwoHyp prog w A h₀ L m elt i2 x y sc cl env news n cnt Inv s) (hh : A.handled = none) (hs : ∀ env v, foldedSetIterable i2 env v = pure v) (i00 : Inv 0 0 [])
    (hcell : ∀ y ∈ sc.names, y.2 ≠ .cell) (hkind : sc.kind = .function) (hx : sc.names.lookup x = some .local) (hy : sc.names.lookup y = some .local) (hxy : x ≠ y)
    (F : Fr h₀ L s.heap m) (N : News h₀ L s.heap ((I, rit 0 n) :: news)) (off : ∀ p ∈ news, p.1 ≠ I)
    (hRR : ∀ D C h tk m' ys, Fr h₀ L h m → News h₀ L h ((D, lst ys) :: news) → (∀ p ∈ news, p.1 ≠ D) → h.Ns C m' → h₀.get? C = none → h₀.get? D = none → C ≠ L → D ≠ L → C ≠ D → (∀ p ∈ news, p.1 ≠ C) → Inv n 0 ys → RR (.ref D) C (.ok .next) { s with heap := h, toks := tk }) :
    wpAny (model prog w) A (newList []) (fun acc s₃ => wpAny (model prog w) A (newFunctionEnv sc env.globals cl [] env.qual none .none (some env)) (fun cenv s₄ =>
      codeAny (model prog w) A (.compStart (two elt i1 i2 x y px py sc pos) 0 (.ref I) acc { cenv with scope := relabel sc env }) (RR acc cenv.locals) s₄) E s₃) E s := by
  refine wpAny_newObj_type (wpAny_newFunctionEnv hcell (by intro y hy; simp at hy) (fun h₁ hns₁ hsb₁ => ?_) hkind)
  dsimp only at hns₁ hsb₁ ⊢
  generalize hH2 : s.heap.push { cls := .type "list", dict := none, data := .seq ([] : List Value).toArray } = H2 at hns₁ hsb₁ ⊢
  have hCs : H2.objs.size = s.heap.objs.size + 1 := by rw [← hH2, Heap.size_push]
  have lt0 : ∀ p ∈ (I, rit 0 n) :: news, p.1 < s.heap.objs.size := fun p hp => Heap.lt_size (N p hp).1
  have fresh : ∀ a, s.heap.objs.size ≤ a → h₀.get? a = none := fun a ha => by
    cases e : h₀.get? a with
    | none => rfl
    | some o' => exact absurd (Heap.lt_size (F.keep a o' e)) (Nat.not_lt.mpr ha)
  have hD0 : h₀.get? s.heap.objs.size = none := fresh _ (Nat.le_refl _)
  have hC0 : h₀.get? H2.objs.size = none := fresh _ (by rw [hCs]; exact Nat.le_succ _)
  have hLl : L < s.heap.objs.size := F.ns.lt
  have old : ∀ b o, s.heap.get? b = some o → h₁.get? b = some o := fun b o e => hsb₁.extBut b o (by rw [hCs]; exact Nat.ne_of_lt (Nat.lt_succ_of_lt (Heap.lt_size e))) (Heap.get?_push_of_some _ (hH2 ▸ Heap.get?_push_of_some _ e))
  have hCD : H2.objs.size ≠ s.heap.objs.size := by rw [hCs]; exact Nat.succ_ne_self _
  have hacc : h₁.get? s.heap.objs.size = some (lst []) := hsb₁.extBut _ _ hCD.symm (Heap.get?_push_of_some _ (hH2 ▸ Heap.get?_push_size _ rfl))
  have ltC : ∀ p ∈ (I, rit 0 n) :: news, p.1 ≠ H2.objs.size := fun p hp => by rw [hCs]; exact Nat.ne_of_lt (Nat.lt_succ_of_lt (lt0 p hp))
  have ltD : ∀ p ∈ (I, rit 0 n) :: news, p.1 ≠ s.heap.objs.size := fun p hp => Nat.ne_of_lt (lt0 p hp)
  have hIC := ltC _ List.mem_cons_self
  have hID := ltD _ List.mem_cons_self
  have offC : ∀ p ∈ news, p.1 ≠ H2.objs.size := fun p hp => ltC p (List.mem_cons_of_mem _ hp)
  have offD : ∀ p ∈ news, p.1 ≠ s.heap.objs.size := fun p hp => ltD p (List.mem_cons_of_mem _ hp)
  have hLC : L ≠ H2.objs.size := by rw [hCs]; exact Nat.ne_of_lt (Nat.lt_succ_of_lt hLl)
  have hLD : L ≠ s.heap.objs.size := Nat.ne_of_lt hLl
  have hLI : L ≠ I := (N _ List.mem_cons_self).2.1.symm
  have hI0 := (N _ List.mem_cons_self).2.2
  with_reducible refine ex1and2 (ns_obj hns₁) fun oC1 heC1 hoC1 => ?_
  have F1 : Fr h₀ L h₁ m := F.keeps old
  have N1 : News h₀ L h₁ ((I, rit 0 n) :: (H2.objs.size, oC1) :: (s.heap.objs.size, lst []) :: news) := by
    refine all1 ⟨old _ _ (N _ List.mem_cons_self).1, (N _ List.mem_cons_self).2⟩ (all1 ⟨heC1, hLC.symm, hC0⟩ (all1 ⟨hacc, hLD.symm, hD0⟩ fun p hp => ?_))
    have z := N p (List.mem_cons_of_mem _ hp)
    exact ⟨old _ _ z.1, z.2⟩
  generalize s.heap.objs.size = D at *
  generalize H2.objs.size = C at *
  have loop : ∀ s₃ : Shared, s₃ = { s with heap := h₁, toks := s.toks + ([] : List (Str × Value)).length } →
      codeAny (model prog w) A (.compLoop (two elt i1 i2 x y px py sc pos) 0 (.ref I) (.ref D) (compEnvC sc cl C env)) (RR (.ref D) C) s₃ := by
    rintro s₃ rfl
    refine two_loop0 (St1 h₀ L m s n Inv news I C D) (hs _) ?_ (n + 1) ⟨h₁, _, 0, [], _, oC1, rfl, Nat.zero_le _, rfl, i00, F1, hoC1, by simpa using N1⟩
    intro k s' hS
    apply St1.el hS
    intro h' tk i ys m' oC hi hInv F' hoC N'
    clear hS
    have st : IsRangeIter h' I (i : Int) ((n : Int) - i) 1 := N'.get List.mem_cons_self
    by_cases hlt : i < n
    · refine wpAny_pyNext_range_item st (by omega) fun h₂ st₂ k₂ => ?_
      have N₂ := news_upd N' (fun b o hb e => k₂.extBut b o hb e) st₂ (all1 hIC.symm (all1 hID.symm off))
      have F₂ := fr_upd F' (fun b o hb e => k₂.extBut b o hb e) hLI hI0
      refine wpAny_assign_Name (wpAny_storeName_local (lookup_relabel_local hx) (hoC.ns (N₂.get (.tail _ (.head _)))) (fun h₃ hn₃ k₃ => ?_) (by simp [compEnvC, relabel, hkind]))
      with_reducible refine ex1and2 (ns_obj hn₃) fun oC₃ heC₃ hoC₃ => ?_
      have N₃ : News h₀ L h₃ _ := sw (news_upd (sw N₂) (fun b o hb e => k₃.extBut b o hb e) heC₃ (all1 hIC (all1 hCD.symm offC)))
      have F₃ := fr_upd F₂ (fun b o hb e => k₃.extBut b o hb e) hLC hC0
      refine wpAny_mono (H.src i _ I _ C oC₃ D _ _ h₃ _ _ hlt hoC₃ (if_pos rfl) F₃ N₃) (fun xv s₄ h₄ => ?_) fun _ _ e => e
      apply SrcP.el h₄
      clear h₄
      intro r h₄ tk₄ ta tb tc hr F₄ N₄
      refine wpAny_pyIter_range hr (H.small i hlt).1 ?_
      rw [(H.small i hlt).2]
      have up : ∀ b o, h₄.get? b = some o → (h₄.push (rit 0 (cnt i : Int))).get? b = some o := fun b o e => Heap.get?_push_of_some _ e
      have F₅ : Fr h₀ L (h₄.push (rit 0 (cnt i : Int))) m := F₄.keeps up
      have N₅ := N₄.grown up
      have hI2 : (h₄.push (rit 0 (cnt i : Int))).get? h₄.objs.size = some (rit 0 (cnt i : Int)) := Heap.get?_push_size _ rfl
      have off2 : ∀ p ∈ (I, rit ((i : Int) + 1) ((n : Int) - i - 1)) :: (C, oC₃) :: (D, lst ys) :: news, p.1 ≠ h₄.objs.size := fun p hp => Nat.ne_of_lt (Heap.lt_size (N₄ p hp).1)
      have hL2 : L ≠ h₄.objs.size := Nat.ne_of_lt F₄.ns.lt
      have h02 : h₀.get? h₄.objs.size = none := by
        cases e : h₀.get? h₄.objs.size with
        | none => rfl
        | some o' => exact absurd (Heap.lt_size (F₄.keep _ o' e)) (Nat.lt_irrefl _)
      have N₆ : News h₀ L (h₄.push (rit 0 (cnt i : Int))) ((h₄.objs.size, rit 0 (cnt i : Int)) :: (I, rit ((i : Int) + 1) ((n : Int) - i - 1)) :: (C, oC₃) :: (D, lst ys) :: news) := all1 ⟨hI2, hL2.symm, h02⟩ N₅
      clear N₅ N₄ F₄ hI2
      show codeAny _ A _ _ { s with heap := h₄.push (rit 0 (cnt i : Int)), toks := tk₄ }
      generalize h₄.push (rit 0 (cnt i : Int)) = h₅ at *
      generalize h₄.objs.size = I2 at *
      have hI2I := off2 _ List.mem_cons_self
      have hI2C := off2 _ (.tail _ (.head _))
      have hI2D := off2 _ (.tail _ (.tail _ (.head _)))
      have offI2 : ∀ p ∈ news, p.1 ≠ I2 := fun p hp => off2 p (.tail _ (.tail _ (.tail _ hp)))
      have inner : ∀ s₆ : Shared, s₆ = { s with heap := h₅, toks := tk₄ } → codeAny (model prog w) A (.compLoop (two elt i1 i2 x y px py sc pos) 1 (.ref I2) (.ref D) (compEnvC sc cl C env))
          (fun r s' => match r with
            | .ok _ => ∃ k, k < n + 1 - i ∧ St1 h₀ L m s n Inv news I C D k s'
            | .error e => cameBackBy (model prog w) A (compEnvC sc cl C env) (notedBy (model prog w) A (compEnvC sc cl C env) fun e s' => RR (.ref D) C (.error e) s') e s') s₆ := by
        rintro s₆ rfl
        refine two_loop1 (St2 h₀ L m s x n cnt Inv news I C D i I2) ?_ (cnt i + 1) ⟨h₅, _, 0, ys, _, oC₃, _, rfl, Nat.zero_le _, rfl, hInv, F₅, hoC₃, if_pos rfl, by simpa using N₆⟩
        intro k s' hS2
        apply St2.el hS2
        intro g tg j zs mj oj tx hj hIj Fj hoj hxj Nj
        clear hS2
        have sj : IsRangeIter g I2 (j : Int) ((cnt i : Int) - j) 1 := Nj.get List.mem_cons_self
        by_cases hjl : j < cnt i
        · refine wpAny_pyNext_range_item sj (by omega) fun g₂ sj₂ q₂ => ?_
          have M₂ := news_upd Nj (fun b o hb e => q₂.extBut b o hb e) sj₂ (all1 hI2I (all1 hI2C (all1 hI2D offI2)))
          have G₂ := fr_upd Fj (fun b o hb e => q₂.extBut b o hb e) hL2 h02
          refine wpAny_assign_Name (wpAny_storeName_local (lookup_relabel_local hy) (hoj.ns (M₂.get (.tail _ (.tail _ (.head _))))) (fun g₃ hm₃ q₃ => ?_) (by simp [compEnvC, relabel, hkind]))
          with_reducible refine ex1and2 (ns_obj hm₃) fun o₃ he₃ ho₃ => ?_
          have M₃ : News h₀ L g₃ _ := tor3 (news_upd (rot3 M₂) (fun b o hb e => q₃.extBut b o hb e) he₃ (all1 hI2C.symm (all1 hIC (all1 hCD.symm offC))))
          have G₃ := fr_upd G₂ (fun b o hb e => q₃.extBut b o hb e) hLC hC0
          refine wpAny_mono (H.elt i j zs _ _ I _ I2 _ C o₃ D _ g₃ _ _ hlt hjl hIj ho₃ (by rw [if_neg hxy]; exact hxj) (if_pos rfl) G₃ M₃) (fun v s₄ h₄ => ?_) fun _ _ e => e
          apply ElP.el h₄
          clear h₄
          intro g₄ t₄ hI4 G₄ M₄
          refine append_at (hsz := by rw [List.size_toArray]; exact H.size _ _ _ hIj) (M₄.get (.tail _ (.tail _ (.tail _ (.head _))))) fun g₅ q₅ e₅ => ?_
          have M₅ : News h₀ L g₅ _ := tor4 (news_upd (rot4 M₄) (fun b o hb e => q₅.extBut b o hb e) (e₅.trans (congrArg some (lst_snoc zs v))) (all1 hI2D.symm (all1 hID (all1 hCD offD))))
          have G₅ := fr_upd G₄ (fun b o hb e => q₅.extBut b o hb e) hLD hD0
          refine ⟨cnt i + 1 - (j + 1), by omega, g₅, t₄, j + 1, zs ++ [v], _, o₃, _, rfl, hjl, rfl, hI4, G₅, ho₃, (if_neg hxy).trans hxj, ?_⟩
          have e1 : ((j + 1 : Nat) : Int) = (j : Int) + 1 := by push_cast; rfl
          have e2 : (cnt i : Int) - ((j + 1 : Nat) : Int) = (cnt i : Int) - j - 1 := by push_cast; omega
          rw [e1, show (cnt i : Int) - ((j : Int) + 1) = (cnt i : Int) - j - 1 by omega]
          exact M₅
        · obtain rfl : j = cnt i := Nat.le_antisymm hj (Nat.not_lt.mp hjl)
          refine wpAny_pyNext_range_end hh sj (by omega) fun g₂ q₂ => ?_
          have M₂ : News h₀ L g₂ ((I, rit ((i : Int) + 1) ((n : Int) - i - 1)) :: (C, oj) :: (D, lst zs) :: news) := fun p hp => by
            have z := Nj p (.tail _ hp)
            have ne : ∀ p ∈ (I, rit ((i : Int) + 1) ((n : Int) - i - 1)) :: (C, oj) :: (D, lst zs) :: news, p.1 ≠ I2 := all1 hI2I (all1 hI2C (all1 hI2D offI2))
            exact ⟨q₂ _ _ (ne p hp) z.1, z.2⟩
          have G₂ := fr_upd Fj (fun b o hb e => q₂ b o hb e) hL2 h02
          refine ⟨n + 1 - (i + 1), by omega, g₂, tg, i + 1, zs, _, oj, rfl, hlt, rfl, H.next i zs hlt hIj, G₂, hoj, ?_⟩
          have e1 : ((i + 1 : Nat) : Int) = (i : Int) + 1 := by push_cast; rfl
          rw [e1, show (n : Int) - ((i : Int) + 1) = (n : Int) - i - 1 by omega]
          exact M₂
      exact two_start1 (inner _ rfl) ((range_walks hh 0 (cnt i)).self 0 _ _ _ (by show IsRangeIter _ _ _ _ _; simpa using N₆.get List.mem_cons_self) (inner _ rfl))
    · obtain rfl : i = n := Nat.le_antisymm hi (Nat.not_lt.mp hlt)
      refine wpAny_pyNext_range_end hh st (by omega) fun h₂ k₂ => ?_
      have M₂ : News h₀ L h₂ ((C, oC) :: (D, lst ys) :: news) := fun p hp => by
        have z := N' p (.tail _ hp)
        have ne : ∀ p ∈ (C, oC) :: (D, lst ys) :: news, p.1 ≠ I := all1 hIC.symm (all1 hID.symm off)
        exact ⟨k₂ _ _ (ne p hp) z.1, z.2⟩
      have G₂ := fr_upd F' (fun b o hb e => k₂ b o hb e) hLI hI0
      exact hRR D C h₂ tk _ ys G₂ (ndp M₂) offD (hoC.ns (M₂.get List.mem_cons_self)) hC0 hD0 hLC.symm hLD.symm hCD offC hInv
  exact codeAny_compStart_list (loop _ rfl) ((range_walks hh 0 n).self 0 _ _ _ (by show IsRangeIter _ _ _ _ _; simpa using N1.get List.mem_cons_self) (loop _ rfl))
end

end
section
set_option maxHeartbeats 2000000
set_option maxRecDepth 100000
open LCg
section
variable {prog : Program} {w : World} {A : Around} {E : Value → Shared → Prop} {s : Shared} {env : Env} {h₀ : Heap} {L : Addr} {m : Str → Option Value}
variable {elt i1 i2 : Expr} {x y z : Str} {px py pz : Pos} {sc : Scope} {pos spos : Pos} {cl : List (Str × Addr)}
/-- the outer iterable is a range, and the turns are told -/
noncomputable def TwoSrc (prog : Program) (w : World) (A : Around) (h₀ : Heap) (L : Addr) (m : Str → Option Value) (elt i2 : Expr) (x y z : Str) (sc : Scope) (cl : List (Str × Addr)) (env : Env) (Q : Flow → Shared → Prop) (xv : Value) (s₁ : Shared) : Prop :=
  ∃ r t u v n cnt Inv news, xv = .ref r ∧ A.handled = none ∧ Fr h₀ L s₁.heap m ∧ News h₀ L s₁.heap news ∧ IsRange s₁.heap r 0 ((n : Nat) : Int) 1 t u v ∧ Builtin.Range.small 0 ((n : Nat) : Int) 1 = true ∧ Builtin.Range.rangeSize 0 ((n : Nat) : Int) 1 = ((n : Nat) : Int) ∧
    TwoHyp prog w A h₀ L m elt i2 x y sc cl env news n cnt Inv s₁ ∧ Inv 0 0 [] ∧
    ∀ ys D h tk, Inv n 0 ys → Fr h₀ L h (fun c => if c = z then some (.ref D) else m c) → News h₀ L h ((D, lst ys) :: news) → Q .next { s₁ with heap := h, toks := tk }
theorem TwoSrc.el {elt i2 : Expr} {x y z : Str} {sc : Scope} {cl : List (Str × Addr)} {Q : Flow → Shared → Prop} {xv : Value} {s₁ : Shared} {G : Value → Prop} (h : TwoSrc prog w A h₀ L m elt i2 x y z sc cl env Q xv s₁)
    (kk : ∀ r t u v n cnt Inv news, A.handled = none → Fr h₀ L s₁.heap m → News h₀ L s₁.heap news → IsRange s₁.heap r 0 ((n : Nat) : Int) 1 t u v → Builtin.Range.small 0 ((n : Nat) : Int) 1 = true → Builtin.Range.rangeSize 0 ((n : Nat) : Int) 1 = ((n : Nat) : Int) →
    TwoHyp prog w A h₀ L m elt i2 x y sc cl env news n cnt Inv s₁ → Inv 0 0 [] →
    (∀ ys D h tk, Inv n 0 ys → Fr h₀ L h (fun c => if c = z then some (.ref D) else m c) → News h₀ L h ((D, lst ys) :: news) → Q .next { s₁ with heap := h, toks := tk }) → G (.ref r)) : G xv := by
  obtain ⟨r, t, u, v, n, cnt, Inv, news, rfl, h1, h2, h3, h4, h5, h6, h7, h8, h9⟩ := h; exact kk r t u v n cnt Inv news h1 h2 h3 h4 h5 h6 h7 h8 h9
theorem TwoHyp.heap {news : List (Addr × Obj)} {n : Nat} {cnt : Nat → Nat} {Inv : Nat → Nat → List Value → Prop} {g : Heap} (H : TwoHyp prog w A h₀ L m elt i2 x y sc cl env news n cnt Inv s) : TwoHyp prog w A h₀ L m elt i2 x y sc cl env news n cnt Inv { s with heap := g } :=
  ⟨H.src, H.elt, H.next, H.size, H.small⟩
theorem Assign_two {Q : Flow → Shared → Prop} (hLe : env.locals = L)
    (hsw : swapsWith (two elt i1 i2 x y px py sc pos) (some (.Name z pz)) spos.line env = pure true)
    (hclos : closureFor sc env = pure cl) (hcell : ∀ z ∈ sc.names, z.2 ≠ .cell) (hkind : sc.kind = .function)
    (hnames : ∀ z ∈ sc.names, z.2 = .local → sc.names.lookup z.1 = some .local) (hx : sc.names.lookup x = some .local) (hy : sc.names.lookup y = some .local) (hxy : x ≠ y)
    (hz : env.kindOf z = some .local) (hp : (env.scope.kind == .class || (env.scope.kind == .module && env.locals != env.globals)) = false)
    (h : wpAny (model prog w) A (eval i1 env) (TwoSrc prog w A h₀ L m elt i2 x y z sc cl env Q) E s)
    (hs : ∀ env v, foldedSetIterable i2 env v = pure v := by intro _ _; rfl)
    (hs1 : ∀ v, foldedSetIterable i1 env v = pure v := by intro _; rfl) :
    wpAny (model prog w) A (exec (.Assign [.Name z pz] (two elt i1 i2 x y px py sc pos) spos) env) Q E s := by
  subst hLe
  rw [exec_Assign_Name_used _ _ _ _ hsw]
  refine wpAny_bind (wpAny_standAt (wpAny_bind ?_))
  show wpAny _ A (do let _ ← comprehension (two elt i1 i2 x y px py sc pos) sc env _ (newList []) false (eval i1 env) (some (assign (.Name z pz) env))) _ _ s
  refine wpAny_bind (wpAny_mono (wpAny_comprehension_free (use := some (assign (.Name z pz) env)) (Q := fun _ s' => Q .next s') rfl hs1 hclos hkind hnames
    (wpAny_mono h (fun xv s₁ h₁ => ?_) fun _ _ e => e)) (fun _ s' hq => wpAny_pure (wpAny_pure hq)) fun _ _ e => e)
  apply TwoSrc.el h₁
  intro r t u v n cnt Inv news hh F N hr hsm hn H i00 hQ
  refine wpAny_pyIter_range hr hsm ?_
  rw [hn]
  have up : ∀ b o, s₁.heap.get? b = some o → (s₁.heap.push (rit 0 (n : Int))).get? b = some o := fun b o e => Heap.get?_push_of_some _ e
  have lt0 : ∀ p ∈ news, p.1 ≠ s₁.heap.objs.size := fun p hp => Nat.ne_of_lt (Heap.lt_size (N p hp).1)
  refine two_block (I := s₁.heap.objs.size) (TwoHyp.heap H) hh hs i00 hcell hkind hx hy hxy (F.keeps up) (all1 ⟨Heap.get?_push_size _ rfl, (Nat.ne_of_lt F.ns.lt).symm, next_is_new F⟩ (N.grown up)) lt0 ?_
  intro D C h' tk m' ys F' N' hoD hn hC0 hD0 hCL hDL hCD offC hI
  show wpAny _ A (assign (.Name z pz) env (.ref D)) _ _ _
  refine wpAny_assign_Name (wpAny_storeName_local hz F'.ns (fun h₂ hn₂ hs₂ => ?_) hp)
  have hL₀ : h₀.get? env.locals = none := Heap.get?_none_of_le F'.above
  have F₂ : Fr h₀ env.locals h₂ (fun c => if c = z then some (.ref D) else m c) := ⟨hn₂, fun b o e => hs₂.extBut b o (fun q => by rw [q, hL₀] at e; cases e) (F'.keep b o e), F'.above⟩
  refine ⟨m', hn.sameBut hs₂ hCL, fun h'' hs'' => hQ ys D h'' _ hI (F₂.change hs'' hCL hC0) (fun p hp => ?_)⟩
  have z : h₂.get? p.1 = some p.2 := hs₂.extBut _ _ (N' p hp).2.1 (N' p hp).1
  refine ⟨hs''.extBut _ _ ?_ z, (N' p hp).2⟩
  rcases List.mem_cons.mp hp with rfl | hp
  · exact Ne.symm hCD
  · exact offC p hp
end

end
section
set_option maxHeartbeats 2000000
set_option maxRecDepth 100000
open LCg
section
variable {prog : Program} {w : World} {A : Around} {E : Value → Shared → Prop} {s : Shared} {env : Env} {h₀ : Heap} {L : Addr} {m : Str → Option Value}
variable {elt i1 : Expr} {x z : Str} {px pz : Pos} {sc : Scope} {pos spos : Pos} {cl : List (Str × Addr)}
noncomputable def OneHyp (prog : Program) (w : World) (A : Around) (h₀ : Heap) (L : Addr) (m : Str → Option Value) (elt : Expr) (x : Str) (sc : Scope) (cl : List (Str × Addr)) (env : Env) (n : Nat) (Inv : Nat → List Value → List (Addr × Obj) → Prop) (s : Shared) : Prop :=
  ∀ i ys news tx I C oC D m₂ h tk (E' : Value → Shared → Prop), i < n → Inv i ys news → NsObj oC m₂ → m₂ x = some (.int (i : Int) tx) → Fr h₀ L h m →
    News h₀ L h ((I, rit ((i : Int) + 1) ((n : Int) - i - 1)) :: (C, oC) :: (D, lst ys) :: news) → (∀ p ∈ news, p.1 ≠ I) → (∀ p ∈ news, p.1 ≠ C) → (∀ p ∈ news, p.1 ≠ D) →
    wpAny (model prog w) A (eval elt (compEnvC sc cl C env)) (fun v s₂ => ∃ h' tk' news', s₂ = { s with heap := h', toks := tk' } ∧ Inv (i + 1) (ys ++ [v]) news' ∧ Fr h₀ L h' m ∧ News h₀ L h' ((I, rit ((i : Int) + 1) ((n : Int) - i - 1)) :: (C, oC) :: (D, lst ys) :: news') ∧ (∀ p ∈ news', p.1 ≠ I) ∧ (∀ p ∈ news', p.1 ≠ C) ∧ (∀ p ∈ news', p.1 ≠ D)) E' { s with heap := h, toks := tk }
noncomputable abbrev St3 (h₀ : Heap) (L : Addr) (m : Str → Option Value) (s : Shared) (n : Nat) (Inv : Nat → List Value → List (Addr × Obj) → Prop) (I C D : Addr) (k : Nat) (s' : Shared) : Prop :=
  ∃ h' tk i ys m' oC news, s' = { s with heap := h', toks := tk } ∧ i ≤ n ∧ k = n + 1 - i ∧ Inv i ys news ∧ Fr h₀ L h' m ∧ NsObj oC m' ∧ (∀ p ∈ news, p.1 ≠ I) ∧ (∀ p ∈ news, p.1 ≠ C) ∧ (∀ p ∈ news, p.1 ≠ D) ∧
      News h₀ L h' ((I, rit (i : Int) ((n : Int) - i)) :: (C, oC) :: (D, lst ys) :: news)
theorem St3.el {h₀ : Heap} {L : Addr} {m : Str → Option Value} {s : Shared} {n : Nat} {Inv : Nat → List Value → List (Addr × Obj) → Prop} {I C D : Addr} {k : Nat} {s' : Shared} {G : Nat → Shared → Prop} (h : St3 h₀ L m s n Inv I C D k s')
    (kk : ∀ h' tk i ys m' oC news, i ≤ n → Inv i ys news → Fr h₀ L h' m → NsObj oC m' → (∀ p ∈ news, p.1 ≠ I) → (∀ p ∈ news, p.1 ≠ C) → (∀ p ∈ news, p.1 ≠ D) → News h₀ L h' ((I, rit (i : Int) ((n : Int) - i)) :: (C, oC) :: (D, lst ys) :: news) → G (n + 1 - i) { s with heap := h', toks := tk }) : G k s' := by
  obtain ⟨h', tk, i, ys, m', oC, nw, rfl, h1, rfl, h2, h3, h4, h5, h6, h7, h8⟩ := h; exact kk h' tk i ys m' oC nw h1 h2 h3 h4 h5 h6 h7 h8
theorem exS3 {s s₂ : Shared} {P1 P2 P3 P4 P5 : Heap → Nat → List (Addr × Obj) → Prop} {P0 : Heap → Nat → List (Addr × Obj) → Prop} {G : Shared → Prop} (kk : ∀ h' tk' nw, P0 h' tk' nw → P1 h' tk' nw → P2 h' tk' nw → P3 h' tk' nw → P4 h' tk' nw → P5 h' tk' nw → G { s with heap := h', toks := tk' })
    (h : ∃ h' tk' nw, s₂ = { s with heap := h', toks := tk' } ∧ P0 h' tk' nw ∧ P1 h' tk' nw ∧ P2 h' tk' nw ∧ P3 h' tk' nw ∧ P4 h' tk' nw ∧ P5 h' tk' nw) : G s₂ := by
  obtain ⟨h', tk', nw, rfl, a, b, c, d, e, f⟩ := h; exact kk h' tk' nw a b c d e f
theorem one_block {news : List (Addr × Obj)} {n : Nat} {Inv : Nat → List Value → List (Addr × Obj) → Prop} {I : Addr} {RR : Value → Addr → Result → Shared → Prop}
    (H : OneHyp prog w A h₀ L m elt x sc cl env n Inv s) (hh : A.handled = none) (i00 : Inv 0 [] news) (hsize : ∀ i ys l, Inv i ys l → ys.length ≤ sizeLine)
    (hcell : ∀ y ∈ sc.names, y.2 ≠ .cell) (hkind : sc.kind = .function) (hx : sc.names.lookup x = some .local)
    (F : Fr h₀ L s.heap m) (N : News h₀ L s.heap ((I, rit 0 n) :: news)) (off : ∀ p ∈ news, p.1 ≠ I)
    (hRR : ∀ D C h tk m' ys news, Fr h₀ L h m → News h₀ L h ((D, lst ys) :: news) → h.Ns C m' → h₀.get? C = none → C ≠ L → C ≠ D → (∀ p ∈ news, p.1 ≠ C) → Inv n ys news → RR (.ref D) C (.ok .next) { s with heap := h, toks := tk }) :
    wpAny (model prog w) A (newList []) (fun acc s₃ => wpAny (model prog w) A (newFunctionEnv sc env.globals cl [] env.qual none .none (some env)) (fun cenv s₄ =>
      codeAny (model prog w) A (.compStart (.ListComp elt [⟨.Name x px, i1, [], 0⟩] sc pos) 0 (.ref I) acc { cenv with scope := relabel sc env }) (RR acc cenv.locals) s₄) E s₃) E s := by
  refine wpAny_newObj_type (wpAny_newFunctionEnv hcell (by intro y hy; simp at hy) (fun h₁ hns₁ hsb₁ => ?_) hkind)
  dsimp only at hns₁ hsb₁ ⊢
  generalize hH2 : s.heap.push { cls := .type "list", dict := none, data := .seq ([] : List Value).toArray } = H2 at hns₁ hsb₁ ⊢
  have hCs : H2.objs.size = s.heap.objs.size + 1 := by rw [← hH2, Heap.size_push]
  have lt0 : ∀ p ∈ (I, rit 0 n) :: news, p.1 < s.heap.objs.size := fun p hp => Heap.lt_size (N p hp).1
  have fresh : ∀ a, s.heap.objs.size ≤ a → h₀.get? a = none := fun a ha => by
    cases e : h₀.get? a with
    | none => rfl
    | some o' => exact absurd (Heap.lt_size (F.keep a o' e)) (Nat.not_lt.mpr ha)
  have hD0 : h₀.get? s.heap.objs.size = none := fresh _ (Nat.le_refl _)
  have hC0 : h₀.get? H2.objs.size = none := fresh _ (by rw [hCs]; exact Nat.le_succ _)
  have hLl : L < s.heap.objs.size := F.ns.lt
  have old : ∀ b o, s.heap.get? b = some o → h₁.get? b = some o := fun b o e => hsb₁.extBut b o (by rw [hCs]; exact Nat.ne_of_lt (Nat.lt_succ_of_lt (Heap.lt_size e))) (Heap.get?_push_of_some _ (hH2 ▸ Heap.get?_push_of_some _ e))
  have hCD : H2.objs.size ≠ s.heap.objs.size := by rw [hCs]; exact Nat.succ_ne_self _
  have hacc : h₁.get? s.heap.objs.size = some (lst []) := hsb₁.extBut _ _ hCD.symm (Heap.get?_push_of_some _ (hH2 ▸ Heap.get?_push_size _ rfl))
  have ltC : ∀ p ∈ (I, rit 0 n) :: news, p.1 ≠ H2.objs.size := fun p hp => by rw [hCs]; exact Nat.ne_of_lt (Nat.lt_succ_of_lt (lt0 p hp))
  have ltD : ∀ p ∈ (I, rit 0 n) :: news, p.1 ≠ s.heap.objs.size := fun p hp => Nat.ne_of_lt (lt0 p hp)
  have hIC := ltC _ List.mem_cons_self
  have hID := ltD _ List.mem_cons_self
  have offC0 : ∀ p ∈ news, p.1 ≠ H2.objs.size := fun p hp => ltC p (List.mem_cons_of_mem _ hp)
  have offD0 : ∀ p ∈ news, p.1 ≠ s.heap.objs.size := fun p hp => ltD p (List.mem_cons_of_mem _ hp)
  have hLC : L ≠ H2.objs.size := by rw [hCs]; exact Nat.ne_of_lt (Nat.lt_succ_of_lt hLl)
  have hLD : L ≠ s.heap.objs.size := Nat.ne_of_lt hLl
  have hLI : L ≠ I := (N _ List.mem_cons_self).2.1.symm
  have hI0 := (N _ List.mem_cons_self).2.2
  with_reducible refine ex1and2 (ns_obj hns₁) fun oC1 heC1 hoC1 => ?_
  have F1 : Fr h₀ L h₁ m := F.keeps old
  have N1 : News h₀ L h₁ ((I, rit 0 n) :: (H2.objs.size, oC1) :: (s.heap.objs.size, lst []) :: news) := by
    refine all1 ⟨old _ _ (N _ List.mem_cons_self).1, (N _ List.mem_cons_self).2⟩ (all1 ⟨heC1, hLC.symm, hC0⟩ (all1 ⟨hacc, hLD.symm, hD0⟩ fun p hp => ?_))
    have z := N p (List.mem_cons_of_mem _ hp)
    exact ⟨old _ _ z.1, z.2⟩
  generalize s.heap.objs.size = D at *
  generalize H2.objs.size = C at *
  have loop : ∀ s₃ : Shared, s₃ = { s with heap := h₁, toks := s.toks + ([] : List (Str × Value)).length } →
      codeAny (model prog w) A (.compLoop (.ListComp elt [⟨.Name x px, i1, [], 0⟩] sc pos) 0 (.ref I) (.ref D) (compEnvC sc cl C env)) (RR (.ref D) C) s₃ := by
    rintro s₃ rfl
    refine codeAny_compLoop_list (St3 h₀ L m s n Inv I C D) ?_ (n + 1) ⟨h₁, _, 0, [], _, oC1, news, rfl, Nat.zero_le _, rfl, i00, F1, hoC1, off, offC0, offD0, by simpa using N1⟩
    intro k s' hS
    apply St3.el hS
    intro h' tk i ys m' oC nw hi hInv F' hoC offI offC offD N'
    clear hS
    have st : IsRangeIter h' I (i : Int) ((n : Int) - i) 1 := N'.get List.mem_cons_self
    by_cases hlt : i < n
    · refine wpAny_pyNext_range_item st (by omega) fun h₂ st₂ k₂ => ?_
      have N₂ := news_upd N' (fun b o hb e => k₂.extBut b o hb e) st₂ (all1 hIC.symm (all1 hID.symm offI))
      have F₂ := fr_upd F' (fun b o hb e => k₂.extBut b o hb e) hLI hI0
      refine wpAny_assign_Name (wpAny_storeName_local (lookup_relabel_local hx) (hoC.ns (N₂.get (.tail _ (.head _)))) (fun h₃ hn₃ k₃ => ?_) (by simp [compEnvC, relabel, hkind]))
      with_reducible refine ex1and2 (ns_obj hn₃) fun oC₃ heC₃ hoC₃ => ?_
      have N₃ : News h₀ L h₃ _ := sw (news_upd (sw N₂) (fun b o hb e => k₃.extBut b o hb e) heC₃ (all1 hIC (all1 hCD.symm offC)))
      have F₃ := fr_upd F₂ (fun b o hb e => k₃.extBut b o hb e) hLC hC0
      refine wpAny_mono (H i ys nw _ I C oC₃ D _ h₃ _ _ hlt hInv hoC₃ (if_pos rfl) F₃ N₃ offI offC offD) (fun v s₄ h₄ => ?_) fun _ _ e => e
      revert h₄
      apply exS3
      intro h₄ tk₄ nw' hI4 F₄ N₄ offI' offC' offD'
      refine append_at (hsz := by rw [List.size_toArray]; exact hsize _ _ _ hInv) (N₄.get (.tail _ (.tail _ (.head _)))) fun g₅ q₅ e₅ => ?_
      have M₅ : News h₀ L g₅ _ := tor3 (news_upd (rot3 N₄) (fun b o hb e => q₅.extBut b o hb e) (e₅.trans (congrArg some (lst_snoc ys v))) (all1 hID (all1 hCD offD')))
      have G₅ := fr_upd F₄ (fun b o hb e => q₅.extBut b o hb e) hLD hD0
      refine ⟨n + 1 - (i + 1), by omega, g₅, tk₄, i + 1, ys ++ [v], _, oC₃, nw', rfl, hlt, rfl, hI4, G₅, hoC₃, offI', offC', offD', ?_⟩
      have e1 : ((i + 1 : Nat) : Int) = (i : Int) + 1 := by push_cast; rfl
      rw [e1, show (n : Int) - ((i : Int) + 1) = (n : Int) - i - 1 by omega]
      exact M₅
    · obtain rfl : i = n := Nat.le_antisymm hi (Nat.not_lt.mp hlt)
      refine wpAny_pyNext_range_end hh st (by omega) fun h₂ k₂ => ?_
      have M₂ : News h₀ L h₂ ((C, oC) :: (D, lst ys) :: nw) := fun p hp => by
        have z := N' p (.tail _ hp)
        have ne : ∀ p ∈ (C, oC) :: (D, lst ys) :: nw, p.1 ≠ I := all1 hIC.symm (all1 hID.symm offI)
        exact ⟨k₂ _ _ (ne p hp) z.1, z.2⟩
      have G₂ := fr_upd F' (fun b o hb e => k₂ b o hb e) hLI hI0
      exact hRR D C h₂ tk _ ys nw G₂ (ndp M₂) (hoC.ns (M₂.get List.mem_cons_self)) hC0 hLC.symm hCD offC hInv
  exact codeAny_compStart_list (loop _ rfl) ((range_walks hh 0 n).self 0 _ _ _ (by show IsRangeIter _ _ _ _ _; simpa using N1.get List.mem_cons_self) (loop _ rfl))
noncomputable def OneSrc (prog : Program) (w : World) (A : Around) (h₀ : Heap) (L : Addr) (m : Str → Option Value) (elt : Expr) (x z : Str) (sc : Scope) (cl : List (Str × Addr)) (env : Env) (Q : Flow → Shared → Prop) (xv : Value) (s₁ : Shared) : Prop :=
  ∃ r t u v n Inv news, xv = .ref r ∧ A.handled = none ∧ Fr h₀ L s₁.heap m ∧ News h₀ L s₁.heap news ∧ IsRange s₁.heap r 0 ((n : Nat) : Int) 1 t u v ∧ Builtin.Range.small 0 ((n : Nat) : Int) 1 = true ∧ Builtin.Range.rangeSize 0 ((n : Nat) : Int) 1 = ((n : Nat) : Int) ∧
    (∀ i ys l, Inv i ys l → ys.length ≤ sizeLine) ∧ OneHyp prog w A h₀ L m elt x sc cl env n Inv s₁ ∧ Inv 0 [] news ∧
    ∀ ys news D h tk, Inv n ys news → Fr h₀ L h (fun c => if c = z then some (.ref D) else m c) → News h₀ L h ((D, lst ys) :: news) → Q .next { s₁ with heap := h, toks := tk }
theorem OneSrc.el {Q : Flow → Shared → Prop} {xv : Value} {s₁ : Shared} {G : Value → Prop} (h : OneSrc prog w A h₀ L m elt x z sc cl env Q xv s₁)
    (kk : ∀ r t u v n Inv news, A.handled = none → Fr h₀ L s₁.heap m → News h₀ L s₁.heap news → IsRange s₁.heap r 0 ((n : Nat) : Int) 1 t u v → Builtin.Range.small 0 ((n : Nat) : Int) 1 = true → Builtin.Range.rangeSize 0 ((n : Nat) : Int) 1 = ((n : Nat) : Int) →
    (∀ i ys l, Inv i ys l → ys.length ≤ sizeLine) → OneHyp prog w A h₀ L m elt x sc cl env n Inv s₁ → Inv 0 [] news →
    (∀ ys news D h tk, Inv n ys news → Fr h₀ L h (fun c => if c = z then some (.ref D) else m c) → News h₀ L h ((D, lst ys) :: news) → Q .next { s₁ with heap := h, toks := tk }) → G (.ref r)) : G xv := by
  obtain ⟨r, t, u, v, n, Inv, news, rfl, h1, h2, h3, h4, h5, h6, h7, h8, h9, h10⟩ := h; exact kk r t u v n Inv news h1 h2 h3 h4 h5 h6 h7 h8 h9 h10
theorem Assign_one {Q : Flow → Shared → Prop} (hLe : env.locals = L)
    (hsw : swapsWith (.ListComp elt [⟨.Name x px, i1, [], 0⟩] sc pos) (some (.Name z pz)) spos.line env = pure true)
    (hclos : closureFor sc env = pure cl) (hcell : ∀ z ∈ sc.names, z.2 ≠ .cell) (hkind : sc.kind = .function)
    (hnames : ∀ z ∈ sc.names, z.2 = .local → sc.names.lookup z.1 = some .local) (hx : sc.names.lookup x = some .local)
    (hz : env.kindOf z = some .local) (hp : (env.scope.kind == .class || (env.scope.kind == .module && env.locals != env.globals)) = false)
    (h : wpAny (model prog w) A (eval i1 env) (OneSrc prog w A h₀ L m elt x z sc cl env Q) E s)
    (hs1 : ∀ v, foldedSetIterable i1 env v = pure v := by intro _; rfl) :
    wpAny (model prog w) A (exec (.Assign [.Name z pz] (.ListComp elt [⟨.Name x px, i1, [], 0⟩] sc pos) spos) env) Q E s := by
  subst hLe
  rw [exec_Assign_Name_used _ _ _ _ hsw]
  refine wpAny_bind (wpAny_standAt (wpAny_bind ?_))
  show wpAny _ A (do let _ ← comprehension (.ListComp elt [⟨.Name x px, i1, [], 0⟩] sc pos) sc env _ (newList []) false (eval i1 env) (some (assign (.Name z pz) env))) _ _ s
  refine wpAny_bind (wpAny_mono (wpAny_comprehension_free (use := some (assign (.Name z pz) env)) (Q := fun _ s' => Q .next s') rfl hs1 hclos hkind hnames
    (wpAny_mono h (fun xv s₁ h₁ => ?_) fun _ _ e => e)) (fun _ s' hq => wpAny_pure (wpAny_pure hq)) fun _ _ e => e)
  apply OneSrc.el h₁
  intro r t u v n Inv news hh F N hr hsm hn hsz H i00 hQ
  refine wpAny_pyIter_range hr hsm ?_
  rw [hn]
  have up : ∀ b o, s₁.heap.get? b = some o → (s₁.heap.push (rit 0 (n : Int))).get? b = some o := fun b o e => Heap.get?_push_of_some _ e
  have lt0 : ∀ p ∈ news, p.1 ≠ s₁.heap.objs.size := fun p hp => Nat.ne_of_lt (Heap.lt_size (N p hp).1)
  have H' : OneHyp prog w A h₀ env.locals m elt x sc cl env n Inv { s₁ with heap := s₁.heap.push (rit 0 (n : Int)) } := H
  refine one_block (I := s₁.heap.objs.size) H' hh i00 hsz hcell hkind hx (F.keeps up) (all1 ⟨Heap.get?_push_size _ rfl, (Nat.ne_of_lt F.ns.lt).symm, next_is_new F⟩ (N.grown up)) lt0 ?_
  intro D C h' tk m' ys nw F' N' hn hC0 hCL hCD offC hI
  show wpAny _ A (assign (.Name z pz) env (.ref D)) _ _ _
  refine wpAny_assign_Name (wpAny_storeName_local hz F'.ns (fun h₂ hn₂ hs₂ => ?_) hp)
  have hL₀ : h₀.get? env.locals = none := Heap.get?_none_of_le F'.above
  have F₂ : Fr h₀ env.locals h₂ (fun c => if c = z then some (.ref D) else m c) := ⟨hn₂, fun b o e => hs₂.extBut b o (fun q => by rw [q, hL₀] at e; cases e) (F'.keep b o e), F'.above⟩
  refine ⟨m', hn.sameBut hs₂ hCL, fun h'' hs'' => hQ ys nw D h'' _ hI (F₂.change hs'' hCL hC0) (fun p hp => ?_)⟩
  have z : h₂.get? p.1 = some p.2 := hs₂.extBut _ _ (N' p hp).2.1 (N' p hp).1
  refine ⟨hs''.extBut _ _ ?_ z, (N' p hp).2⟩
  rcases List.mem_cons.mp hp with rfl | hp
  · exact Ne.symm hCD
  · exact offC p hp
end

end
section
set_option maxRecDepth 100000
set_option maxHeartbeats 8000000
theorem cn_use0 {w : World} {f : Addr} {d u : Nat} {vs : List Value} {news : Led} {Out : Led → Value → Prop} (C : Cn0 w f d u vs news Out)
    {mg mb : Str → Option Value} {mean : Mt} {dp un : Nat} {gd : Option (List Code)} {cn : Str} {cs : Scope} {a : Addr} {ccd : Value} {cl : List (Str × Addr)} {A₀ : Around} {base h₀ : Heap} {L : Addr} {m : Str → Option Value} {s : Shared}
    {Q E : Value → Shared → Prop} (B : Below A₀ base [] h₀) (F : Fr h₀ L s.heap m) (X : (K w.params).In h₀) (N : News h₀ L s.heap news) (T : TopV mg mb mean h₀) (XB : (K w.params).In base) (TB : TopV mg mb mean base) (hk : cs.kind = .function) (c1 : CodeHd base 34 30) (c2 : CodeHd base 41 37) (hd : dp + d < recursionLimit) (hu : un + u < cLine)
    (ret : ∀ r news' h' tk', Fr h₀ L h' m → News h₀ L h' news' → Out news' r → Q r { s with heap := h', toks := tk' }) :
    wpAny (model pw w) (ktrTop dp un gd cn cs L a ccd cl []) (call (.ref f) vs) Q E s := C _ _ _ _ _ _ _ _ _ _ _ _ _ _ _ _ _ _ _ B F X N T XB TB hk c1 c2 hd hu ret
theorem cn_use0E {w : World} {f : Addr} {d u : Nat} {vs : List Value} {news : Led} {Out : Led → Value → Prop} {TT : (Led → Value → Prop) → Prop} (C : Cn0 w f d u vs news Out) (el : ∀ G : Led → Value → Prop, TT G → ∀ n v, Out n v → G n v)
    {mg mb : Str → Option Value} {mean : Mt} {dp un : Nat} {gd : Option (List Code)} {cn : Str} {cs : Scope} {a : Addr} {ccd : Value} {cl : List (Str × Addr)} {A₀ : Around} {base h₀ : Heap} {L : Addr} {m : Str → Option Value} {s : Shared}
    {Q E : Value → Shared → Prop} (B : Below A₀ base [] h₀) (F : Fr h₀ L s.heap m) (X : (K w.params).In h₀) (N : News h₀ L s.heap news) (T : TopV mg mb mean h₀) (XB : (K w.params).In base) (TB : TopV mg mb mean base) (hk : cs.kind = .function) (c1 : CodeHd base 34 30) (c2 : CodeHd base 41 37) (hd : dp + d < recursionLimit) (hu : un + u < cLine)
    (ret : TT fun n v => ∀ h' tk', Fr h₀ L h' m → News h₀ L h' n → Q v { s with heap := h', toks := tk' }) :
    wpAny (model pw w) (ktrTop dp un gd cn cs L a ccd cl []) (call (.ref f) vs) Q E s := cn_use0 C B F X N T XB TB hk c1 c2 hd hu fun r n h' tk' F' N' o => el _ ret n r o h' tk' F' N'
theorem d258 (w : World) (a b : Int) (ta tn : Tok) (rest : Led) (ps qs : Array Value) (T1 : Tab 32 qual4 ps rest) (T2 : Tab 47 qual5 qs rest) (h0 : -2 ^ 180 ≤ a) (h1 : a < 2 ^ 180) (h2 : -2 ^ 180 ≤ b) (h3 : b < 2 ^ 180) (hr : ∀ p ∈ rest, @Ne Nat p.1 30 ∧ @Ne Nat p.1 37) :
    Cn0 w 258 340 8800 [.int a ta, .int b tn] ((30, tabObj ps) :: (37, tabObj qs) :: rest) (OutB rest) := by
  by_cases hb : b = 0
  · subst hb
    exact d258z w a ta tn rest ps qs T1 T2
  · intro mg mb mean dp un gd cn cs ad ccd cl A₀ base hh L m s Q E B F X N T XB TB hk c1 c2 hd hu hret
    exact d258n w a b ta tn rest ps qs T1 T2 h0 h1 h2 h3 hb hr mg mb mean dp un gd cn cs ad ccd cl [] A₀ base hh L m s Q E B F X N T hk c1 c2 hd hu hret
theorem run_in {x : Int} {dts : List Tk} (w : WF 1 dts) (hl : dts.length ≤ 9) (hx : x.natAbs ≤ 2 ^ 17) : -2 ^ 180 ≤ (run x dts).headD 0 ∧ (run x dts).headD 0 < 2 ^ 180 := by
  have h := run_bnd hx w
  have hlen := run_len x w
  cases hr : run x dts with
  | nil => rw [hr] at hlen; cases hlen
  | cons a q =>
    rw [hr] at h
    obtain ⟨l, h1, h2, _⟩ := h
    have h3 := h2.bits (by omega)
    have h4 : (2 : Nat) ^ 154 ≤ 2 ^ 180 := Nat.pow_le_pow_right (by decide) (by decide)
    show -2 ^ 180 ≤ a ∧ a < 2 ^ 180
    have e : ((2 : Int) ^ 180) = ((2 ^ 180 : Nat) : Int) := by simp
    omega
theorem front {g h : Heap} {L : Addr} {a b c3 c2 c1 t d : Addr × Obj} {ex T : Led} (N : News g L h (a :: b :: (ex ++ (c3 :: c2 :: c1 :: t :: d :: T)))) : News g L h (a :: b :: c3 :: c2 :: c1 :: t :: d :: (ex ++ (c3 :: c2 :: c1 :: t :: d :: T))) := fun p hp => N p (by
  simp only [List.mem_cons, List.mem_append] at hp ⊢
  rcases hp with q | q | q | q | q | q | q | q
  all_goals simp [q])
theorem tl_front {g h : Heap} {L : Addr} {a b c3 c2 c1 t d : Addr × Obj} {T : Led} (N : News g L h (a :: b :: c3 :: c2 :: c1 :: t :: d :: T)) : News g L h (t :: a :: b :: c3 :: c2 :: c1 :: t :: d :: T) := fun p hp => N p (by
  simp only [List.mem_cons] at hp ⊢
  rcases hp with q | q | q | q | q | q | q | q | q
  all_goals simp [q])
theorem tab_front {ln : Nat} {q : Str} {ps : Array Value} {c3 c2 c1 t d : Addr × Obj} {T : Led} (h : Tab ln q ps T) : Tab ln q ps (c3 :: c2 :: c1 :: t :: d :: T) := h.mono fun p hp => .tail _ (.tail _ (.tail _ (.tail _ (.tail _ hp))))
noncomputable def Hr (l : Led) : Prop := ∀ p ∈ l, @Ne Nat p.1 30 ∧ @Ne Nat p.1 37
theorem hr_cons {a : Addr} {o : Obj} {l : Led} (h1 : @LT.lt Nat _ 30 a) (h2 : @LT.lt Nat _ 37 a) (h : Hr l) : Hr ((a, o) :: l) := by
  intro p hp
  rcases List.mem_cons.mp hp with rfl | hp
  · exact ⟨(Nat.ne_of_lt h1).symm, (Nat.ne_of_lt h2).symm⟩
  · exact h p hp
theorem hr_app {ex l : Led} (he : ∀ p ∈ ex, @LT.lt Nat _ 30 p.1 ∧ @LT.lt Nat _ 37 p.1 ∧ ∀ q ∈ l, @LT.lt Nat _ q.1 p.1) (h : Hr l) : Hr (ex ++ l) := by
  intro p hp
  rcases List.mem_append.mp hp with hp | hp
  · exact ⟨(Nat.ne_of_lt (he p hp).1).symm, (Nat.ne_of_lt (he p hp).2.1).symm⟩
  · exact h p hp
theorem min3_N {prog : Program} {w : World} {A : Around} {E : Value → Shared → Prop} {s : Shared} {h₀ : Heap} {L : Addr} {m : Str → Option Value} {news : Led} {a b c : Int} {t u x : Tok} {Q : Value → Shared → Prop} (hh : A.handled = none) (F : Fr h₀ L s.heap m) (N : News h₀ L s.heap news) (ha : 0 ≤ a) (hb : 0 ≤ b) (hc : 0 ≤ c)
    (h : ∀ h' tk M t', 0 ≤ M → Fr h₀ L h' m → News h₀ L h' news → Q (.int M t') { s with heap := h', toks := tk }) :
    wpAny (model prog w) A (call (.builtin "min") [.int a t, .int b u, .int c x]) Q E s :=
  min_three_ints hh fun h' tk hk => by
    have F' := F.grownK hk
    have N' := N.grown hk
    split <;> split
    · exact h h' tk _ _ hc F' N'
    · exact h h' tk _ _ hb F' N'
    · exact h h' tk _ _ hc F' N'
    · exact h h' tk _ _ ha F' N'


end
local macro_rules | `(tactic| walk_at "call ref") => `(tactic| refine Halt.go ?_)
local macro_rules | `(tactic| walk_at "compareOp NotEq ref ref") => `(tactic| refine Halt.go ?_)
local macro_rules | `(tactic| walk_at "compareOp Eq ref ref") => `(tactic| refine Halt.go ?_)
section
set_option maxRecDepth 100000
set_option maxHeartbeats 0
theorem fillLD : (PySem.Challenge.rw_wb0084_01 = PySem.Challenge.rw_wb0084_01) ∧ K = K := by
  k_fill
  exact ⟨rfl, rfl⟩
local macro_rules | `(tactic| walk_at "OneSrc") => `(tactic| refine Halt.go ?_)
local macro_rules | `(tactic| walk_at "TwoSrc") => `(tactic| refine Halt.go ?_)
theorem tab_strip {ln : Nat} {q : Str} {ps : Array Value} {ex l : Led} {m : Str → Option Value} {I C D : Addr} {a n : Int} {oC : Obj} {ys : List Value} (h : Tab ln q ps (ex ++ ((I, rit a n) :: (C, oC) :: (D, LCg.lst ys) :: l))) (hC : LCg.NsObj oC m) : Tab ln q ps (ex ++ l) := by
  rcases h with h | ⟨c, oc, vs, t, e, hm, d, v⟩
  · exact .inl h
  · refine .inr ⟨c, oc, vs, t, e, ?_, d, v⟩
    rcases List.mem_append.mp hm with hm | hm
    · exact List.mem_append_left _ hm
    · rcases List.mem_cons.mp hm with e1 | hm
      · obtain ⟨rfl, rfl⟩ := Prod.mk.inj e1
        cases d
        cases v
      · rcases List.mem_cons.mp hm with e1 | hm
        · obtain ⟨rfl, rfl⟩ := Prod.mk.inj e1
          obtain ⟨es, ep, hd, _⟩ := hC
          rw [hd] at d
          cases d
        · rcases List.mem_cons.mp hm with e1 | hm
          · obtain ⟨rfl, rfl⟩ := Prod.mk.inj e1
            cases d
          · exact List.mem_append_right _ hm
theorem news_front {g h : Heap} {L : Addr} {a : Addr × Obj} {l : Led} (N : News g L h l) (ha : a ∈ l) : News g L h (a :: l) := fun p hp => by
  rcases List.mem_cons.mp hp with rfl | hp
  · exact N _ ha
  · exact N p hp
theorem lift32 {α : Type} {P : α → Prop} {a b c x y : α} {l : List α} (h : ∀ p ∈ a :: b :: c :: x :: y :: l, P p) : ∀ p ∈ x :: y :: a :: b :: c :: l, P p := fun p hp => h p (by
  simp only [List.mem_cons] at hp ⊢
  rcases hp with q | q | q | q | q | q
  all_goals simp [q])
theorem off_new {X : Addr} {a b a' b' : Obj} {f1 f2 f3 f4 f5 : Addr × Obj} {ex T : Led} (h : ∀ p ∈ ((30 : Addr), a) :: ((37 : Addr), b) :: f1 :: f2 :: f3 :: f4 :: f5 :: T, p.1 ≠ X) (hex : ∀ p ∈ ex, @LT.lt Nat _ X p.1) :
    ∀ p ∈ ((30 : Addr), a') :: ((37 : Addr), b') :: f1 :: f2 :: f3 :: f4 :: f5 :: (ex ++ (f1 :: f2 :: f3 :: f4 :: f5 :: T)), p.1 ≠ X := by
  intro p hp
  rcases List.mem_cons.mp hp with rfl | hp
  · exact h (30, a) (.head _)
  · rcases List.mem_cons.mp hp with rfl | hp
    · exact h (37, b) (.tail _ (.head _))
    · have k : ∀ q ∈ f1 :: f2 :: f3 :: f4 :: f5 :: T, q.1 ≠ X := fun q hq => h q (.tail _ (.tail _ hq))
      simp only [List.mem_cons, List.mem_append] at hp
      rcases hp with rfl | rfl | rfl | rfl | rfl | hp | hp
      · exact k _ (.head _)
      · exact k _ (.tail _ (.head _))
      · exact k _ (.tail _ (.tail _ (.head _)))
      · exact k _ (.tail _ (.tail _ (.tail _ (.head _))))
      · exact k _ (.tail _ (.tail _ (.tail _ (.tail _ (.head _)))))
      · exact (Nat.ne_of_lt (hex p hp)).symm
      · exact k p (by simpa using hp)
theorem new_led {g h : Heap} {L : Addr} {a b i c d f1 f2 f3 f4 f5 : Addr × Obj} {ex T : Led} (N : News g L h (a :: b :: (ex ++ (i :: c :: d :: f1 :: f2 :: f3 :: f4 :: f5 :: T)))) : News g L h (i :: c :: d :: a :: b :: f1 :: f2 :: f3 :: f4 :: f5 :: (ex ++ (f1 :: f2 :: f3 :: f4 :: f5 :: T))) := fun p hp => N p (by
  simp only [List.mem_cons, List.mem_append] at hp ⊢
  rcases hp with q | q | q | q | q | q | q | q | q | q | q | q | q | q | q | q | q
  all_goals simp [q])
theorem ints_range_snoc {ys : List Value} {f : Nat → Int} {i : Nat} {t : Tok} (h : IntsAre ys ((List.range i).map f)) : IntsAre (ys ++ [.int (f i) t]) ((List.range (i + 1)).map f) := by
  rw [List.range_succ, List.map_append]
  exact h.append (.cons _ t .nil)
theorem hr_ne {a : Addr} {o : Obj} {l : Led} (h1 : @Ne Nat a 30) (h2 : @Ne Nat a 37) (h : Hr l) : Hr ((a, o) :: l) := by
  intro p hp
  rcases List.mem_cons.mp hp with rfl | hp
  · exact ⟨h1, h2⟩
  · exact h p hp
noncomputable def pre (dts : List Tk) (i : Nat) : List Int := (List.range i).flatMap fun (a : Nat) => (List.range (2 ^ a)).map fun (b : Nat) => flp dts (a : Int) (b : Int)
noncomputable def InvT (dts : List Tk) (i j : Nat) (ys : List Value) : Prop := i ≤ 3 ∧ j ≤ 2 ^ i ∧ IntsAre ys (pre dts i ++ (List.range j).map fun (b : Nat) => flp dts (i : Int) (b : Int))
theorem invT_next {dts : List Tk} {i : Nat} {ys : List Value} (h : i < 3) (k : InvT dts i (2 ^ i) ys) : InvT dts (i + 1) 0 ys := by
  refine ⟨h, Nat.zero_le _, ?_⟩
  have e : pre dts (i + 1) = pre dts i ++ (List.range (2 ^ i)).map fun (b : Nat) => flp dts (i : Int) (b : Int) := by
    unfold pre
    rw [List.range_succ, List.flatMap_append]
    simp
  rw [e]
  simpa using k.2.2
theorem invT_elt {dts : List Tk} {i j : Nat} {ys : List Value} {t : Tok} (h : j < 2 ^ i) (k : InvT dts i j ys) : InvT dts i (j + 1) (ys ++ [.int (flp dts (i : Int) (j : Int)) t]) := by
  refine ⟨k.1, h, ?_⟩
  rw [List.range_succ, List.map_append, ← List.append_assoc]
  exact k.2.2.append (.cons _ t .nil)
theorem invT_size {dts : List Tk} {i j : Nat} {ys : List Value} (k : InvT dts i j ys) : ys.length ≤ sizeLine := by
  obtain ⟨h1, h2, h3⟩ := k
  have e := h3.length
  rw [List.length_append, List.length_map, List.length_range] at e
  have hp : (pre dts i).length ≤ 7 ∧ 2 ^ i ≤ 8 := by
    rcases i with _ | _ | _ | _ | i
    · exact ⟨by show 0 ≤ 7; decide, by decide⟩
    · exact ⟨by show 1 ≤ 7; decide, by decide⟩
    · exact ⟨by show 3 ≤ 7; decide, by decide⟩
    · exact ⟨by show 7 ≤ 7; decide, by decide⟩
    · omega
  exact Nat.le_trans (m := 15) (by omega) (by decide)
theorem invT_end {dts : List Tk} {ys : List Value} (k : InvT dts 3 0 ys) : IntsAre ys (F7 dts) := by
  have h := k.2.2
  have e : pre dts 3 ++ (List.range 0).map (fun (b : Nat) => flp dts ((3 : Nat) : Int) (b : Int)) = F7 dts := rfl
  rwa [e] at h
theorem any0 (l : List Int) : ((decide (¬ (0 : Int) ∈ l)) == !l.any (fun x => x == 0)) = true := by
  by_cases h : (0 : Int) ∈ l
  · have e : l.any (fun x => x == 0) = true := List.any_eq_true.mpr ⟨0, h, rfl⟩
    simp [h, e]
  · have e : l.any (fun x => x == 0) = false := by
      rw [List.any_eq_false]
      intro x hx
      have : x ≠ 0 := fun q => h (q ▸ hx)
      simpa using this
    simp [h, e]
noncomputable abbrev five (L TL DR : Addr) (oTu oTk oDr : Obj) (tvs dvs : List Value) (tn dn : Nat) (T : Led) : Led := (L + 1 + 1 + 1, oTu) :: (L + 1 + 1, oTk) :: (L + 1, oDr) :: (TL, W.listOf tvs.toArray tn) :: (DR, W.listOf dvs.toArray dn) :: T
noncomputable def InvA (L TL DR : Addr) (oTu oTk oDr : Obj) (tvs dvs : List Value) (tn dn : Nat) (dts : List Tk) (i : Nat) (ys : List Value) (news : Led) : Prop :=
  i ≤ 8 ∧ IntsAre ys ((List.range i).map fun (y : Nat) => r8 dts (y : Int)) ∧ ∃ ps qs T, news = (30, tabObj ps) :: (37, tabObj qs) :: five L TL DR oTu oTk oDr tvs dvs tn dn T ∧ Tab 32 qual4 ps T ∧ Tab 47 qual5 qs T ∧ Hr (five L TL DR oTu oTk oDr tvs dvs tn dn T)
theorem law_d (w : World) {mg mb : Str → Option Value} {mean : Mt} {G : Heap} {L fa : Addr} {cd : Value} {u : Str → Option Value} {s : Shared} {TL DR : Addr} {tvs dvs : List Value} {tn dn : Nat} {dts : List Tk} {oTu oTk oDr : Obj} {tu : Int} {tt2 : Tok} {ps qs : Array Value} {T : Led} {Q : Flow → Shared → Prop} {E : Value → Shared → Prop}
    (K' : Below callerA G [] G) (X' : (K w.params).In G) (TV : TopV mg mb mean G) (c1 : CodeHd G 34 30) (c2 : CodeHd G 41 37)
    (F0 : Fr G L s.heap u)
    (N0 : News G L s.heap ((30, tabObj ps) :: (37, tabObj qs) :: (L + 1 + 1 + 1, oTu) :: (L + 1 + 1, oTk) :: (L + 1, oDr) :: (TL, W.listOf tvs.toArray tn) :: (DR, W.listOf dvs.toArray dn) :: T))
    (T1 : Tab 32 qual4 ps T) (T2 : Tab 47 qual5 qs T) (hr : Hr ((L + 1 + 1 + 1, oTu) :: (L + 1 + 1, oTk) :: (L + 1, oDr) :: (TL, W.listOf tvs.toArray tn) :: (DR, W.listOf dvs.toArray dn) :: T))
    (dTu : oTu.data = .cell (some (.int tu tt2))) (dTk : oTk.data = .cell (some (.ref TL))) (dDr : oDr.data = .cell (some (.ref DR)))
    (hT : TkAre tvs dts) (q5 : TkAre dvs dts) (q6 : WF 1 dts) (q7 : dts.length ≤ 9) (btu : tu = 1 ∨ tu = -1)
    (l0 : 37 < L ∧ 30 < L) (l2 : L + 1 + 1 + 1 < DR ∧ L + 1 + 1 < DR ∧ L + 1 < DR ∧ 37 < DR ∧ 30 < DR) (l3 : DR < TL ∧ L + 1 + 1 + 1 < TL ∧ L + 1 + 1 < TL ∧ L + 1 < TL ∧ 37 < TL ∧ 30 < TL)
    (hQ : ∀ h' tk' m' ps qs news', Fr G L h' m' → News G L h' ((30, tabObj ps) :: (37, tabObj qs) :: news') → Q (.ret (.bool true)) { s with heap := h', toks := tk' }) :
    wpAny (model pw w) (callerA.deeper (envOfC (Str.ofString "law") fSco35 L fa cd)) (execs (fBody35.drop 13) (envOfC (Str.ofString "law") fSco35 L fa cd)) Q E s := by
  dsimp only [fBody35, consOf, List.drop_succ_cons, List.drop_zero]
  refine wpAny_execs_cons ?_
  k_dflt (refine Assign_one (L := L) (h₀ := G) (m := u) (by rfl) (by with_unfolding_all rfl) (by with_unfolding_all rfl) (by decide) (by rfl) (by decide) (by rfl) (by rfl) (by rfl) ?_)
  k_steps
  refine Halt.mk ?_
  refine ⟨_, _, _, _, 8, InvA L TL DR oTu oTk oDr tvs dvs tn dn dts, _, rfl, rfl, by assumption, by assumption, by assumption, by decide, by decide, ?_, ?_, ?_, ?_⟩
  · rintro i ys l ⟨h8, hi, _⟩
    rw [hi.length]
    simp
    exact Nat.le_trans h8 (by decide)
  · unfold OneHyp
    rintro i ys news tx I C oC D m₂ h tk E' hlt ⟨_, hi, ps1, qs1, T3, rfl, U1, U2, hr1⟩ hC hx F1 N1 oI oC1 oD
    have hi8 : (i : Int) < 8 := by omega
    have h30I := oI _ (.head _)
    have h37I := oI _ (.tail _ (.head _))
    have h30C := oC1 _ (.head _)
    have h37C := oC1 _ (.tail _ (.head _))
    have h30D := oD _ (.head _)
    have h37D := oD _ (.tail _ (.head _))
    dsimp only at h30I h37I h30C h37C h30D h37D
    k_steps
    refine Halt.mk ?_
    have M1 := news_front N1 (a := (TL, W.listOf tvs.toArray tn)) (.tail _ (.tail _ (.tail _ (.tail _ (.tail _ (.tail _ (.tail _ (.tail _ (.head _)))))))))
    k_dflt (refine' cn_useE (d237 w TL tvs dts tn (i : Int) tx _ hT q6 q7 (by omega) (by omega)) OutTold.el ?k1 ?k2 ?k3 ?k4 ?k5 ?k6 ?kc1 ?kc2 ?k7 ?k8 ?_)
    case k4 => exact M1
    case k1 => exact K'
    case k2 => k_asm
    case k3 => exact X'
    case k5 => exact TV
    case k6 => exact rfl
    case kc1 => exact c1
    case kc2 => exact c2
    case k7 => ktr_room
    case k8 => ktr_units
    clear M1 N1
    intro t2 h2 tk2 F2 N2
    have N2' := ndp N2
    clear N2
    k_steps
    refine Halt.mk ?_
    with_reducible rename News _ _ _ _ => zN
    have M2 := lift32 zN
    obtain ⟨v0, v1⟩ := run_in q6 q7 (x := (i : Int)) (by omega)
    have hr2 := hr_ne (o := rit ((i : Int) + 1) (((8 : Nat) : Int) - i - 1)) h30I.symm h37I.symm (hr_ne (o := oC) h30C.symm h37C.symm (hr_ne (o := LCg.lst ys) h30D.symm h37D.symm hr1))
    k_dflt (refine' cn_useE (d251 w ((run (i : Int) dts).headD 0) 3 tu _ _ _ _ _ _ (U1.mono fun p hp => .tail _ (.tail _ (.tail _ (.tail _ (.tail _ (.tail _ (.tail _ (.tail _ hp)))))))) (U2.mono fun p hp => .tail _ (.tail _ (.tail _ (.tail _ (.tail _ (.tail _ (.tail _ (.tail _ hp)))))))) v0 v1 (by decide) (by decide) btu hr2) OutI.el ?k1 ?k2 ?k3 ?k4 ?k5 ?k6 ?kc1 ?kc2 ?k7 ?k8 ?_)
    case k4 => exact M2
    case k1 => exact K'
    case k2 => k_asm
    case k3 => exact X'
    case k5 => exact TV
    case k6 => exact rfl
    case kc1 => exact c1
    case kc2 => exact c2
    case k7 => ktr_room
    case k8 => ktr_units
    intro ps2 qs2 ex2 t3 V1 V2 hex h3 tk3 F3 N3
    refine ⟨h3, tk3, (30, tabObj ps2) :: (37, tabObj qs2) :: five L TL DR oTu oTk oDr tvs dvs tn dn (ex2 ++ five L TL DR oTu oTk oDr tvs dvs tn dn T3), rfl, ⟨hlt, ints_range_snoc hi, ps2, qs2, _, rfl, tab_strip V1 hC, tab_strip V2 hC, ?_⟩, F3, new_led N3, off_new oI fun p hp => (hex p hp).2.2 _ (.head _), off_new oC1 fun p hp => (hex p hp).2.2 _ (.tail _ (.head _)), off_new oD fun p hp => (hex p hp).2.2 _ (.tail _ (.tail _ (.head _)))⟩
    intro p hp
    simp only [List.mem_cons, List.mem_append] at hp
    rcases hp with rfl | rfl | rfl | rfl | rfl | hp | hp
    · exact hr1 _ (.head _)
    · exact hr1 _ (.tail _ (.head _))
    · exact hr1 _ (.tail _ (.tail _ (.head _)))
    · exact hr1 _ (.tail _ (.tail _ (.tail _ (.head _))))
    · exact hr1 _ (.tail _ (.tail _ (.tail _ (.tail _ (.head _)))))
    · exact ⟨(Nat.ne_of_lt (hex p hp).1).symm, (Nat.ne_of_lt (hex p hp).2.1).symm⟩
    · exact hr1 p (by simpa using hp)
  · exact ⟨by decide, .nil, ps, qs, T, rfl, T1, T2, hr⟩
  · rintro ys news D h tk ⟨_, hi, ps1, qs1, T3, rfl, U1, U2, hr1⟩ F1 N1
    dsimp only
    refine wpAny_execs_cons ?_
    k_dflt (refine Assign_two (L := L) (h₀ := G) (m := fun c => if c = Str.ofString "rests" then some (.ref D) else u c) (by rfl) (by with_unfolding_all rfl) (by with_unfolding_all rfl) (by decide) (by rfl) (by decide) (by rfl) (by rfl) (by decide) (by rfl) (by rfl) ?_)
    k_steps
    refine Halt.mk ?_
    refine ⟨_, _, _, _, 3, fun i => 2 ^ i, InvT dts, _, rfl, rfl, by assumption, by assumption, by assumption, by decide, by decide, ⟨?_, ?_, ?_, ?_, ?_⟩, ?_, ?_⟩
    · rintro i t I1 o1 C oC D1 oD m₂ h tk E' hlt hC hx F3 N3
      have hi3 : (i : Int) < 3 := by omega
      have hi0 : 0 ≤ (i : Int) := by omega
      have e2 : (((2 ^ i : Nat)) : Int) = 2 ^ ((i : Int)).toNat := by rw [Int.toNat_natCast]; push_cast; rfl
      unfold SrcP
      dsimp only
      rw [e2]
      k_steps
      all_goals assumption
    · rintro i j zs tx ty I1 o1 I2 o2 C oC D1 m₂ h tk E' hlt hj hk hC hx hy F3 N3
      have hi3 : (i : Int) < 3 := by omega
      have hi0 : 0 ≤ (i : Int) := by omega
      have hj8 : (j : Int) < 8 := by
        have : 2 ^ i ≤ 2 ^ 3 := Nat.pow_le_pow_right (by decide) (by omega)
        omega
      k_steps
      refine Halt.mk ?_
      have M3 := news_front N3 (a := (DR, W.listOf dvs.toArray dn)) (.tail _ (.tail _ (.tail _ (.tail _ (.tail _ (.tail _ (.tail _ (.tail _ (.tail _ (.tail _ (.tail _ (.head _))))))))))))
      k_dflt (refine' cn_useE (d244 w DR dvs dts dn (j : Int) (i : Int) ty tx _ q5 q6 q7 (by omega) (by omega) hi0 (by omega)) OutPlain.el ?k1 ?k2 ?k3 ?k4 ?k5 ?k6 ?kc1 ?kc2 ?k7 ?k8 ?_)
      case k4 => exact M3
      case k1 => exact K'
      case k2 => k_asm
      case k3 => exact X'
      case k5 => exact TV
      case k6 => exact rfl
      case kc1 => exact c1
      case kc2 => exact c2
      case k7 => ktr_room
      case k8 => ktr_units
      intro D5 t5 u5 l5 h5 tk5 F5 N5
      k_steps
      all_goals first | exact invT_elt hj hk | assumption | exact fun p hp => N5 p (.tail _ (.tail _ hp))
    · exact fun i ys h k => invT_next h k
    · exact fun i j ys k => invT_size k
    · intro i hi
      rcases i with _ | _ | _ | i
      · exact ⟨by decide, by decide⟩
      · exact ⟨by decide, by decide⟩
      · exact ⟨by decide, by decide⟩
      · omega
    · exact ⟨by decide, by decide, .nil⟩
    · rintro zs D2 h2 tk2 hI F3 N3
      have F4 : Fr G L h2 (fun c => if c = Str.ofString "turned" then some (.ref D2) else if c = Str.ofString "rests" then some (.ref D) else u c) := F3
      clear F3
      have hi' : IntsAre ys (R8 dts) := hi
      have hI' := invT_end hI
      dsimp only
      k_steps
      k_dflt (refine' kso_min ?F ?N ?l ?i ?ne ?hh ?_)
      case F => k_asm
      case N => k_asm
      case l => exact ⟨_, N3.get (.tail _ (.head _)), rfl, _, rfl⟩
      case i => exact hi'
      case ne => exact (by decide : 0 < 8)
      case hh => exact rfl
      rintro h3 M tM tk3 F5 N5 hM hle
      have hM0 := (R8_in dts M hM).1
      clear F4 N3
      k_steps
      k_dflt (refine' kso_sorted ?F ?N ?l ?i ?hn ?_)
      case F => k_asm
      case N => k_asm
      case l => exact ⟨_, N5.get (.tail _ (.head _)), rfl, _, rfl⟩
      case i => exact hi'
      case hn => exact (by decide : 8 < 64)
      rintro D5 vs5 ns5 c5 h5 F6 N6 l6 hI6 hlen6 hperm hpw _
      clear F5 N5
      have l7 := l6
      (try k_lt l7)
      k_steps
      refine Halt.mk ?_
      rename_i y9 _ n9 _ _ il9 _ ca9 _
      k_dflt (refine' eq_intsK ?k1 ?k2 ?k3 ?k4 ?k5 ?_)
      case k1 => exact ⟨_, n9.get (.head _), rfl, _, rfl⟩
      case k2 => exact hI6
      case k3 => exact il9
      case k4 => exact IntsAre.ofCarried ca9
      case k5 => ktr_units
      have e9 : decide (ns5 = rangeInts 0 1 ((8 : Int) - 0).toNat) = decide ((0 : Int) ∉ F7 dts) := by
        have := last_law q6 hperm hpw
        exact decide_eq_decide.mpr this
      rw [e9]
      k_steps
      rw [any0]
      exact hQ _ _ _ ps1 qs1 _ (by assumption) (fun p hp => n9 p (.tail _ (.tail _ (.tail _ hp))))


end
section
set_option maxRecDepth 100000
set_option maxHeartbeats 0
theorem fillLC : (PySem.Challenge.rw_wb0084_01 = PySem.Challenge.rw_wb0084_01) ∧ K = K := by
  k_fill
  exact ⟨rfl, rfl⟩
local macro_rules | `(tactic| walk_at "execs cons") => `(tactic| ((with_reducible show wpAny _ _ (execs (Stmt.Assign [Expr.Name (Str.ofString "rests") _] _ _ :: _) _) _ _ _); refine Halt.go ?_))
theorem law_c (w : World) {mg mb : Str → Option Value} {mean : Mt} {G : Heap} {L fa : Addr} {cd : Value} {u r : Str → Option Value} {s : Shared} {TL DR : Addr} {tvs dvs : List Value} {tn dn : Nat} {dts : List Tk} {oTu oTk oDr : Obj} {x k tu nr aw vl fl : Int} {tx tkk tt2 tnr taw tvl tfl : Tok} {Q : Flow → Shared → Prop} {E : Value → Shared → Prop}
    (K' : Below callerA G [] G) (X' : (K w.params).In G) (TV : TopV mg mb mean G) (c1 : CodeHd G 34 30) (c2 : CodeHd G 41 37)
    (F0 : Fr G L s.heap (fun y => if y = Str.ofString "told" then u y else kstB r [(Str.ofString "x", .int x tx), (Str.ofString "k", .int k tkk), (Str.ofString "near", .int nr tnr), (Str.ofString "away", .int aw taw), (Str.ofString "value", .int vl tvl), (Str.ofString "flips", .int fl tfl)] y))
    (N0 : News G L s.heap [(TL, W.listOf tvs.toArray tn), (30, tabObj #[]), (37, tabObj #[]), (DR, W.listOf dvs.toArray dn), (L + 1 + 1 + 1, oTu), (L + 1 + 1, oTk), (L + 1, oDr)])
    (dTu : oTu.data = .cell (some (.int tu tt2))) (dTk : oTk.data = .cell (some (.ref TL))) (dDr : oDr.data = .cell (some (.ref DR)))
    (hT : TkAre tvs dts) (q5 : TkAre dvs dts) (q6 : WF 1 dts) (q7 : dts.length ≤ 9) (bx0 : -2 ^ 17 ≤ x) (bx1 : x < 2 ^ 17) (bn0 : -2 ^ 17 ≤ nr) (bn1 : nr < 2 ^ 17) (ba0 : -2 ^ 17 ≤ aw) (ba1 : aw < 2 ^ 17) (bk0 : 0 ≤ k) (bk1 : k < 6) (btu : tu = 1 ∨ tu = -1)
    (hfl : B01 fl) (hvl : vl = (run x dts).headD 0) (hfar : ((run aw dts).headD 0).fmod (2 ^ (k + 1).toNat) = ((run x dts).headD 0).fmod (2 ^ (k + 1).toNat))
    (hth : Builtin.bitXor (((run x dts).headD 0).fmod (2 ^ (k + 1).toNat)) (((run nr dts).headD 0).fmod (2 ^ (k + 1).toNat)) = fl * 2 ^ k.toNat)
    (l0 : 37 < L ∧ 30 < L) (l2 : L + 1 + 1 + 1 < DR ∧ L + 1 + 1 < DR ∧ L + 1 < DR ∧ 37 < DR ∧ 30 < DR) (l3 : DR < TL ∧ L + 1 + 1 + 1 < TL ∧ L + 1 + 1 < TL ∧ L + 1 < TL ∧ 37 < TL ∧ 30 < TL)
    (hQ : ∀ h' tk' m' ps qs news', Fr G L h' m' → News G L h' ((30, tabObj ps) :: (37, tabObj qs) :: news') → Q (.ret (.bool true)) { s with heap := h', toks := tk' }) :
    wpAny (model pw w) (callerA.deeper (envOfC (Str.ofString "law") fSco35 L fa cd)) (execs (fBody35.drop 7) (envOfC (Str.ofString "law") fSco35 L fa cd)) Q E s := by
  dsimp only [fBody35, consOf, List.drop_succ_cons, List.drop_zero]
  obtain ⟨v0, v1⟩ := run_in q6 q7 (x := x) (by omega)
  obtain ⟨w0, w1⟩ := run_in q6 q7 (x := aw) (by omega)
  obtain ⟨n0, n1⟩ := run_in q6 q7 (x := nr) (by omega)
  try dsimp only
  k_steps
  refine Halt.mk ?_
  k_dflt (refine' cn_useE (d237 w TL tvs dts tn x tx _ hT q6 q7 (by omega) bx1) OutTold.el ?k1 ?k2 ?k3 ?k4 ?k5 ?k6 ?kc1 ?kc2 ?k7 ?k8 ?_)
  case k4 => k_asm
  case k1 => exact K'
  case k2 => k_asm
  case k3 => exact X'
  case k5 => exact TV
  case k6 => exact rfl
  case kc1 => exact c1
  case kc2 => exact c2
  case k7 => ktr_room
  case k8 => ktr_units
  intro t1 h1 tk1 F1 N1
  try dsimp only
  k_steps
  refine Halt.mk ?_
  k_dflt (refine' cn_useE (d237 w TL tvs dts tn aw taw _ hT q6 q7 (by omega) ba1) OutTold.el ?k1 ?k2 ?k3 ?k4 ?k5 ?k6 ?kc1 ?kc2 ?k7 ?k8 ?_)
  case k4 => k_asm
  case k1 => exact K'
  case k2 => k_asm
  case k3 => exact X'
  case k5 => exact TV
  case k6 => exact rfl
  case kc1 => exact c1
  case kc2 => exact c2
  case k7 => ktr_room
  case k8 => ktr_units
  intro t2 h2 tk2 F2 N2
  rw [← hvl]
  generalize hW : (run aw dts).headD 0 = W2 at *
  rw [← hvl] at v0 v1 hfar hth
  have hrG : ∀ T, Hr T → Hr ((L + 1 + 1 + 1, oTu) :: (L + 1 + 1, oTk) :: (L + 1, oDr) :: (TL, W.listOf tvs.toArray tn) :: (DR, W.listOf dvs.toArray dn) :: T) := fun T h => hr_cons (Nat.lt_succ_of_lt (Nat.lt_succ_of_lt (Nat.lt_succ_of_lt l0.2))) (Nat.lt_succ_of_lt (Nat.lt_succ_of_lt (Nat.lt_succ_of_lt l0.1))) (hr_cons (Nat.lt_succ_of_lt (Nat.lt_succ_of_lt l0.2)) (Nat.lt_succ_of_lt (Nat.lt_succ_of_lt l0.1)) (hr_cons (Nat.lt_succ_of_lt l0.2) (Nat.lt_succ_of_lt l0.1) (hr_cons l3.2.2.2.2.2 l3.2.2.2.2.1 (hr_cons l2.2.2.2.2 l2.2.2.2.1 h))))
  have hr0 : Hr ((L + 1 + 1 + 1, oTu) :: (L + 1 + 1, oTk) :: (L + 1, oDr) :: (TL, W.listOf tvs.toArray tn) :: (DR, W.listOf dvs.toArray dn) :: []) := hrG [] (fun p hp => nomatch hp)
  try dsimp only
  k_steps
  all_goals first | (refine Halt.mk ?_) | (exfalso; rename_i hc; exact hc rfl)
  rename_i D1 hh1 lD1 hh2 hh3 hh4 zF zN he1
  clear he1
  have M1 : News G L _ [(30, tabObj #[]), (37, tabObj #[]), (L + 1 + 1 + 1, oTu), (L + 1 + 1, oTk), (L + 1, oDr), (TL, W.listOf tvs.toArray tn), (DR, W.listOf dvs.toArray dn)] := fun p hp => zN p ((by (repeat (refine List.forall_mem_cons.mpr ⟨by (repeat (first | exact List.mem_cons_self .. | refine List.mem_cons_of_mem _ ?_)), ?_⟩)); exact List.forall_mem_nil _ : ∀ p ∈ [(30, tabObj #[]), (37, tabObj #[]), (L + 1 + 1 + 1, oTu), (L + 1 + 1, oTk), (L + 1, oDr), (TL, W.listOf tvs.toArray tn), (DR, W.listOf dvs.toArray dn)], p ∈ _) p hp)
  clear zN
  k_dflt (refine' cn_use0E (d258 w W2 vl _ _ ((L + 1 + 1 + 1, oTu) :: (L + 1 + 1, oTk) :: (L + 1, oDr) :: (TL, W.listOf tvs.toArray tn) :: (DR, W.listOf dvs.toArray dn) :: []) _ _ (.inl rfl) (.inl rfl) w0 w1 v0 v1 hr0) OutB.el ?k1 ?k2 ?k3 ?k4 ?k5 ?kb1 ?kb2 ?k6 ?kc1 ?kc2 ?k7 ?k8 ?_)
  case k4 => exact M1
  case k1 => exact K'
  case k2 => k_asm
  case k3 => exact X'
  case k5 => exact TV
  case kb1 => exact X'
  case kb2 => exact TV
  case k6 => exact rfl
  case kc1 => exact c1
  case kc2 => exact c2
  case k7 => ktr_room
  case k8 => ktr_units
  clear M1
  intro ps3 qs3 ex3 T13 T23 hex3 h3 tk3 F3 N3
  have N3' := front N3
  have hr3 := hrG _ (hr_app hex3 hr0)
  generalize ex3 ++ ((L + 1 + 1 + 1, oTu) :: (L + 1 + 1, oTk) :: (L + 1, oDr) :: (TL, W.listOf tvs.toArray tn) :: (DR, W.listOf dvs.toArray dn) :: []) = T3 at *
  clear N3
  try dsimp only
  k_steps
  refine Halt.mk ?_
  k_dflt (refine' cn_use0E (d258 w vl W2 _ _ _ _ _ (tab_front T13) (tab_front T23) v0 v1 w0 w1 hr3) OutB.el ?k1 ?k2 ?k3 ?k4 ?k5 ?kb1 ?kb2 ?k6 ?kc1 ?kc2 ?k7 ?k8 ?_)
  case k4 => k_asm
  case k1 => exact K'
  case k2 => k_asm
  case k3 => exact X'
  case k5 => exact TV
  case kb1 => exact X'
  case kb2 => exact TV
  case k6 => exact rfl
  case kc1 => exact c1
  case kc2 => exact c2
  case k7 => ktr_room
  case k8 => ktr_units
  intro ps4 qs4 ex4 T14 T24 hex4 h4 tk4 F4 N4
  have N4' := front N4
  have hr4 := hrG _ (hr_app hex4 hr3)
  generalize ex4 ++ ((L + 1 + 1 + 1, oTu) :: (L + 1 + 1, oTk) :: (L + 1, oDr) :: (TL, W.listOf tvs.toArray tn) :: (DR, W.listOf dvs.toArray dn) :: T3) = T4 at *
  clear N4
  try dsimp only
  k_steps
  refine Halt.mk ?_
  k_dflt (refine' cn_useE (d251 w vl (k + 1) tu _ _ _ _ _ _ (tab_front T14) (tab_front T24) v0 v1 (by omega) (by omega) btu hr4) OutI.el ?k1 ?k2 ?k3 ?k4 ?k5 ?k6 ?kc1 ?kc2 ?k7 ?k8 ?_)
  case k4 => k_asm
  case k1 => exact K'
  case k2 => k_asm
  case k3 => exact X'
  case k5 => exact TV
  case k6 => exact rfl
  case kc1 => exact c1
  case kc2 => exact c2
  case k7 => ktr_room
  case k8 => ktr_units
  intro ps5 qs5 ex5 tz5 T15 T25 hex5 h5 tk5 F5 N5
  have N5' := front N5
  have hr5 := hrG _ (hr_app hex5 hr4)
  generalize ex5 ++ ((L + 1 + 1 + 1, oTu) :: (L + 1 + 1, oTk) :: (L + 1, oDr) :: (TL, W.listOf tvs.toArray tn) :: (DR, W.listOf dvs.toArray dn) :: T4) = T5 at *
  clear N5
  try dsimp only
  k_steps
  refine Halt.mk ?_
  with_reducible rename News _ _ _ _ => zN
  have M6 := tl_front zN
  clear zN
  k_dflt (refine' cn_useE (d237 w TL tvs dts tn nr tnr _ hT q6 q7 (by omega) bn1) OutTold.el ?k1 ?k2 ?k3 ?k4 ?k5 ?k6 ?kc1 ?kc2 ?k7 ?k8 ?_)
  case k4 => exact M6
  case k1 => exact K'
  case k2 => k_asm
  case k3 => exact X'
  case k5 => exact TV
  case k6 => exact rfl
  case kc1 => exact c1
  case kc2 => exact c2
  case k7 => ktr_room
  case k8 => ktr_units
  clear M6
  intro t6 h6 tk6 F6 N6
  have N6' : News G L h6 _ := fun p hp => N6 p (.tail _ hp)
  clear N6
  generalize hV3 : (run nr dts).headD 0 = W3 at *
  try dsimp only
  k_steps
  refine Halt.mk ?_
  k_dflt (refine' cn_useE (d251 w W3 (k + 1) tu _ _ _ _ _ _ (tab_front T15) (tab_front T25) n0 n1 (by omega) (by omega) btu hr5) OutI.el ?k1 ?k2 ?k3 ?k4 ?k5 ?k6 ?kc1 ?kc2 ?k7 ?k8 ?_)
  case k4 => k_asm
  case k1 => exact K'
  case k2 => k_asm
  case k3 => exact X'
  case k5 => exact TV
  case k6 => exact rfl
  case kc1 => exact c1
  case kc2 => exact c2
  case k7 => ktr_room
  case k8 => ktr_units
  intro ps7 qs7 ex7 tz7 T17 T27 hex7 h7 tk7 F7 N7
  have N7' := front N7
  have hr7 := hrG _ (hr_app hex7 hr5)
  generalize ex7 ++ ((L + 1 + 1 + 1, oTu) :: (L + 1 + 1, oTk) :: (L + 1, oDr) :: (TL, W.listOf tvs.toArray tn) :: (DR, W.listOf dvs.toArray dn) :: T5) = T7 at *
  clear N7
  try dsimp only
  k_steps
  refine Halt.mk ?_
  k_dflt (refine' cn_useE (d251 w W2 (k + 1) tu _ _ _ _ _ _ (tab_front T17) (tab_front T27) w0 w1 (by omega) (by omega) btu hr7) OutI.el ?k1 ?k2 ?k3 ?k4 ?k5 ?k6 ?kc1 ?kc2 ?k7 ?k8 ?_)
  case k4 => k_asm
  case k1 => exact K'
  case k2 => k_asm
  case k3 => exact X'
  case k5 => exact TV
  case k6 => exact rfl
  case kc1 => exact c1
  case kc2 => exact c2
  case k7 => ktr_room
  case k8 => ktr_units
  intro ps8 qs8 ex8 tz8 T18 T28 hex8 h8 tk8 F8 N8
  have N8' := front N8
  have hr8 := hrG _ (hr_app hex8 hr7)
  generalize ex8 ++ ((L + 1 + 1 + 1, oTu) :: (L + 1 + 1, oTk) :: (L + 1, oDr) :: (TL, W.listOf tvs.toArray tn) :: (DR, W.listOf dvs.toArray dn) :: T7) = T8 at *
  clear N8
  have hM : (0 : Int) < 2 ^ (k + 1).toNat := kbt_pos _
  have g0 : 0 ≤ vl.fmod (2 ^ (k + 1).toNat) := Int.fmod_nonneg_of_pos _ hM
  have g1 : 0 ≤ W3.fmod (2 ^ (k + 1).toNat) := Int.fmod_nonneg_of_pos _ hM
  rw [hfar] at *
  generalize hA : vl.fmod (2 ^ (k + 1).toNat) = A1 at *
  generalize hB : W3.fmod (2 ^ (k + 1).toNat) = A2 at *
  have hml : IntMulOk fl (2 ^ k.toNat) := smallMul hfl
  try dsimp only
  k_steps
  k_dflt (refine' min3_N ?hh ?F ?N g0 g1 g0 ?_)
  case hh => exact rfl
  case F => k_asm
  case N => k_asm
  rintro h9 tk9 M9 tM9 hM9 F9 N9
  try dsimp only
  k_steps
  all_goals first | (refine Halt.mk ?_) | (exfalso; rename_i hc; exact hc rfl) | (exfalso; rename_i hc; exact hc hth) | (exfalso; omega)
  exact law_d w K' X' TV c1 c2 (by assumption) (by assumption) T18 T28 hr8 dTu dTk dDr hT q5 q6 q7 btu l0 l2 l3 hQ


end
section
set_option maxRecDepth 100000
set_option maxHeartbeats 0
theorem fillLB : (PySem.Challenge.rw_wb0084_01 = PySem.Challenge.rw_wb0084_01) ∧ K = K := by
  k_fill
  exact ⟨rfl, rfl⟩
local macro_rules | `(tactic| walk_at "execs cons") => `(tactic| ((with_reducible show wpAny _ _ (execs (Stmt.Assign [Expr.Tuple (Expr.Name (Str.ofString "told") _ :: _) _ _] _ _ :: _) _) _ _ _); refine Halt.go ?_))
local macro_rules | `(tactic| walk_at "execs cons") => `(tactic| (k_here; dsimp only))
local macro_rules | `(tactic| walk_at "execs nil") => `(tactic| (k_here; dsimp only))
theorem law_b (w : World) {mg mb : Str → Option Value} {mean : Mt} {G : Heap} {L fa : Addr} {cd : Value} {r : Str → Option Value} {s : Shared} {TL DR : Addr} {tvs dvs : List Value} {tn dn : Nat} {dts : List Tk} {oTu oTk oDr : Obj} {x k tu z : Int} {tx tkk tt2 tz : Tok} {Q : Flow → Shared → Prop} {E : Value → Shared → Prop}
    (K' : Below callerA G [] G) (X' : (K w.params).In G) (TV : TopV mg mb mean G) (c1 : CodeHd G 34 30) (c2 : CodeHd G 41 37)
    (F6 : Fr G L s.heap (fun y => kstB r [(Str.ofString "x", .int x tx), (Str.ofString "k", .int k tkk), (Str.ofString "z", .int z tz)] y))
    (N6 : News G L s.heap [(L + 1 + 1 + 1, oTu), (TL, W.listOf tvs.toArray tn), (DR, W.listOf dvs.toArray dn), (L + 1 + 1, oTk), (L + 1, oDr), (37, tabObj #[]), (30, tabObj #[])])
    (dTu : oTu.data = .cell (some (.int tu tt2))) (dTk : oTk.data = .cell (some (.ref TL))) (dDr : oDr.data = .cell (some (.ref DR)))
    (hT : TkAre tvs dts) (q5 : TkAre dvs dts) (q6 : WF 1 dts) (q7 : dts.length ≤ 9) (bx0 : -2048 ≤ x) (bx1 : x < 2048) (bk0 : 0 ≤ k) (bk1 : k < 6) (btu : tu = 1 ∨ tu = -1) (bz0 : -1000 ≤ z) (bz1 : z ≤ 1000)
    (l0 : 37 < L ∧ 30 < L) (l2 : L + 1 + 1 + 1 < DR ∧ L + 1 + 1 < DR ∧ L + 1 < DR ∧ 37 < DR ∧ 30 < DR) (l3 : DR < TL ∧ L + 1 + 1 + 1 < TL ∧ L + 1 + 1 < TL ∧ L + 1 < TL ∧ 37 < TL ∧ 30 < TL)
    (hQ : ∀ h' tk' m' ps qs news', Fr G L h' m' → News G L h' ((30, tabObj ps) :: (37, tabObj qs) :: news') → Q (.ret (.bool true)) { s with heap := h', toks := tk' }) :
    wpAny (model pw w) (callerA.deeper (envOfC (Str.ofString "law") fSco35 L fa cd)) (execs (fBody35.drop 4) (envOfC (Str.ofString "law") fSco35 L fa cd)) Q E s := by
  dsimp only [fBody35, consOf, List.drop_succ_cons, List.drop_zero]
  have hb1 : (↑(Builtin.Int.intBits 1) : Int) + k ≤ 2 ^ 27 := by
    have : Builtin.Int.intBits 1 ≤ 64 := intBits_le_iff.mpr (by decide)
    omega
  have hb2 : (↑(Builtin.Int.intBits z) : Int) + (k + 1) ≤ 2 ^ 27 := by
    have : Builtin.Int.intBits z ≤ 64 := intBits_le_iff.mpr (by omega)
    omega
  try dsimp only
  k_steps
  refine Halt.mk ?_
  k_dflt (refine' cn_useE (d84 w 1 k _ _ _ bk0 hb1) OutN.el ?k1 ?k2 ?k3 ?k4 ?k5 ?k6 ?kc1 ?kc2 ?k7 ?k8 ?_)
  case k4 => k_asm
  case k1 => exact K'
  case k2 => k_asm
  case k3 => exact X'
  case k5 => exact TV
  case k6 => exact rfl
  case kc1 => exact c1
  case kc2 => exact c2
  case k7 => ktr_room
  case k8 => ktr_units
  intro t1 h1 tk1 F1 N1
  try dsimp only
  k_steps
  refine Halt.mk ?_
  k_dflt (refine' cn_useE (d119 w _ _ _ _ _) OutN.el ?k1 ?k2 ?k3 ?k4 ?k5 ?k6 ?kc1 ?kc2 ?k7 ?k8 ?_)
  case k4 => k_asm
  case k1 => exact K'
  case k2 => k_asm
  case k3 => exact X'
  case k5 => exact TV
  case k6 => exact rfl
  case kc1 => exact c1
  case kc2 => exact c2
  case k7 => ktr_room
  case k8 => ktr_units
  intro t2 h2 tk2 F2 N2
  try dsimp only
  k_steps
  refine Halt.mk ?_
  k_dflt (refine' cn_useE (d84 w z (k + 1) _ _ _ (by omega) hb2) OutN.el ?k1 ?k2 ?k3 ?k4 ?k5 ?k6 ?kc1 ?kc2 ?k7 ?k8 ?_)
  case k4 => k_asm
  case k1 => exact K'
  case k2 => k_asm
  case k3 => exact X'
  case k5 => exact TV
  case k6 => exact rfl
  case kc1 => exact c1
  case kc2 => exact c2
  case k7 => ktr_room
  case k8 => ktr_units
  intro t3 h3 tk3 F3 N3
  try dsimp only
  k_steps
  refine Halt.mk ?_
  k_dflt (refine' cn_useE (d63 w _ _ _ _ _) OutN.el ?k1 ?k2 ?k3 ?k4 ?k5 ?k6 ?kc1 ?kc2 ?k7 ?k8 ?_)
  case k4 => k_asm
  case k1 => exact K'
  case k2 => k_asm
  case k3 => exact X'
  case k5 => exact TV
  case k6 => exact rfl
  case kc1 => exact c1
  case kc2 => exact c2
  case k7 => ktr_room
  case k8 => ktr_units
  intro t4 h4 tk4 F4 N4
  rw [Int.one_mul] at *
  try dsimp only
  k_steps
  all_goals first | (refine Halt.mk ?_) | (exfalso; rename_i hc; exact hc rfl)
  rename_i D1 hh1 lD1 hh2 hh3 hh4 zF zN tk9 he1 he2
  clear he1 he2
  have M1 : News G L _ [(DR, W.listOf dvs.toArray dn), (L + 1 + 1 + 1, oTu), (TL, W.listOf tvs.toArray tn), (L + 1 + 1, oTk), (L + 1, oDr), (37, tabObj #[]), (30, tabObj #[])] := fun p hp => zN p ((by (repeat (refine List.forall_mem_cons.mpr ⟨by (repeat (first | exact List.mem_cons_self .. | refine List.mem_cons_of_mem _ ?_)), ?_⟩)); exact List.forall_mem_nil _ : ∀ p ∈ [(DR, W.listOf dvs.toArray dn), (L + 1 + 1 + 1, oTu), (TL, W.listOf tvs.toArray tn), (L + 1 + 1, oTk), (L + 1, oDr), (37, tabObj #[]), (30, tabObj #[])], p ∈ _) p hp)
  clear zN
  k_dflt (refine' cn_useE (d244 w DR dvs dts dn x k tx tkk _ q5 q6 q7 (by omega) (by omega) bk0 (by omega)) OutPlain.el ?k1 ?k2 ?k3 ?k4 ?k5 ?k6 ?kc1 ?kc2 ?k7 ?k8 ?_)
  case k4 => exact M1
  case k1 => exact K'
  case k2 => k_asm
  case k3 => exact X'
  case k5 => exact TV
  case k6 => exact rfl
  case kc1 => exact c1
  case kc2 => exact c2
  case k7 => ktr_room
  case k8 => ktr_units
  intro D5 t5 u5 l5 h5 tk5 F5 N5
  have l6 := l5
  (try k_lt l6)
  try dsimp only
  k_steps
  refine Halt.mk ?_
  obtain ⟨hfl, hvl, hfar, hth⟩ := law_facts (x := x) (k := k) (z := z) q6 bk0
  obtain ⟨bn0, bn1⟩ := near_bnd bx0 bx1 bk0 bk1
  obtain ⟨ba0, ba1⟩ := away_bnd bx0 bx1 bk0 bk1 bz0 bz1
  with_reducible rename Fr _ _ _ _ => zF
  with_reducible rename News _ _ _ _ => zN
  have M2 : News G L _ [(TL, W.listOf tvs.toArray tn), (30, tabObj #[]), (37, tabObj #[]), (DR, W.listOf dvs.toArray dn), (L + 1 + 1 + 1, oTu), (L + 1 + 1, oTk), (L + 1, oDr)] := fun p hp => zN p ((by (repeat (refine List.forall_mem_cons.mpr ⟨by (repeat (first | exact List.mem_cons_self .. | refine List.mem_cons_of_mem _ ?_)), ?_⟩)); exact List.forall_mem_nil _ : ∀ p ∈ [(TL, W.listOf tvs.toArray tn), (30, tabObj #[]), (37, tabObj #[]), (DR, W.listOf dvs.toArray dn), (L + 1 + 1 + 1, oTu), (L + 1 + 1, oTk), (L + 1, oDr)], p ∈ _) p hp)
  have F7 := kst_frOut (x := Str.ofString "told") (stored := []) (ps := [(Str.ofString "x", .int x tx), (Str.ofString "k", .int k tkk), (Str.ofString "near", .int (Builtin.bitXor x (2 ^ k.toNat)) t2), (Str.ofString "away", .int (x + z * 2 ^ (k + 1).toNat) t4), (Str.ofString "value", .int ((runP x k dts).headD (0, 0)).fst t5), (Str.ofString "flips", .int ((runP x k dts).headD (0, 0)).snd u5)])
    (List.forall_mem_cons.mpr ⟨by with_unfolding_all rfl, List.forall_mem_cons.mpr ⟨by with_unfolding_all rfl, List.forall_mem_cons.mpr ⟨by with_unfolding_all rfl, List.forall_mem_cons.mpr ⟨by with_unfolding_all rfl, List.forall_mem_cons.mpr ⟨by with_unfolding_all rfl, List.forall_mem_cons.mpr ⟨by with_unfolding_all rfl, List.forall_mem_nil _⟩⟩⟩⟩⟩⟩) (fun _ _ _ _ => rfl) zF
  exact law_c w K' X' TV c1 c2 F7 M2 dTu dTk dDr hT q5 q6 q7 (by omega) (by omega) bn0 bn1 ba0 ba1 bk0 bk1 btu hfl hvl hfar hth l0 l2 l3 hQ


end
section
set_option maxRecDepth 100000
set_option maxHeartbeats 0
local macro_rules | `(tactic| walk_at "execs cons") => `(tactic| ((with_reducible show wpAny _ _ (execs (Stmt.Assign [Expr.Tuple (Expr.Name (Str.ofString "x") _ :: _) _ _] _ _ :: _) _) _ _ _); refine Halt.go ?_))
theorem cnS_useE {w : World} {f : Addr} {d u : Nat} {vs : List Value} {news : Led} {SC : Addr} {xs : List Value} {Out : Led → Value → Prop} {TT : (Led → Value → Prop) → Prop} (C : CnS w f d u vs news SC xs Out) (el : ∀ G : Led → Value → Prop, TT G → ∀ n v, Out n v → G n v)
    {mg mb : Str → Option Value} {mean : Mt} {dp un : Nat} {gd : Option (List Code)} {cn : Str} {cs : Scope} {a : Addr} {ccd : Value} {cl : List (Str × Addr)} {outer : List Env} {A₀ : Around} {base h₀ : Heap} {L : Addr} {m : Str → Option Value} {s : Shared}
    {Q E : Value → Shared → Prop} (B : Below A₀ base outer h₀) (F : Fr h₀ L s.heap m) (X : (K w.params).In h₀) (N : News h₀ L s.heap news) (T : TopV mg mb mean h₀) (hk : cs.kind = .function) (c1 : CodeHd base 34 30) (c2 : CodeHd base 41 37) (hd : dp + d < recursionLimit) (hu : un + u < cLine) (hS : h₀.IsList SC xs.toArray)
    (ret : TT fun n v => ∀ h' tk', Fr h₀ L h' m → News h₀ L h' n → Q v { s with heap := h', toks := tk' }) :
    wpAny (model pw w) (ktrTop dp un gd cn cs L a ccd cl outer) (call (.ref f) vs) Q E s := C _ _ _ _ _ _ _ _ _ _ _ _ _ _ _ _ _ _ _ _ B F X N T hk c1 c2 hd hu hS fun r n h' tk' F' N' o => el _ ret n r o h' tk' F' N'
noncomputable abbrev pgW : Program := PySem.Challenge.rw_wb0084_01.row.prog
theorem bare_a : readsOut pgW pgW.main.body (Str.ofString "vars") = false := by decide +kernel
theorem bare_b : readsOut pgW pgW.main.body (Str.ofString "dir") = false := by decide +kernel
theorem bare_c : readsOut pgW pgW.main.body (Str.ofString "locals") = false := by decide +kernel
theorem bare_ok : ([Str.ofString "vars", Str.ofString "dir", Str.ofString "locals"] : List Str).filter (readsOut pgW pgW.main.body) = [] := by
  simp only [List.filter_cons, bare_a, bare_b, bare_c, Bool.false_eq_true, if_false, List.filter_nil]
theorem road_ok : noRoadLSs { strict := !(importedModules pgW.main.body).all cThrough.contains, foot := none, bare := ([Str.ofString "vars", Str.ofString "dir", Str.ofString "locals"] : List Str).filter (readsOut pgW pgW.main.body) } pgW.main.body = true := by
  rw [bare_ok]
  decide +kernel
theorem row_ok : OpenRow.wellSaid (OpenLaw.row PySem.Challenge.rw_wb0084_01) = true := by
  unfold OpenRow.wellSaid OpenRow.partSaid looksOpen
  simp only [Bool.and_eq_true]
  repeat' apply And.intro
  all_goals first
    | with_reducible exact road_ok
    | decide +kernel
theorem said_ok : OpenLaw.wellSaid PySem.Challenge.rw_wb0084_01 = true := by
  unfold OpenLaw.wellSaid
  simp only [Bool.and_eq_true]
  repeat' apply And.intro
  · exact row_ok
  all_goals decide +kernel
theorem law_holds : PySem.Challenge.rw_wb0084_01.Holds := by
  w_on
  refine holds_law said_ok fun said => ?_
  refine holds_open (q := vw) (loose := lo) (Xt := XtT) (XP := XL vw []) (Yf := Hook.obs (kmHook K Kas KasE [30, 37])) (Ya := Hook.val (kmHook K Kas KasE [30, 37])) (YP := Hook.says (kmHook K Kas KasE [30, 37])) (N := 29786) left0 (Hook.of (kmHook K Kas KasE [30, 37])) (Hook.keeps (kmHook K Kas KasE [30, 37])) (fun s e => xl_of s (Bool.and_eq_true_iff.mp e).1) XL.keeps (by rfl) (by rfl) (by rfl) (fun s e => recFacts_of (Bool.and_eq_true_iff.mp e).2) (by rfl) (by first | assumption | decide +kernel) (by decide +kernel) ⟨rfl, rfl, rfl, rfl, rfl, by decide +kernel⟩ ?hw ?hc
  case hw => w_witness2
  case hc =>
    k_fill
    intro w s₀ s₁ mg mb G Y fa o pm cd doc dV kV ho hd hcd hD hmg hg args vals as hpre hlay hrd hwl hlo
    have KX := km_in_of Y
    km_tabs Y
    have X := (Ground.X G).1
    have V := (Ground.X G).2
    refine Ground.open G ?_
    intro T B D TE TW
    try (refine guard_noD D (by decide +kernel) ?_; clear D)
    km_lay T hmg ho hd cd
    clear hmg
    wrow_args hpre hlay hrd hwl hlo
    all_goals (
      first | refine callC_kw (enter_call ?_) | refine enter_call ?_
      w_top on
      kn_posts
      w_call any ho hd hcd hD T F
      clear hd
      kn_ghosts F T
      k_drop
      skip)
    refine any_QE fun Q9 E9 hQ9 => ?_
    try dsimp only
    k_steps
    refine Halt.mk ?_
    rename_i ns hs9 hlay9 hL9 hr9 hl29 wa wb SC xs wc hSC hra hw1 hr0 hI hrw hct hct2 h1 tk1 o1 o2 o3 e1 e2 e3 XC X' T' K' F' c2 N' l0
    have c1 := codeHd
    have TV : TopV mg mb (ExcName.means s₀.heap) (ghostOf s₁.heap [(41, 37), (34, 30)]) := by rw [loose_eq] at T'; exact T'
    have hlen : xs.length ≤ 63 := by have := hI.length; omega
    k_dflt (refine' cnS_useE (d223 w SC xs ns _ hI hlen) OutDrawn.el ?k1 ?k2 ?k3 ?k4 ?k5 ?k6 ?kc1 ?kc2 ?k7 ?k8 ?kS ?_)
    case k4 => exact N'
    case k1 => exact K'
    case k2 => exact F'
    case k3 => exact X'
    case k5 => exact TV
    case k6 => exact rfl
    case kc1 => exact c1
    case kc2 => exact c2
    case k7 => ktr_room
    case k8 => ktr_units
    case kS => exact lifted
    intro D LC DR cvs cs cnt codes tt dvs dts dn q1 q2 q3 q4 q5 q6 q7 q8 l9 hLD hDD h9 tk9 F9 N9
    have l1 := l9
    (try k_lt l1)
    have hDL : @LT.lt Nat _ LC D := Nat.lt_trans hLD hDD
    try clear hT8
    try clear hT9
    try clear B
    try clear TE
    try clear TW
    try clear Y
    try clear KX
    try clear X
    try clear V
    try clear hSC
    try clear hra
    try clear hw1
    try clear hr0
    try clear hrw
    try clear G
    try clear hlay9
    try clear hs9
    try clear hL9
    try clear hr9
    try clear hl29
    try clear F'
    try clear N'
    try dsimp only
    k_steps
    refine Halt.mk ?_
    k_dflt (refine' cn_useE (d230 w codes dts tt _ q4 (by omega)) OutToks.el ?k1 ?k2 ?k3 ?k4 ?k5 ?k6 ?kc1 ?kc2 ?k7 ?k8 ?_)
    case k4 => k_asm
    case k1 => exact K'
    case k2 => k_asm
    case k3 => exact X'
    case k5 => exact TV
    case k6 => exact rfl
    case kc1 => exact c1
    case kc2 => exact c2
    case k7 => ktr_room
    case k8 => ktr_units
    intro TL tvs tn hT lT h8 tk8 F8 N8
    have l2 := lT
    (try k_lt l2)
    try dsimp only
    k_steps
    refine Halt.mk ?_
    with_reducible rename News _ _ _ _ => zN
    k_dflt (refine' ne_toks zN ?m1 ?m2 hT q5 (fun c h => WF.okS_mem q6 c h) ?hu ?_)
    case m1 => k_mem
    case m2 => k_mem
    case hu => ktr_units
    try dsimp only
    k_steps
    refine Halt.mk ?_
    rename_i oDr dDr tkx hzz oTk zF dTk
    have hwf := q6
    have p12 : (2 : Int) ^ (Int.toNat 12) = 4096 := by decide
    have p11 : (2 : Int) ^ (Int.toNat 11) = 2048 := by decide
    try dsimp only
    refine cut_stmt2 (σ := Int × Tok × Int × Tok × Int × Tok × Int × Tok × Obj)
      (fun c => (s₁.heap.objs.size + 1 + 1 + 1, c.2.2.2.2.2.2.2.2) :: (TL, W.listOf tvs.toArray tn) :: (DR, W.listOf dvs.toArray dn) :: (s₁.heap.objs.size + 1 + 1, oTk) :: (s₁.heap.objs.size + 1, oDr) :: (37, tabObj #[]) :: (30, tabObj #[]) :: [])
      (fun c => [(Str.ofString "x", .int c.1 c.2.1), (Str.ofString "k", .int c.2.2.1 c.2.2.2.1), (Str.ofString "z", .int c.2.2.2.2.2.2.1 c.2.2.2.2.2.2.2.1)]) (Str.ofString "near") []
      (fun c => -2048 ≤ c.1 ∧ c.1 < 2048 ∧ 0 ≤ c.2.2.1 ∧ c.2.2.1 < 6 ∧ (c.2.2.2.2.1 = 1 ∨ c.2.2.2.2.1 = -1) ∧ -1000 ≤ c.2.2.2.2.2.2.1 ∧ c.2.2.2.2.2.2.1 ≤ 1000 ∧ c.2.2.2.2.2.2.2.2.data = .cell (some (.int c.2.2.2.2.1 c.2.2.2.2.2.1))) zF ?h1 ?h2
    case h1 =>
      intro t0 Q7 E7 hQ7
      clear hQ9
      try dsimp only
      k_steps
      with_reducible rename Fr _ _ _ _ => yF
      with_reducible rename News _ _ _ _ => yN
      refine hQ7 _ ?_
      refine' CutR.mk' (_, _, _, _, _, _, _, _, _) yF yN ?zs ?za ?zb ?zp
      case za => exact List.forall_mem_cons.mpr ⟨by with_unfolding_all rfl, List.forall_mem_cons.mpr ⟨by with_unfolding_all rfl, List.forall_mem_cons.mpr ⟨by with_unfolding_all rfl, List.forall_mem_nil _⟩⟩⟩
      case zs => (repeat (refine List.forall_mem_cons.mpr ⟨(by repeat (first | (with_reducible exact List.mem_cons_self ..) | (with_reducible refine List.mem_cons_of_mem _ ?_))), ?_⟩)); exact List.forall_mem_nil _
      case zb =>
        intro z z1 z2 z3
        have w0 : z ≠ Str.ofString "x" := z2 _ (.head _)
        have w1 : z ≠ Str.ofString "k" := z2 _ (.tail _ (.head _))
        have w2 : z ≠ Str.ofString "z" := z2 _ (.tail _ (.tail _ (.head _)))
        simp only [w0, w1, w2, z1, ↓reduceIte]
      case zp =>
        rename_i dTu' _ _
        have f1 : 0 ≤ (cs.getD (Int.toNat 9) 0).fmod (2 ^ Int.toNat 12) := Int.fmod_nonneg_of_pos _ (by decide)
        have f2 : (cs.getD (Int.toNat 9) 0).fmod (2 ^ Int.toNat 12) < 2 ^ Int.toNat 12 := Int.fmod_lt_of_pos _ (by decide)
        rw [p12] at f1 f2
        have f3 : 0 ≤ (cs.getD (Int.toNat 10) 0).fmod 6 := Int.fmod_nonneg_of_pos _ (by decide)
        have f4 : (cs.getD (Int.toNat 10) 0).fmod 6 < 6 := Int.fmod_lt_of_pos _ (by decide)
        have f5 : 0 ≤ ((cs.getD (Int.toNat 10) 0).fdiv 6).fmod 2 := Int.fmod_nonneg_of_pos _ (by decide)
        have f6 : ((cs.getD (Int.toNat 10) 0).fdiv 6).fmod 2 < 2 := Int.fmod_lt_of_pos _ (by decide)
        have f7 : 0 ≤ ((cs.getD (Int.toNat 10) 0).fdiv 12).fmod 2001 := Int.fmod_nonneg_of_pos _ (by decide)
        have f8 : ((cs.getD (Int.toNat 10) 0).fdiv 12).fmod 2001 < 2001 := Int.fmod_lt_of_pos _ (by decide)
        refine ⟨?_, ?_, f3, f4, ?_, ?_, ?_, by first | exact dTu' | assumption⟩
        · dsimp only; rw [p12, p11]; omega
        · dsimp only; rw [p12, p11]; omega
        · dsimp only; omega
        · dsimp only; omega
        · dsimp only; omega
    case h2 =>
      with_reducible refine prod9 fun x tx k tkk tu tt2 z tz oTu => ?_
      intro u2 h2 tk2 hP2 _ F6 N6
      with_reducible refine and8 hP2 fun bx0 bx1 bk0 bk1 btu bz0 bz1 dTu => ?_
      clear hP2
      dsimp only at bx0 bx1 bk0 bk1 btu bz0 bz1 dTu F6 N6
      try clear zF
      try clear zN
      try clear F8
      try clear N8
      try clear F9
      try clear N9
      try clear lT
      try clear l9
      have l2' : s₁.heap.objs.size + 1 + 1 + 1 < DR ∧ s₁.heap.objs.size + 1 + 1 < DR ∧ s₁.heap.objs.size + 1 < DR ∧ 37 < DR ∧ 30 < DR := ⟨Nat.lt_trans l1.1 hLD, Nat.lt_trans l1.2.1 hLD, Nat.lt_trans l1.2.2.1 hLD, Nat.lt_trans l1.2.2.2.1 hLD, Nat.lt_trans l1.2.2.2.2 hLD⟩
      refine law_b w K' X' TV c1 c2 F6 N6 dTu dTk dDr hT q5 hwf q7 bx0 bx1 bk0 bk1 btu bz0 bz1 ?l0 l2' ?l3 ?hQ
      case l3 => exact ⟨l2.2.1, l2.2.2.2⟩
      case l0 => exact l0
      case hQ =>
        intro h' tk' m' ps qs news' F' N'
        refine hQ9 _ _ ?_
        try dsimp only
        k_steps


end
end Mine
theorem PySem.Challenge.cw_wb0084_01_holds : PySem.Challenge.rw_wb0084_01.Holds :=
  Mine.law_holds
